import JvmDerived
import JvmDerived.Pilot.@@N@@Statement
import JvmDerived.Pilot.@@N@@Code
set_option linter.unusedVariables false
set_option linter.unusedSimpArgs false
namespace Jvm.RoadKit
open Sem ClassFile Op Lib Jvm.Stand Jvm.Free Jvm.LawKit
section New
variable {p : Program} {l : Launch} {e : Env} {R : Room} {s : State} {m : MethodId} {args : Array Value} {below : List Frame} {meth : Method} {c : Code} {T : State} {locs : List Loc} {cells slots : Nat}
theorem retI (X : Stand p l e R s m args below meth c T locs cells slots) (hx : p.tables.exec = Jvm.exec) {pc : Nat} {Ls : Array Slot} {z : Int32} {rest : List Value} (hret : meth.sig.returnType = some .int) (hd : decode c.code pc = .ok (.ireturn, 1)) {fs : List Frame}
    (hl : ∀ (f : JFrame) (acts : List Action), f.method = m → f.locked = none → f.entered = [] → (doReturn e (T.setTop f) acts (some (.int z))).1 = T.setFrames fs) : Steps p.tables e below (T.setTop (mkF m pc Ls (.int z :: rest))) (T.setFrames fs) := by
  have hm' : T.vm.method? m = some meth := X.method'
  have hn : narrow .int (.int z) = .int z := rfl
  show Steps p.tables e below (T.setTop { method := m, pc := pc, locals := Ls, stack := _ :: rest, locked := none }) _
  jvm_step X.here [X.here.top, hx, hd, hm', hret, hn]
  first | (intro acts; rw [hl _ acts rfl rfl rfl]) | rw [hl _ _ rfl rfl rfl]
  exact Steps.refl _
theorem retD (X : Stand p l e R s m args below meth c T locs cells slots) (hx : p.tables.exec = Jvm.exec) {pc : Nat} {Ls : Array Slot} {z : UInt64} {rest : List Value} (hret : meth.sig.returnType = some .double) (hd : decode c.code pc = .ok (.dreturn, 1)) {fs : List Frame}
    (hl : ∀ (f : JFrame) (acts : List Action), f.method = m → f.locked = none → f.entered = [] → (doReturn e (T.setTop f) acts (some (.double z))).1 = T.setFrames fs) : Steps p.tables e below (T.setTop (mkF m pc Ls (.double z :: rest))) (T.setFrames fs) := by
  have hm' : T.vm.method? m = some meth := X.method'
  show Steps p.tables e below (T.setTop { method := m, pc := pc, locals := Ls, stack := _ :: rest, locked := none }) _
  jvm_step X.here [X.here.top, hx, hd, hm', hret]
  first | (intro acts; rw [hl _ acts rfl rfl rfl]) | rw [hl _ _ rfl rfl rfl]
  exact Steps.refl _
end New
end Jvm.RoadKit
namespace Jvm.Pilot.@@N@@
open Jvm
section OwnSteps
open Jvm Jvm.ClassFile Sem Op Lib Jvm.Free Jvm.Stand
open Jvm.RoadKit (lcmpW)
theorem own_f_iload {tb : Tables} [Ours tb] {e : Env} {below : List Frame} {T target : State} {m : MethodId} {c : Code} {Ls : Array Slot} {S : List Value} {pc pc' : Nat} {k : Nat} {v : Int32} (h : At T m c below) (hx : tb.exec = Jvm.exec) (hd : decode c.code pc = .ok (.iload k, 2)) (hl : Ls[k]? = some (.val (.int v))) (hp : pc + 2 = pc') (hr : Steps tb e below (T.setTop (mkF m pc' Ls (.int v :: S))) target) : Steps tb e below (T.setTop (mkF m pc Ls (S))) target := by subst hp; exact XS.iload h hx rfl hd hl hr
theorem own_f_iloadN {tb : Tables} [Ours tb] {e : Env} {below : List Frame} {T target : State} {m : MethodId} {c : Code} {Ls : Array Slot} {S : List Value} {pc pc' : Nat} {k : Fin 4} {v : Int32} (h : At T m c below) (hx : tb.exec = Jvm.exec) (hd : decode c.code pc = .ok (.iload_n k, 1)) (hl : Ls[k.val]? = some (.val (.int v))) (hp : pc + 1 = pc') (hr : Steps tb e below (T.setTop (mkF m pc' Ls (.int v :: S))) target) : Steps tb e below (T.setTop (mkF m pc Ls (S))) target := by subst hp; exact XS.iloadN h hx rfl hd hl hr
theorem own_f_istore {tb : Tables} [Ours tb] {e : Env} {below : List Frame} {T target : State} {m : MethodId} {c : Code} {Ls : Array Slot} {S : List Value} {pc pc' : Nat} {k : Nat} {v : Int32} {Ls' : Array Slot} (h : At T m c below) (hx : tb.exec = Jvm.exec) (hd : decode c.code pc = .ok (.istore k, 2)) (hl : storeLocals Ls k (.int v) = some Ls') (hp : pc + 2 = pc') (hr : Steps tb e below (T.setTop (mkF m pc' Ls' (S))) target) : Steps tb e below (T.setTop (mkF m pc Ls (.int v :: S))) target := by subst hp; exact XS.istore h hx rfl hd rfl hl hr
theorem own_f_istoreN {tb : Tables} [Ours tb] {e : Env} {below : List Frame} {T target : State} {m : MethodId} {c : Code} {Ls : Array Slot} {S : List Value} {pc pc' : Nat} {k : Fin 4} {v : Int32} {Ls' : Array Slot} (h : At T m c below) (hx : tb.exec = Jvm.exec) (hd : decode c.code pc = .ok (.istore_n k, 1)) (hl : storeLocals Ls k.val (.int v) = some Ls') (hp : pc + 1 = pc') (hr : Steps tb e below (T.setTop (mkF m pc' Ls' (S))) target) : Steps tb e below (T.setTop (mkF m pc Ls (.int v :: S))) target := by subst hp; exact XS.istoreN h hx rfl hd rfl hl hr
theorem own_f_lload {tb : Tables} [Ours tb] {e : Env} {below : List Frame} {T target : State} {m : MethodId} {c : Code} {Ls : Array Slot} {S : List Value} {pc pc' : Nat} {k : Nat} {v : Int64} (h : At T m c below) (hx : tb.exec = Jvm.exec) (hd : decode c.code pc = .ok (.lload k, 2)) (hl : Ls[k]? = some (.val (.long v))) (hp : pc + 2 = pc') (hr : Steps tb e below (T.setTop (mkF m pc' Ls (.long v :: S))) target) : Steps tb e below (T.setTop (mkF m pc Ls (S))) target := by subst hp; exact XS.lload h hx rfl hd hl hr
theorem own_f_lloadN {tb : Tables} [Ours tb] {e : Env} {below : List Frame} {T target : State} {m : MethodId} {c : Code} {Ls : Array Slot} {S : List Value} {pc pc' : Nat} {k : Fin 4} {v : Int64} (h : At T m c below) (hx : tb.exec = Jvm.exec) (hd : decode c.code pc = .ok (.lload_n k, 1)) (hl : Ls[k.val]? = some (.val (.long v))) (hp : pc + 1 = pc') (hr : Steps tb e below (T.setTop (mkF m pc' Ls (.long v :: S))) target) : Steps tb e below (T.setTop (mkF m pc Ls (S))) target := by subst hp; exact XS.lloadN h hx rfl hd hl hr
theorem own_f_lstore {tb : Tables} [Ours tb] {e : Env} {below : List Frame} {T target : State} {m : MethodId} {c : Code} {Ls : Array Slot} {S : List Value} {pc pc' : Nat} {k : Nat} {v : Int64} {Ls' : Array Slot} (h : At T m c below) (hx : tb.exec = Jvm.exec) (hd : decode c.code pc = .ok (.lstore k, 2)) (hl : storeLocals Ls k (.long v) = some Ls') (hp : pc + 2 = pc') (hr : Steps tb e below (T.setTop (mkF m pc' Ls' (S))) target) : Steps tb e below (T.setTop (mkF m pc Ls (.long v :: S))) target := by subst hp; exact XS.lstore h hx rfl hd rfl hl hr
theorem own_f_lstoreN {tb : Tables} [Ours tb] {e : Env} {below : List Frame} {T target : State} {m : MethodId} {c : Code} {Ls : Array Slot} {S : List Value} {pc pc' : Nat} {k : Fin 4} {v : Int64} {Ls' : Array Slot} (h : At T m c below) (hx : tb.exec = Jvm.exec) (hd : decode c.code pc = .ok (.lstore_n k, 1)) (hl : storeLocals Ls k.val (.long v) = some Ls') (hp : pc + 1 = pc') (hr : Steps tb e below (T.setTop (mkF m pc' Ls' (S))) target) : Steps tb e below (T.setTop (mkF m pc Ls (.long v :: S))) target := by subst hp; exact XS.lstoreN h hx rfl hd rfl hl hr
theorem own_f_dload {tb : Tables} [Ours tb] {e : Env} {below : List Frame} {T target : State} {m : MethodId} {c : Code} {Ls : Array Slot} {S : List Value} {pc pc' : Nat} {k : Nat} {v : UInt64} (h : At T m c below) (hx : tb.exec = Jvm.exec) (hd : decode c.code pc = .ok (.dload k, 2)) (hl : Ls[k]? = some (.val (.double v))) (hp : pc + 2 = pc') (hr : Steps tb e below (T.setTop (mkF m pc' Ls (.double v :: S))) target) : Steps tb e below (T.setTop (mkF m pc Ls (S))) target := by subst hp; exact XS.dload h hx rfl hd hl hr
theorem own_f_dloadN {tb : Tables} [Ours tb] {e : Env} {below : List Frame} {T target : State} {m : MethodId} {c : Code} {Ls : Array Slot} {S : List Value} {pc pc' : Nat} {k : Fin 4} {v : UInt64} (h : At T m c below) (hx : tb.exec = Jvm.exec) (hd : decode c.code pc = .ok (.dload_n k, 1)) (hl : Ls[k.val]? = some (.val (.double v))) (hp : pc + 1 = pc') (hr : Steps tb e below (T.setTop (mkF m pc' Ls (.double v :: S))) target) : Steps tb e below (T.setTop (mkF m pc Ls (S))) target := by subst hp; exact XS.dloadN h hx rfl hd hl hr
theorem own_f_dstore {tb : Tables} [Ours tb] {e : Env} {below : List Frame} {T target : State} {m : MethodId} {c : Code} {Ls : Array Slot} {S : List Value} {pc pc' : Nat} {k : Nat} {v : UInt64} {Ls' : Array Slot} (h : At T m c below) (hx : tb.exec = Jvm.exec) (hd : decode c.code pc = .ok (.dstore k, 2)) (hl : storeLocals Ls k (.double v) = some Ls') (hp : pc + 2 = pc') (hr : Steps tb e below (T.setTop (mkF m pc' Ls' (S))) target) : Steps tb e below (T.setTop (mkF m pc Ls (.double v :: S))) target := by subst hp; exact XS.dstore h hx rfl hd rfl hl hr
theorem own_f_dstoreN {tb : Tables} [Ours tb] {e : Env} {below : List Frame} {T target : State} {m : MethodId} {c : Code} {Ls : Array Slot} {S : List Value} {pc pc' : Nat} {k : Fin 4} {v : UInt64} {Ls' : Array Slot} (h : At T m c below) (hx : tb.exec = Jvm.exec) (hd : decode c.code pc = .ok (.dstore_n k, 1)) (hl : storeLocals Ls k.val (.double v) = some Ls') (hp : pc + 1 = pc') (hr : Steps tb e below (T.setTop (mkF m pc' Ls' (S))) target) : Steps tb e below (T.setTop (mkF m pc Ls (.double v :: S))) target := by subst hp; exact XS.dstoreN h hx rfl hd rfl hl hr
theorem own_f_aload {tb : Tables} [Ours tb] {e : Env} {below : List Frame} {T target : State} {m : MethodId} {c : Code} {Ls : Array Slot} {S : List Value} {pc pc' : Nat} {k : Nat} {v : Value} (h : At T m c below) (hx : tb.exec = Jvm.exec) (hd : decode c.code pc = .ok (.aload k, 2)) (hl : Ls[k]? = some (.val v)) (hv : v.isRef = true) (hp : pc + 2 = pc') (hr : Steps tb e below (T.setTop (mkF m pc' Ls (v :: S))) target) : Steps tb e below (T.setTop (mkF m pc Ls (S))) target := by subst hp; exact XS.aload h hx rfl hd hl hv hr
theorem own_f_aloadN {tb : Tables} [Ours tb] {e : Env} {below : List Frame} {T target : State} {m : MethodId} {c : Code} {Ls : Array Slot} {S : List Value} {pc pc' : Nat} {k : Fin 4} {v : Value} (h : At T m c below) (hx : tb.exec = Jvm.exec) (hd : decode c.code pc = .ok (.aload_n k, 1)) (hl : Ls[k.val]? = some (.val v)) (hv : v.isRef = true) (hp : pc + 1 = pc') (hr : Steps tb e below (T.setTop (mkF m pc' Ls (v :: S))) target) : Steps tb e below (T.setTop (mkF m pc Ls (S))) target := by subst hp; exact XS.aloadN h hx rfl hd hl hv hr
theorem own_f_astore {tb : Tables} [Ours tb] {e : Env} {below : List Frame} {T target : State} {m : MethodId} {c : Code} {Ls : Array Slot} {S : List Value} {pc pc' : Nat} {k : Nat} {v : Value} {Ls' : Array Slot} (h : At T m c below) (hx : tb.exec = Jvm.exec) (hd : decode c.code pc = .ok (.astore k, 2)) (hv : v.isRef = true) (hl : storeLocals Ls k v = some Ls') (hp : pc + 2 = pc') (hr : Steps tb e below (T.setTop (mkF m pc' Ls' (S))) target) : Steps tb e below (T.setTop (mkF m pc Ls (v :: S))) target := by subst hp; exact XS.astore h hx rfl hd rfl hv hl hr
theorem own_f_astoreN {tb : Tables} [Ours tb] {e : Env} {below : List Frame} {T target : State} {m : MethodId} {c : Code} {Ls : Array Slot} {S : List Value} {pc pc' : Nat} {k : Fin 4} {v : Value} {Ls' : Array Slot} (h : At T m c below) (hx : tb.exec = Jvm.exec) (hd : decode c.code pc = .ok (.astore_n k, 1)) (hv : v.isRef = true) (hl : storeLocals Ls k.val v = some Ls') (hp : pc + 1 = pc') (hr : Steps tb e below (T.setTop (mkF m pc' Ls' (S))) target) : Steps tb e below (T.setTop (mkF m pc Ls (v :: S))) target := by subst hp; exact XS.astoreN h hx rfl hd rfl hv hl hr
theorem own_f_iconst {tb : Tables} [Ours tb] {e : Env} {below : List Frame} {T target : State} {m : MethodId} {c : Code} {Ls : Array Slot} {S : List Value} {pc pc' : Nat} {i : Int} {v : Int32} (h : At T m c below) (hx : tb.exec = Jvm.exec) (hd : decode c.code pc = .ok (.iconst i, 1)) (hv : Int32.ofInt i = v) (hp : pc + 1 = pc') (hr : Steps tb e below (T.setTop (mkF m pc' Ls (.int v :: S))) target) : Steps tb e below (T.setTop (mkF m pc Ls (S))) target := by subst hp; exact XS.iconst h hx rfl hd (hv ▸ hr)
theorem own_f_bipush {tb : Tables} [Ours tb] {e : Env} {below : List Frame} {T target : State} {m : MethodId} {c : Code} {Ls : Array Slot} {S : List Value} {pc pc' : Nat} {i : Int} {v : Int32} (h : At T m c below) (hx : tb.exec = Jvm.exec) (hd : decode c.code pc = .ok (.bipush i, 2)) (hv : (Int8.ofInt i).toInt32 = v) (hp : pc + 2 = pc') (hr : Steps tb e below (T.setTop (mkF m pc' Ls (.int v :: S))) target) : Steps tb e below (T.setTop (mkF m pc Ls (S))) target := by subst hp; exact XS.bipush h hx rfl hd (hv ▸ hr)
theorem own_f_sipush {tb : Tables} [Ours tb] {e : Env} {below : List Frame} {T target : State} {m : MethodId} {c : Code} {Ls : Array Slot} {S : List Value} {pc pc' : Nat} {i : Int} {v : Int32} (h : At T m c below) (hx : tb.exec = Jvm.exec) (hd : decode c.code pc = .ok (.sipush i, 3)) (hv : (Int16.ofInt i).toInt32 = v) (hp : pc + 3 = pc') (hr : Steps tb e below (T.setTop (mkF m pc' Ls (.int v :: S))) target) : Steps tb e below (T.setTop (mkF m pc Ls (S))) target := by subst hp; exact XS.sipush h hx rfl hd (hv ▸ hr)
theorem own_f_lconst {tb : Tables} [Ours tb] {e : Env} {below : List Frame} {T target : State} {m : MethodId} {c : Code} {Ls : Array Slot} {S : List Value} {pc pc' : Nat} {k : Fin 2} {v : Int64} (h : At T m c below) (hx : tb.exec = Jvm.exec) (hd : decode c.code pc = .ok (.lconst k, 1)) (hv : Int64.ofNat k = v) (hp : pc + 1 = pc') (hr : Steps tb e below (T.setTop (mkF m pc' Ls (.long v :: S))) target) : Steps tb e below (T.setTop (mkF m pc Ls (S))) target := by subst hp; exact XS.lconst h hx rfl hd (hv ▸ hr)
theorem own_f_dconst0 {tb : Tables} [Ours tb] {e : Env} {below : List Frame} {T target : State} {m : MethodId} {c : Code} {Ls : Array Slot} {S : List Value} {pc pc' : Nat} {v : UInt64} (h : At T m c below) (hx : tb.exec = Jvm.exec) (hd : decode c.code pc = .ok (.dconst 0, 1)) (hv : FP.dconst0 = v) (hp : pc + 1 = pc') (hr : Steps tb e below (T.setTop (mkF m pc' Ls (.double v :: S))) target) : Steps tb e below (T.setTop (mkF m pc Ls (S))) target := by subst hp; exact XS.dconst0 h hx rfl hd hv hr
theorem own_f_dconst1 {tb : Tables} [Ours tb] {e : Env} {below : List Frame} {T target : State} {m : MethodId} {c : Code} {Ls : Array Slot} {S : List Value} {pc pc' : Nat} {v : UInt64} (h : At T m c below) (hx : tb.exec = Jvm.exec) (hd : decode c.code pc = .ok (.dconst 1, 1)) (hv : FP.dconst1 = v) (hp : pc + 1 = pc') (hr : Steps tb e below (T.setTop (mkF m pc' Ls (.double v :: S))) target) : Steps tb e below (T.setTop (mkF m pc Ls (S))) target := by subst hp; exact XS.dconst1 h hx rfl hd hv hr
theorem own_f_aconstNull {tb : Tables} [Ours tb] {e : Env} {below : List Frame} {T target : State} {m : MethodId} {c : Code} {Ls : Array Slot} {S : List Value} {pc pc' : Nat}  (h : At T m c below) (hx : tb.exec = Jvm.exec) (hd : decode c.code pc = .ok (.aconst_null, 1)) (hp : pc + 1 = pc') (hr : Steps tb e below (T.setTop (mkF m pc' Ls (.null :: S))) target) : Steps tb e below (T.setTop (mkF m pc Ls (S))) target := by subst hp; exact XS.aconstNull h hx rfl hd hr
theorem own_f_iadd {tb : Tables} [Ours tb] {e : Env} {below : List Frame} {T target : State} {m : MethodId} {c : Code} {Ls : Array Slot} {S : List Value} {pc pc' : Nat} {x y v : Int32} (h : At T m c below) (hx : tb.exec = Jvm.exec) (hd : decode c.code pc = .ok (.iadd, 1)) (hv : x + y = v) (hp : pc + 1 = pc') (hr : Steps tb e below (T.setTop (mkF m pc' Ls (.int v :: S))) target) : Steps tb e below (T.setTop (mkF m pc Ls (.int y :: .int x :: S))) target := by subst hp; exact XS.iadd h hx rfl hd rfl (hv ▸ hr)
theorem own_f_ladd {tb : Tables} [Ours tb] {e : Env} {below : List Frame} {T target : State} {m : MethodId} {c : Code} {Ls : Array Slot} {S : List Value} {pc pc' : Nat} {x y v : Int64} (h : At T m c below) (hx : tb.exec = Jvm.exec) (hd : decode c.code pc = .ok (.ladd, 1)) (hv : x + y = v) (hp : pc + 1 = pc') (hr : Steps tb e below (T.setTop (mkF m pc' Ls (.long v :: S))) target) : Steps tb e below (T.setTop (mkF m pc Ls (.long y :: .long x :: S))) target := by subst hp; exact XS.ladd h hx rfl hd rfl (hv ▸ hr)
theorem own_f_isub {tb : Tables} [Ours tb] {e : Env} {below : List Frame} {T target : State} {m : MethodId} {c : Code} {Ls : Array Slot} {S : List Value} {pc pc' : Nat} {x y v : Int32} (h : At T m c below) (hx : tb.exec = Jvm.exec) (hd : decode c.code pc = .ok (.isub, 1)) (hv : x - y = v) (hp : pc + 1 = pc') (hr : Steps tb e below (T.setTop (mkF m pc' Ls (.int v :: S))) target) : Steps tb e below (T.setTop (mkF m pc Ls (.int y :: .int x :: S))) target := by subst hp; exact XS.isub h hx rfl hd rfl (hv ▸ hr)
theorem own_f_lsub {tb : Tables} [Ours tb] {e : Env} {below : List Frame} {T target : State} {m : MethodId} {c : Code} {Ls : Array Slot} {S : List Value} {pc pc' : Nat} {x y v : Int64} (h : At T m c below) (hx : tb.exec = Jvm.exec) (hd : decode c.code pc = .ok (.lsub, 1)) (hv : x - y = v) (hp : pc + 1 = pc') (hr : Steps tb e below (T.setTop (mkF m pc' Ls (.long v :: S))) target) : Steps tb e below (T.setTop (mkF m pc Ls (.long y :: .long x :: S))) target := by subst hp; exact XS.lsub h hx rfl hd rfl (hv ▸ hr)
theorem own_f_imul {tb : Tables} [Ours tb] {e : Env} {below : List Frame} {T target : State} {m : MethodId} {c : Code} {Ls : Array Slot} {S : List Value} {pc pc' : Nat} {x y v : Int32} (h : At T m c below) (hx : tb.exec = Jvm.exec) (hd : decode c.code pc = .ok (.imul, 1)) (hv : x * y = v) (hp : pc + 1 = pc') (hr : Steps tb e below (T.setTop (mkF m pc' Ls (.int v :: S))) target) : Steps tb e below (T.setTop (mkF m pc Ls (.int y :: .int x :: S))) target := by subst hp; exact XS.imul h hx rfl hd rfl (hv ▸ hr)
theorem own_f_lmul {tb : Tables} [Ours tb] {e : Env} {below : List Frame} {T target : State} {m : MethodId} {c : Code} {Ls : Array Slot} {S : List Value} {pc pc' : Nat} {x y v : Int64} (h : At T m c below) (hx : tb.exec = Jvm.exec) (hd : decode c.code pc = .ok (.lmul, 1)) (hv : x * y = v) (hp : pc + 1 = pc') (hr : Steps tb e below (T.setTop (mkF m pc' Ls (.long v :: S))) target) : Steps tb e below (T.setTop (mkF m pc Ls (.long y :: .long x :: S))) target := by subst hp; exact XS.lmul h hx rfl hd rfl (hv ▸ hr)
theorem own_f_iand {tb : Tables} [Ours tb] {e : Env} {below : List Frame} {T target : State} {m : MethodId} {c : Code} {Ls : Array Slot} {S : List Value} {pc pc' : Nat} {x y v : Int32} (h : At T m c below) (hx : tb.exec = Jvm.exec) (hd : decode c.code pc = .ok (.iand, 1)) (hv : x &&& y = v) (hp : pc + 1 = pc') (hr : Steps tb e below (T.setTop (mkF m pc' Ls (.int v :: S))) target) : Steps tb e below (T.setTop (mkF m pc Ls (.int y :: .int x :: S))) target := by subst hp; exact XS.iand h hx rfl hd rfl (hv ▸ hr)
theorem own_f_land {tb : Tables} [Ours tb] {e : Env} {below : List Frame} {T target : State} {m : MethodId} {c : Code} {Ls : Array Slot} {S : List Value} {pc pc' : Nat} {x y v : Int64} (h : At T m c below) (hx : tb.exec = Jvm.exec) (hd : decode c.code pc = .ok (.land, 1)) (hv : x &&& y = v) (hp : pc + 1 = pc') (hr : Steps tb e below (T.setTop (mkF m pc' Ls (.long v :: S))) target) : Steps tb e below (T.setTop (mkF m pc Ls (.long y :: .long x :: S))) target := by subst hp; exact XS.land h hx rfl hd rfl (hv ▸ hr)
theorem own_f_ior {tb : Tables} [Ours tb] {e : Env} {below : List Frame} {T target : State} {m : MethodId} {c : Code} {Ls : Array Slot} {S : List Value} {pc pc' : Nat} {x y v : Int32} (h : At T m c below) (hx : tb.exec = Jvm.exec) (hd : decode c.code pc = .ok (.ior, 1)) (hv : x ||| y = v) (hp : pc + 1 = pc') (hr : Steps tb e below (T.setTop (mkF m pc' Ls (.int v :: S))) target) : Steps tb e below (T.setTop (mkF m pc Ls (.int y :: .int x :: S))) target := by subst hp; exact XS.ior h hx rfl hd rfl (hv ▸ hr)
theorem own_f_lor {tb : Tables} [Ours tb] {e : Env} {below : List Frame} {T target : State} {m : MethodId} {c : Code} {Ls : Array Slot} {S : List Value} {pc pc' : Nat} {x y v : Int64} (h : At T m c below) (hx : tb.exec = Jvm.exec) (hd : decode c.code pc = .ok (.lor, 1)) (hv : x ||| y = v) (hp : pc + 1 = pc') (hr : Steps tb e below (T.setTop (mkF m pc' Ls (.long v :: S))) target) : Steps tb e below (T.setTop (mkF m pc Ls (.long y :: .long x :: S))) target := by subst hp; exact XS.lor h hx rfl hd rfl (hv ▸ hr)
theorem own_f_ixor {tb : Tables} [Ours tb] {e : Env} {below : List Frame} {T target : State} {m : MethodId} {c : Code} {Ls : Array Slot} {S : List Value} {pc pc' : Nat} {x y v : Int32} (h : At T m c below) (hx : tb.exec = Jvm.exec) (hd : decode c.code pc = .ok (.ixor, 1)) (hv : x ^^^ y = v) (hp : pc + 1 = pc') (hr : Steps tb e below (T.setTop (mkF m pc' Ls (.int v :: S))) target) : Steps tb e below (T.setTop (mkF m pc Ls (.int y :: .int x :: S))) target := by subst hp; exact XS.ixor h hx rfl hd rfl (hv ▸ hr)
theorem own_f_lxor {tb : Tables} [Ours tb] {e : Env} {below : List Frame} {T target : State} {m : MethodId} {c : Code} {Ls : Array Slot} {S : List Value} {pc pc' : Nat} {x y v : Int64} (h : At T m c below) (hx : tb.exec = Jvm.exec) (hd : decode c.code pc = .ok (.lxor, 1)) (hv : x ^^^ y = v) (hp : pc + 1 = pc') (hr : Steps tb e below (T.setTop (mkF m pc' Ls (.long v :: S))) target) : Steps tb e below (T.setTop (mkF m pc Ls (.long y :: .long x :: S))) target := by subst hp; exact XS.lxor h hx rfl hd rfl (hv ▸ hr)
theorem own_f_ishl {tb : Tables} [Ours tb] {e : Env} {below : List Frame} {T target : State} {m : MethodId} {c : Code} {Ls : Array Slot} {S : List Value} {pc pc' : Nat} {x : Int32} {y : Int32} (h : At T m c below) (hx : tb.exec = Jvm.exec) (hd : decode c.code pc = .ok (.ishl, 1)) (hp : pc + 1 = pc') (hr : Steps tb e below (T.setTop (mkF m pc' Ls (.int (x <<< (y &&& 31)) :: S))) target) : Steps tb e below (T.setTop (mkF m pc Ls (.int y :: .int x :: S))) target := by subst hp; exact XS.ishl h hx rfl hd rfl hr
theorem own_f_ishr {tb : Tables} [Ours tb] {e : Env} {below : List Frame} {T target : State} {m : MethodId} {c : Code} {Ls : Array Slot} {S : List Value} {pc pc' : Nat} {x : Int32} {y : Int32} (h : At T m c below) (hx : tb.exec = Jvm.exec) (hd : decode c.code pc = .ok (.ishr, 1)) (hp : pc + 1 = pc') (hr : Steps tb e below (T.setTop (mkF m pc' Ls (.int (x >>> (y &&& 31)) :: S))) target) : Steps tb e below (T.setTop (mkF m pc Ls (.int y :: .int x :: S))) target := by subst hp; exact XS.ishr h hx rfl hd rfl hr
theorem own_f_iushr {tb : Tables} [Ours tb] {e : Env} {below : List Frame} {T target : State} {m : MethodId} {c : Code} {Ls : Array Slot} {S : List Value} {pc pc' : Nat} {x : Int32} {y : Int32} (h : At T m c below) (hx : tb.exec = Jvm.exec) (hd : decode c.code pc = .ok (.iushr, 1)) (hp : pc + 1 = pc') (hr : Steps tb e below (T.setTop (mkF m pc' Ls (.int ((x.toUInt32 >>> (y &&& 31).toUInt32).toInt32) :: S))) target) : Steps tb e below (T.setTop (mkF m pc Ls (.int y :: .int x :: S))) target := by subst hp; exact XS.iushr h hx rfl hd rfl hr
theorem own_f_lshl {tb : Tables} [Ours tb] {e : Env} {below : List Frame} {T target : State} {m : MethodId} {c : Code} {Ls : Array Slot} {S : List Value} {pc pc' : Nat} {x : Int64} {y : Int32} (h : At T m c below) (hx : tb.exec = Jvm.exec) (hd : decode c.code pc = .ok (.lshl, 1)) (hp : pc + 1 = pc') (hr : Steps tb e below (T.setTop (mkF m pc' Ls (.long (x <<< (y &&& 0x3f).toInt64) :: S))) target) : Steps tb e below (T.setTop (mkF m pc Ls (.int y :: .long x :: S))) target := by subst hp; exact XS.lshl h hx rfl hd rfl hr
theorem own_f_lshr {tb : Tables} [Ours tb] {e : Env} {below : List Frame} {T target : State} {m : MethodId} {c : Code} {Ls : Array Slot} {S : List Value} {pc pc' : Nat} {x : Int64} {y : Int32} (h : At T m c below) (hx : tb.exec = Jvm.exec) (hd : decode c.code pc = .ok (.lshr, 1)) (hp : pc + 1 = pc') (hr : Steps tb e below (T.setTop (mkF m pc' Ls (.long (x >>> (y &&& 0x3f).toInt64) :: S))) target) : Steps tb e below (T.setTop (mkF m pc Ls (.int y :: .long x :: S))) target := by subst hp; exact XS.lshr h hx rfl hd rfl hr
theorem own_f_lushr {tb : Tables} [Ours tb] {e : Env} {below : List Frame} {T target : State} {m : MethodId} {c : Code} {Ls : Array Slot} {S : List Value} {pc pc' : Nat} {x : Int64} {y : Int32} (h : At T m c below) (hx : tb.exec = Jvm.exec) (hd : decode c.code pc = .ok (.lushr, 1)) (hp : pc + 1 = pc') (hr : Steps tb e below (T.setTop (mkF m pc' Ls (.long ((x.toUInt64 >>> (y &&& 0x3f).toInt64.toUInt64).toInt64) :: S))) target) : Steps tb e below (T.setTop (mkF m pc Ls (.int y :: .long x :: S))) target := by subst hp; exact XS.lushr h hx rfl hd rfl hr
theorem own_f_idiv {tb : Tables} [Ours tb] {e : Env} {below : List Frame} {T target : State} {m : MethodId} {c : Code} {Ls : Array Slot} {S : List Value} {pc pc' : Nat} {x y : Int32} (h : At T m c below) (hx : tb.exec = Jvm.exec) (hd : decode c.code pc = .ok (.idiv, 1)) (hy : y ≠ 0) (hp : pc + 1 = pc') (hr : Steps tb e below (T.setTop (mkF m pc' Ls (.int (x / y) :: S))) target) : Steps tb e below (T.setTop (mkF m pc Ls (.int y :: .int x :: S))) target := by subst hp; exact XS.idiv h hx rfl hd rfl hy hr
theorem own_f_irem {tb : Tables} [Ours tb] {e : Env} {below : List Frame} {T target : State} {m : MethodId} {c : Code} {Ls : Array Slot} {S : List Value} {pc pc' : Nat} {x y : Int32} (h : At T m c below) (hx : tb.exec = Jvm.exec) (hd : decode c.code pc = .ok (.irem, 1)) (hy : y ≠ 0) (hp : pc + 1 = pc') (hr : Steps tb e below (T.setTop (mkF m pc' Ls (.int (x - (x / y) * y) :: S))) target) : Steps tb e below (T.setTop (mkF m pc Ls (.int y :: .int x :: S))) target := by subst hp; exact XS.irem h hx rfl hd rfl hy hr
theorem own_f_ldiv {tb : Tables} [Ours tb] {e : Env} {below : List Frame} {T target : State} {m : MethodId} {c : Code} {Ls : Array Slot} {S : List Value} {pc pc' : Nat} {x y : Int64} (h : At T m c below) (hx : tb.exec = Jvm.exec) (hd : decode c.code pc = .ok (.ldiv, 1)) (hy : y ≠ 0) (hp : pc + 1 = pc') (hr : Steps tb e below (T.setTop (mkF m pc' Ls (.long (x / y) :: S))) target) : Steps tb e below (T.setTop (mkF m pc Ls (.long y :: .long x :: S))) target := by subst hp; exact XS.ldiv h hx rfl hd rfl hy hr
theorem own_f_lrem {tb : Tables} [Ours tb] {e : Env} {below : List Frame} {T target : State} {m : MethodId} {c : Code} {Ls : Array Slot} {S : List Value} {pc pc' : Nat} {x y : Int64} (h : At T m c below) (hx : tb.exec = Jvm.exec) (hd : decode c.code pc = .ok (.lrem, 1)) (hy : y ≠ 0) (hp : pc + 1 = pc') (hr : Steps tb e below (T.setTop (mkF m pc' Ls (.long (x - (x / y) * y) :: S))) target) : Steps tb e below (T.setTop (mkF m pc Ls (.long y :: .long x :: S))) target := by subst hp; exact XS.lrem h hx rfl hd rfl hy hr
theorem own_f_ineg {tb : Tables} [Ours tb] {e : Env} {below : List Frame} {T target : State} {m : MethodId} {c : Code} {Ls : Array Slot} {S : List Value} {pc pc' : Nat} {x : Int32} (h : At T m c below) (hx : tb.exec = Jvm.exec) (hd : decode c.code pc = .ok (.ineg, 1)) (hp : pc + 1 = pc') (hr : Steps tb e below (T.setTop (mkF m pc' Ls (.int (-x) :: S))) target) : Steps tb e below (T.setTop (mkF m pc Ls (.int x :: S))) target := by subst hp; exact XS.ineg h hx rfl hd rfl hr
theorem own_f_lneg {tb : Tables} [Ours tb] {e : Env} {below : List Frame} {T target : State} {m : MethodId} {c : Code} {Ls : Array Slot} {S : List Value} {pc pc' : Nat} {x : Int64} (h : At T m c below) (hx : tb.exec = Jvm.exec) (hd : decode c.code pc = .ok (.lneg, 1)) (hp : pc + 1 = pc') (hr : Steps tb e below (T.setTop (mkF m pc' Ls (.long (-x) :: S))) target) : Steps tb e below (T.setTop (mkF m pc Ls (.long x :: S))) target := by subst hp; exact XS.lneg h hx rfl hd rfl hr
theorem own_f_i2l {tb : Tables} [Ours tb] {e : Env} {below : List Frame} {T target : State} {m : MethodId} {c : Code} {Ls : Array Slot} {S : List Value} {pc pc' : Nat} {x : Int32} (h : At T m c below) (hx : tb.exec = Jvm.exec) (hd : decode c.code pc = .ok (.i2l, 1)) (hp : pc + 1 = pc') (hr : Steps tb e below (T.setTop (mkF m pc' Ls (.long (x.toInt64) :: S))) target) : Steps tb e below (T.setTop (mkF m pc Ls (.int x :: S))) target := by subst hp; exact XS.i2l h hx rfl hd rfl hr
theorem own_f_l2i {tb : Tables} [Ours tb] {e : Env} {below : List Frame} {T target : State} {m : MethodId} {c : Code} {Ls : Array Slot} {S : List Value} {pc pc' : Nat} {x : Int64} (h : At T m c below) (hx : tb.exec = Jvm.exec) (hd : decode c.code pc = .ok (.l2i, 1)) (hp : pc + 1 = pc') (hr : Steps tb e below (T.setTop (mkF m pc' Ls (.int (x.toInt32) :: S))) target) : Steps tb e below (T.setTop (mkF m pc Ls (.long x :: S))) target := by subst hp; exact XS.l2i h hx rfl hd rfl hr
theorem own_f_i2b {tb : Tables} [Ours tb] {e : Env} {below : List Frame} {T target : State} {m : MethodId} {c : Code} {Ls : Array Slot} {S : List Value} {pc pc' : Nat} {x : Int32} (h : At T m c below) (hx : tb.exec = Jvm.exec) (hd : decode c.code pc = .ok (.i2b, 1)) (hp : pc + 1 = pc') (hr : Steps tb e below (T.setTop (mkF m pc' Ls (.int (x.toInt8.toInt32) :: S))) target) : Steps tb e below (T.setTop (mkF m pc Ls (.int x :: S))) target := by subst hp; exact XS.i2b h hx rfl hd rfl hr
theorem own_f_i2s {tb : Tables} [Ours tb] {e : Env} {below : List Frame} {T target : State} {m : MethodId} {c : Code} {Ls : Array Slot} {S : List Value} {pc pc' : Nat} {x : Int32} (h : At T m c below) (hx : tb.exec = Jvm.exec) (hd : decode c.code pc = .ok (.i2s, 1)) (hp : pc + 1 = pc') (hr : Steps tb e below (T.setTop (mkF m pc' Ls (.int (x.toInt16.toInt32) :: S))) target) : Steps tb e below (T.setTop (mkF m pc Ls (.int x :: S))) target := by subst hp; exact XS.i2s h hx rfl hd rfl hr
theorem own_f_i2c {tb : Tables} [Ours tb] {e : Env} {below : List Frame} {T target : State} {m : MethodId} {c : Code} {Ls : Array Slot} {S : List Value} {pc pc' : Nat} {x : Int32} (h : At T m c below) (hx : tb.exec = Jvm.exec) (hd : decode c.code pc = .ok (.i2c, 1)) (hp : pc + 1 = pc') (hr : Steps tb e below (T.setTop (mkF m pc' Ls (.int (x.toUInt32.toUInt16.toUInt32.toInt32) :: S))) target) : Steps tb e below (T.setTop (mkF m pc Ls (.int x :: S))) target := by subst hp; exact XS.i2c h hx rfl hd rfl hr
theorem own_f_lcmp {tb : Tables} [Ours tb] {e : Env} {below : List Frame} {T target : State} {m : MethodId} {c : Code} {Ls : Array Slot} {S : List Value} {pc pc' : Nat} {x y : Int64} (h : At T m c below) (hx : tb.exec = Jvm.exec) (hd : decode c.code pc = .ok (.lcmp, 1)) (hp : pc + 1 = pc') (hr : Steps tb e below (T.setTop (mkF m pc' Ls (.int (lcmpW x y) :: S))) target) : Steps tb e below (T.setTop (mkF m pc Ls (.long y :: .long x :: S))) target := by subst hp; exact XS.lcmp h hx rfl hd rfl hr
theorem own_f_i2d {tb : Tables} [Ours tb] {e : Env} {below : List Frame} {T target : State} {m : MethodId} {c : Code} {Ls : Array Slot} {S : List Value} {pc pc' : Nat} {x : Int32} {v : UInt64} (h : At T m c below) (hx : tb.exec = Jvm.exec) (hd : decode c.code pc = .ok (.i2d, 1)) (hv : FP.i2d x = v) (hp : pc + 1 = pc') (hr : Steps tb e below (T.setTop (mkF m pc' Ls (.double v :: S))) target) : Steps tb e below (T.setTop (mkF m pc Ls (.int x :: S))) target := by subst hp; exact XS.i2dS h hx rfl hd rfl hv hr
theorem own_f_l2d {tb : Tables} [Ours tb] {e : Env} {below : List Frame} {T target : State} {m : MethodId} {c : Code} {Ls : Array Slot} {S : List Value} {pc pc' : Nat} {x : Int64} {v : UInt64} (h : At T m c below) (hx : tb.exec = Jvm.exec) (hd : decode c.code pc = .ok (.l2d, 1)) (hv : FP.l2d x = v) (hp : pc + 1 = pc') (hr : Steps tb e below (T.setTop (mkF m pc' Ls (.double v :: S))) target) : Steps tb e below (T.setTop (mkF m pc Ls (.long x :: S))) target := by subst hp; exact XS.l2dS h hx rfl hd rfl hv hr
theorem own_f_d2i {tb : Tables} [Ours tb] {e : Env} {below : List Frame} {T target : State} {m : MethodId} {c : Code} {Ls : Array Slot} {S : List Value} {pc pc' : Nat} {x : UInt64} {v : Int32} (h : At T m c below) (hx : tb.exec = Jvm.exec) (hd : decode c.code pc = .ok (.d2i, 1)) (hv : FP.d2i x = v) (hp : pc + 1 = pc') (hr : Steps tb e below (T.setTop (mkF m pc' Ls (.int v :: S))) target) : Steps tb e below (T.setTop (mkF m pc Ls (.double x :: S))) target := by subst hp; exact XS.d2iS h hx rfl hd rfl hv hr
theorem own_f_d2l {tb : Tables} [Ours tb] {e : Env} {below : List Frame} {T target : State} {m : MethodId} {c : Code} {Ls : Array Slot} {S : List Value} {pc pc' : Nat} {x : UInt64} {v : Int64} (h : At T m c below) (hx : tb.exec = Jvm.exec) (hd : decode c.code pc = .ok (.d2l, 1)) (hv : FP.d2l x = v) (hp : pc + 1 = pc') (hr : Steps tb e below (T.setTop (mkF m pc' Ls (.long v :: S))) target) : Steps tb e below (T.setTop (mkF m pc Ls (.double x :: S))) target := by subst hp; exact XS.d2lS h hx rfl hd rfl hv hr
theorem own_f_dneg {tb : Tables} [Ours tb] {e : Env} {below : List Frame} {T target : State} {m : MethodId} {c : Code} {Ls : Array Slot} {S : List Value} {pc pc' : Nat} {x : UInt64} {v : UInt64} (h : At T m c below) (hx : tb.exec = Jvm.exec) (hd : decode c.code pc = .ok (.dneg, 1)) (hv : FP.dneg x = v) (hp : pc + 1 = pc') (hr : Steps tb e below (T.setTop (mkF m pc' Ls (.double v :: S))) target) : Steps tb e below (T.setTop (mkF m pc Ls (.double x :: S))) target := by subst hp; exact XS.dnegS h hx rfl hd rfl hv hr
theorem own_f_dadd {tb : Tables} [Ours tb] {e : Env} {below : List Frame} {T target : State} {m : MethodId} {c : Code} {Ls : Array Slot} {S : List Value} {pc pc' : Nat} {x y v : UInt64} (h : At T m c below) (hx : tb.exec = Jvm.exec) (hd : decode c.code pc = .ok (.dadd, 1)) (hn : Jvm.Free.Fl.NoNaN64 (FP.dadd x y)) (hv : FP.dadd x y = v) (hp : pc + 1 = pc') (hr : Steps tb e below (T.setTop (mkF m pc' Ls (.double v :: S))) target) : Steps tb e below (T.setTop (mkF m pc Ls (.double y :: .double x :: S))) target := by subst hp; exact XS.daddS h hx rfl hd rfl hn hv hr
theorem own_f_dsub {tb : Tables} [Ours tb] {e : Env} {below : List Frame} {T target : State} {m : MethodId} {c : Code} {Ls : Array Slot} {S : List Value} {pc pc' : Nat} {x y v : UInt64} (h : At T m c below) (hx : tb.exec = Jvm.exec) (hd : decode c.code pc = .ok (.dsub, 1)) (hn : Jvm.Free.Fl.NoNaN64 (FP.dsub x y)) (hv : FP.dsub x y = v) (hp : pc + 1 = pc') (hr : Steps tb e below (T.setTop (mkF m pc' Ls (.double v :: S))) target) : Steps tb e below (T.setTop (mkF m pc Ls (.double y :: .double x :: S))) target := by subst hp; exact XS.dsubS h hx rfl hd rfl hn hv hr
theorem own_f_dmul {tb : Tables} [Ours tb] {e : Env} {below : List Frame} {T target : State} {m : MethodId} {c : Code} {Ls : Array Slot} {S : List Value} {pc pc' : Nat} {x y v : UInt64} (h : At T m c below) (hx : tb.exec = Jvm.exec) (hd : decode c.code pc = .ok (.dmul, 1)) (hn : Jvm.Free.Fl.NoNaN64 (FP.dmul x y)) (hv : FP.dmul x y = v) (hp : pc + 1 = pc') (hr : Steps tb e below (T.setTop (mkF m pc' Ls (.double v :: S))) target) : Steps tb e below (T.setTop (mkF m pc Ls (.double y :: .double x :: S))) target := by subst hp; exact XS.dmulS h hx rfl hd rfl hn hv hr
theorem own_f_ddiv {tb : Tables} [Ours tb] {e : Env} {below : List Frame} {T target : State} {m : MethodId} {c : Code} {Ls : Array Slot} {S : List Value} {pc pc' : Nat} {x y v : UInt64} (h : At T m c below) (hx : tb.exec = Jvm.exec) (hd : decode c.code pc = .ok (.ddiv, 1)) (hn : Jvm.Free.Fl.NoNaN64 (FP.ddiv x y)) (hv : FP.ddiv x y = v) (hp : pc + 1 = pc') (hr : Steps tb e below (T.setTop (mkF m pc' Ls (.double v :: S))) target) : Steps tb e below (T.setTop (mkF m pc Ls (.double y :: .double x :: S))) target := by subst hp; exact XS.ddivS h hx rfl hd rfl hn hv hr
theorem own_f_dcmp {tb : Tables} [Ours tb] {e : Env} {below : List Frame} {T target : State} {m : MethodId} {c : Code} {Ls : Array Slot} {S : List Value} {pc pc' : Nat} {o : CmpOp} {x y : UInt64} {v : Int32} (h : At T m c below) (hx : tb.exec = Jvm.exec) (hd : decode c.code pc = .ok (.dcmp o, 1)) (hv : cmpValue (FP.dcmp x y) o = v) (hp : pc + 1 = pc') (hr : Steps tb e below (T.setTop (mkF m pc' Ls (.int v :: S))) target) : Steps tb e below (T.setTop (mkF m pc Ls (.double y :: .double x :: S))) target := by subst hp; exact XS.dcmpS h hx rfl hd rfl hv hr
theorem own_f_iinc {tb : Tables} [Ours tb] {e : Env} {below : List Frame} {T target : State} {m : MethodId} {c : Code} {Ls : Array Slot} {S : List Value} {pc pc' : Nat} {k : Nat} {cst : Int} {x : Int32} {Ls' : Array Slot} (h : At T m c below) (hx : tb.exec = Jvm.exec) (hd : decode c.code pc = .ok (.iinc k cst, 3)) (hl : Ls[k]? = some (.val (.int x))) (hl' : storeLocals Ls k (.int (x + Int32.ofInt cst)) = some Ls') (hp : pc + 3 = pc') (hr : Steps tb e below (T.setTop (mkF m pc' Ls' (S))) target) : Steps tb e below (T.setTop (mkF m pc Ls (S))) target := by subst hp; exact XS.iinc h hx rfl hd hl hl' hr
theorem own_f_dup {tb : Tables} [Ours tb] {e : Env} {below : List Frame} {T target : State} {m : MethodId} {c : Code} {Ls : Array Slot} {S : List Value} {pc pc' : Nat} {v : Value} (h : At T m c below) (hx : tb.exec = Jvm.exec) (hd : decode c.code pc = .ok (.dup, 1)) (hc : v.category = 1) (hp : pc + 1 = pc') (hr : Steps tb e below (T.setTop (mkF m pc' Ls (v :: v :: S))) target) : Steps tb e below (T.setTop (mkF m pc Ls (v :: S))) target := by subst hp; exact XS.dup h hx rfl hd rfl hc hr
theorem own_f_dupX1 {tb : Tables} [Ours tb] {e : Env} {below : List Frame} {T target : State} {m : MethodId} {c : Code} {Ls : Array Slot} {S : List Value} {pc pc' : Nat} {x y : Value} (h : At T m c below) (hx : tb.exec = Jvm.exec) (hd : decode c.code pc = .ok (.dup_x1, 1)) (hc : x.category = 1) (hc' : y.category = 1) (hp : pc + 1 = pc') (hr : Steps tb e below (T.setTop (mkF m pc' Ls (x :: y :: x :: S))) target) : Steps tb e below (T.setTop (mkF m pc Ls (x :: y :: S))) target := by subst hp; exact XS.dupX1 h hx rfl hd rfl hc hc' hr
theorem own_f_pop {tb : Tables} [Ours tb] {e : Env} {below : List Frame} {T target : State} {m : MethodId} {c : Code} {Ls : Array Slot} {S : List Value} {pc pc' : Nat} {x : Value} (h : At T m c below) (hx : tb.exec = Jvm.exec) (hd : decode c.code pc = .ok (.pop, 1)) (hc : x.category = 1) (hp : pc + 1 = pc') (hr : Steps tb e below (T.setTop (mkF m pc' Ls (S))) target) : Steps tb e below (T.setTop (mkF m pc Ls (x :: S))) target := by subst hp; exact XS.pop h hx rfl hd rfl hc hr
theorem own_f_goto {tb : Tables} [Ours tb] {e : Env} {below : List Frame} {T target : State} {m : MethodId} {c : Code} {Ls : Array Slot} {S : List Value} {pc pc' : Nat} {o : Int} (h : At T m c below) (hx : tb.exec = Jvm.exec) (hd : decode c.code pc = .ok (.goto o, 3)) (ho : 0 ≤ (pc : Int) + o) (hp : ((pc : Int) + o).toNat = pc') (hr : Steps tb e below (T.setTop (mkF m pc' Ls S)) target) : Steps tb e below (T.setTop (mkF m pc Ls (S))) target := XS.goto h hx rfl rfl hd ho hp hr
theorem own_f_ifYes {tb : Tables} [Ours tb] {e : Env} {below : List Frame} {T target : State} {m : MethodId} {c : Code} {Ls : Array Slot} {S : List Value} {pc pc' : Nat} {o : Int} {cd : ClassFile.Cond} {x : Int32} (h : At T m c below) (hx : tb.exec = Jvm.exec) (hd : decode c.code pc = .ok (.ifCond cd o, 3)) (hc : ifCond.holds cd x = true) (ho : 0 ≤ (pc : Int) + o) (hp : ((pc : Int) + o).toNat = pc') (hr : Steps tb e below (T.setTop (mkF m pc' Ls S)) target) : Steps tb e below (T.setTop (mkF m pc Ls (.int x :: S))) target := XS.ifYes h hx rfl rfl hd rfl hc ho hp hr
theorem own_f_icmpYes {tb : Tables} [Ours tb] {e : Env} {below : List Frame} {T target : State} {m : MethodId} {c : Code} {Ls : Array Slot} {S : List Value} {pc pc' : Nat} {o : Int} {cd : ClassFile.Cond} {x y : Int32} (h : At T m c below) (hx : tb.exec = Jvm.exec) (hd : decode c.code pc = .ok (.if_icmp cd o, 3)) (hc : if_icmp.holds cd x y = true) (ho : 0 ≤ (pc : Int) + o) (hp : ((pc : Int) + o).toNat = pc') (hr : Steps tb e below (T.setTop (mkF m pc' Ls S)) target) : Steps tb e below (T.setTop (mkF m pc Ls (.int y :: .int x :: S))) target := XS.icmpYes h hx rfl rfl hd rfl hc ho hp hr
theorem own_f_ifNo {tb : Tables} [Ours tb] {e : Env} {below : List Frame} {T target : State} {m : MethodId} {c : Code} {Ls : Array Slot} {S : List Value} {pc pc' : Nat} {o : Int} {cd : ClassFile.Cond} {x : Int32} (h : At T m c below) (hx : tb.exec = Jvm.exec) (hd : decode c.code pc = .ok (.ifCond cd o, 3)) (hc : ifCond.holds cd x = false) (hp : pc + 3 = pc') (hr : Steps tb e below (T.setTop (mkF m pc' Ls (S))) target) : Steps tb e below (T.setTop (mkF m pc Ls (.int x :: S))) target := by subst hp; exact XS.ifNo h hx rfl hd rfl hc hr
theorem own_f_icmpNo {tb : Tables} [Ours tb] {e : Env} {below : List Frame} {T target : State} {m : MethodId} {c : Code} {Ls : Array Slot} {S : List Value} {pc pc' : Nat} {o : Int} {cd : ClassFile.Cond} {x y : Int32} (h : At T m c below) (hx : tb.exec = Jvm.exec) (hd : decode c.code pc = .ok (.if_icmp cd o, 3)) (hc : if_icmp.holds cd x y = false) (hp : pc + 3 = pc') (hr : Steps tb e below (T.setTop (mkF m pc' Ls (S))) target) : Steps tb e below (T.setTop (mkF m pc Ls (.int y :: .int x :: S))) target := by subst hp; exact XS.icmpNo h hx rfl hd rfl hc hr
variable {p : Program} {l : Launch} {e : Env} {R : Room} {s : State} {m : MethodId} {args : Array Value} {below : List Frame} {meth : Method} {c : Code} {T target : State} {locs : List Loc} {cells slots : Nat} {Ls : Array Slot} {S : List Value} {pc pc' : Nat} {own : String} {index : Nat}
theorem own_f_ldcInt (X : Stand p l e R s m args below meth c T locs cells slots) (hx : p.tables.exec = Jvm.exec) {v : Int32} (hown : s.vm.findClass own = some m.cls) (hc : (Jvm.Cond.constant own index v).before args s = true) (hd : decode c.code pc = .ok (.ldc index, 2)) (hp : pc + 2 = pc') (hr : Steps p.tables e below (T.setTop (mkF m pc' Ls (.int v :: S))) target) : Steps p.tables e below (T.setTop (mkF m pc Ls S)) target := by subst hp; exact X.ldcInt hx hown hc (g := mkF m pc Ls S) rfl hd _ hr
theorem own_f_ldcwInt (X : Stand p l e R s m args below meth c T locs cells slots) (hx : p.tables.exec = Jvm.exec) {v : Int32} (hown : s.vm.findClass own = some m.cls) (hc : (Jvm.Cond.constant own index v).before args s = true) (hd : decode c.code pc = .ok (.ldc_w index, 3)) (hp : pc + 3 = pc') (hr : Steps p.tables e below (T.setTop (mkF m pc' Ls (.int v :: S))) target) : Steps p.tables e below (T.setTop (mkF m pc Ls S)) target := by subst hp; exact X.ldcwInt hx hown hc (g := mkF m pc Ls S) rfl hd _ hr
theorem own_f_ldc2Long (X : Stand p l e R s m args below meth c T locs cells slots) (hx : p.tables.exec = Jvm.exec) {v : Int64} (hown : s.vm.findClass own = some m.cls) (hc : (Jvm.Cond.constantLong own index v).before args s = true) (hd : decode c.code pc = .ok (.ldc2_w index, 3)) (hp : pc + 3 = pc') (hr : Steps p.tables e below (T.setTop (mkF m pc' Ls (.long v :: S))) target) : Steps p.tables e below (T.setTop (mkF m pc Ls S)) target := by subst hp; exact X.ldc2Long hx hown hc (g := mkF m pc Ls S) rfl hd _ hr
theorem own_f_ldc2DoubleC (X : Stand p l e R s m args below meth c T locs cells slots) (hx : p.tables.exec = Jvm.exec) {v : UInt64} (hown : s.vm.findClass own = some m.cls) (hc : (Jvm.Cond.constantDouble own index v).before args s = true) (hd : decode c.code pc = .ok (.ldc2_w index, 3)) (hp : pc + 3 = pc') (hr : Steps p.tables e below (T.setTop (mkF m pc' Ls (.double v :: S))) target) : Steps p.tables e below (T.setTop (mkF m pc Ls S)) target := by subst hp; exact X.ldc2DoubleC hx hown hc (g := mkF m pc Ls S) rfl hd _ hr
end OwnSteps
section OwnFloat
open Jvm.FP.Core
/-! a double as n * 2^(j - 1074) -/
def own_Rep (x : UInt64) (n : Int) (j : Nat) : Prop := DFin x ∧ zval b64 (val64 x) = n * ((2 ^ j : Nat) : Int)
theorem own_cancel {P Q u v : Nat} (h : P * 2 ^ u = Q * 2 ^ v) : P * 2 ^ (u - v) = Q * 2 ^ (v - u) := by
  rcases Nat.le_total u v with q | q
  · obtain ⟨d, rfl⟩ := Nat.exists_eq_add_of_le q
    rw [show u - (u + d) = 0 by omega, show u + d - u = d by omega]
    refine Nat.eq_of_mul_eq_mul_right (Nat.two_pow_pos u) ?_
    rw [Nat.pow_zero, Nat.mul_one, h, Nat.pow_add]; ac_rfl
  · obtain ⟨d, rfl⟩ := Nat.exists_eq_add_of_le q
    rw [show v - (v + d) = 0 by omega, show v + d - v = d by omega]
    refine Nat.eq_of_mul_eq_mul_right (Nat.two_pow_pos v) ?_
    rw [Nat.pow_zero, Nat.mul_one, ← h, Nat.pow_add]; ac_rfl
theorem own_qmax : b64.qmax = 971 := by decide
theorem own_natAbs_pow (n : Int) (j : Nat) : (n * ((2 ^ j : Nat) : Int)).natAbs = n.natAbs * 2 ^ j := by
  rw [Int.natAbs_mul, Int.natAbs_natCast]
theorem own_rr_exact {s : Bool} {A B M j u v : Nat} {e : Int} (hB : 0 < B) (hM : M < 2 ^ 53) (hj : j ≤ 2045) (h : A * 2 ^ u = M * B * 2 ^ v) (hu : (u : Int) - v = e - ((j : Int) - 1074)) :
    ∃ c q, roundRatio b64 s A B e = .fin s c q ∧ inUnits c q b64.qmin = M * 2 ^ j := by
  have h1 := own_cancel h
  rw [roundRatio_congr (A' := M) (B' := 1) (e' := (j : Int) - 1074) hB (by decide) (by rw [Nat.mul_one, show (e - ((j : Int) - 1074)).toNat = u - v by omega, show (((j : Int) - 1074) - e).toNat = v - u by omega]; exact h1)]
  have hp : b64.p = 53 := rfl
  obtain ⟨c, q, h3, h4⟩ := round_exact good_b64 s (c := M) (q := (j : Int) - 1074) (by rw [hp]; exact hM) (by rw [qmin_b64]; omega) (by rw [own_qmax]; omega)
  refine ⟨c, q, h3, ?_⟩
  rw [h4]; unfold inUnits; rw [qmin_b64, show ((j : Int) - 1074 - -1074).toNat = j by omega]
theorem own_round {z : UInt64} {sg : Bool} {N : Nat} {e n : Int} {j : Nat} (hv : val64 z = round b64 (.fin sg N e)) (h2 : b64.qmin ≤ e) (hs : n.natAbs < 2 ^ 53) (hj : j ≤ 2045)
    (h3 : signed sg (inUnits N e b64.qmin) = n * ((2 ^ j : Nat) : Int)) : own_Rep z n j := by
  have h4 : inUnits N e b64.qmin = n.natAbs * 2 ^ j := by
    have := congrArg Int.natAbs h3
    rwa [natAbs_signed, own_natAbs_pow] at this
  rw [qmin_b64] at h2
  have h5 : N * 2 ^ (e + 1074).toNat = n.natAbs * 1 * 2 ^ j := by
    rw [Nat.mul_one, ← h4]; unfold inUnits; rw [qmin_b64, show (e - -1074).toNat = (e + 1074).toNat by omega]
  obtain ⟨c, q, h6, h7⟩ := own_rr_exact (s := sg) (A := N) (B := 1) (e := e) (by decide) hs hj h5 (by omega)
  have h8 : val64 z = .fin sg c q := hv.trans h6
  refine ⟨⟨sg, c, q, h8⟩, ?_⟩
  rw [h8]
  show signed sg (inUnits c q b64.qmin) = _
  rw [h7, ← h4]; exact h3
theorem own_add {x y : UInt64} {n m : Int} {j : Nat} (hx : own_Rep x n j) (hy : own_Rep y m j) (hs : (n + m).natAbs < 2 ^ 53) (hj : j ≤ 2045) : own_Rep (dadd x y) (n + m) j := by
  obtain ⟨⟨s, c, q, ex⟩, zx⟩ := hx
  obtain ⟨⟨t, d, r, ey⟩, zy⟩ := hy
  have fx := val64_fits x; have fy := val64_fits y
  rw [ex] at fx zx; rw [ey] at fy zy
  obtain ⟨sg, N, e, h1, h2, h3⟩ := sum_units fx fy
  have hv : val64 (dadd x y) = round b64 (.fin sg N e) := by rw [val64_dadd, ex, ey, h1]
  rw [zx, zy, ← Int.add_mul] at h3
  exact own_round hv h2 hs hj h3
theorem own_sub {x y : UInt64} {n m : Int} {j : Nat} (hx : own_Rep x n j) (hy : own_Rep y m j) (hs : (n - m).natAbs < 2 ^ 53) (hj : j ≤ 2045) : own_Rep (dsub x y) (n - m) j := by
  obtain ⟨⟨s, c, q, ex⟩, zx⟩ := hx
  obtain ⟨⟨t, d, r, ey⟩, zy⟩ := hy
  have fx := val64_fits x; have fy := negate_fits (val64_fits y)
  have zy2 := zval_negate b64 (val64 y)
  rw [ex] at fx zx; rw [ey] at fy zy zy2
  rw [zy] at zy2
  obtain ⟨sg, N, e, h1, h2, h3⟩ := sum_units fx fy
  have hv : val64 (dsub x y) = round b64 (.fin sg N e) := by rw [val64_dsub, ex, ey]; exact congrArg (round b64) h1
  rw [zx, show zval b64 (.fin (!t) d r) = -(m * ((2 ^ j : Nat) : Int)) from zy2, ← Int.sub_eq_add_neg, ← Int.sub_mul] at h3
  exact own_round hv h2 hs hj h3
theorem own_zmag {x : UInt64} {n : Int} {j : Nat} (hx : own_Rep x n j) : zmag b64 (val64 x) = n.natAbs * 2 ^ j := by
  have := congrArg Int.natAbs hx.2
  rwa [zval, natAbs_signed, own_natAbs_pow] at this
theorem own_sgn {x : UInt64} {n : Int} {j : Nat} (hx : own_Rep x n j) (hn : n ≠ 0) : sgn (val64 x) = decide (n < 0) := by
  have h := hx.2
  have h0 := own_zmag hx
  unfold zval at h
  rw [h0] at h
  have hp : (0 : Int) < ((2 ^ j : Nat) : Int) := by exact_mod_cast Nat.two_pow_pos j
  have hq : 0 < n.natAbs * 2 ^ j := Nat.mul_pos (by omega) (Nat.two_pow_pos j)
  cases hS : sgn (val64 x)
  · rw [hS] at h
    simp only [signed, Bool.false_eq_true, if_false] at h
    have : ¬ n < 0 := fun q => by have := Int.mul_neg_of_neg_of_pos q hp; omega
    simp [this]
  · rw [hS] at h
    simp only [signed, if_true] at h
    have : n < 0 := by
      rcases (by omega : n < 0 ∨ 0 ≤ n) with q | q
      · exact q
      · have := Int.mul_nonneg q (Int.le_of_lt hp); omega
    simp [this]
theorem own_mul {x y : UInt64} {n m : Int} {j i k : Nat} (hx : own_Rep x n j) (hy : own_Rep y m i) (hk : k + 1074 = j + i) (hs : (n * m).natAbs < 2 ^ 53) (hk2 : k ≤ 2045) : own_Rep (dmul x y) (n * m) k := by
  have zx := own_zmag hx; have zy := own_zmag hy
  have sx := @own_sgn x n j hx; have sy := @own_sgn y m i hy
  obtain ⟨⟨s, c, q, ex⟩, -⟩ := hx
  obtain ⟨⟨t, d, r, ey⟩, -⟩ := hy
  have fx := val64_fits x; have fy := val64_fits y
  rw [ex] at fx zx sx; rw [ey] at fy zy sy
  obtain ⟨h1, h2, h3⟩ := product_units fx fy
  rw [zx, zy, qmin_b64] at h3
  rw [qmin_b64] at h2
  have hv : val64 (dmul x y) = roundRatio b64 (s != t) (c * d) 1 (q + r) := by rw [val64_dmul, ex, ey, h1]; rfl
  have h5 : c * d * 2 ^ (q + r + 2148).toNat = (n * m).natAbs * 1 * 2 ^ (j + i) := by
    have : inUnits (c * d) (q + r) (2 * -1074) = c * d * 2 ^ (q + r + 2148).toNat := by unfold inUnits; rw [show (q + r - 2 * -1074).toNat = (q + r + 2148).toNat by omega]
    rw [← this, h3, Int.natAbs_mul, Nat.pow_add]; ac_rfl
  obtain ⟨c', q', h6, h7⟩ := own_rr_exact (s := s != t) (B := 1) (e := q + r) (by decide) hs hk2 h5 (by omega)
  have h8 : val64 (dmul x y) = .fin (s != t) c' q' := hv.trans h6
  refine ⟨⟨_, _, _, h8⟩, ?_⟩
  rw [h8]
  show signed (s != t) (inUnits c' q' b64.qmin) = _
  rw [h7]
  by_cases hn : n = 0
  · subst hn; simp [signed]
  by_cases hm : m = 0
  · subst hm; simp [signed]
  have sx' : s = decide (n < 0) := sx hn
  have sy' : t = decide (m < 0) := sy hm
  subst sx' sy'
  rw [signed_mul]
  congr 1
  rcases Int.lt_or_gt_of_ne hn with a | a <;> rcases Int.lt_or_gt_of_ne hm with b | b
  · have := Int.mul_pos_of_neg_of_neg a b; simp only [a, b, decide_true, bne_self_eq_false, signed, Bool.false_eq_true, if_false]; omega
  · have := Int.mul_neg_of_neg_of_pos a b; have b' : ¬ m < 0 := by omega
    simp only [a, b', decide_true, decide_false, signed]; simp; omega
  · have := Int.mul_neg_of_pos_of_neg a b; have a' : ¬ n < 0 := by omega
    simp only [a', b, decide_true, decide_false, signed]; simp; omega
  · have := Int.mul_pos a b; have a' : ¬ n < 0 := by omega
    have b' : ¬ m < 0 := by omega
    simp only [a', b', decide_false, bne_self_eq_false, signed, Bool.false_eq_true, if_false]; omega
/-- the quotient, rounded once -/
theorem own_div_val {x y : UInt64} {n m : Int} {j i : Nat} (hx : own_Rep x n j) (hy : own_Rep y m i) (hm : m ≠ 0) :
    ∃ sg, val64 (ddiv x y) = roundRatio b64 sg n.natAbs m.natAbs ((j : Int) - i) ∧ (n ≠ 0 → sg = (decide (n < 0) != decide (m < 0))) := by
  have zx := own_zmag hx; have zy := own_zmag hy
  have sx := @own_sgn x n j hx; have sy := @own_sgn y m i hy
  obtain ⟨⟨s, c, q, ex⟩, -⟩ := hx
  obtain ⟨⟨t, d, r, ey⟩, -⟩ := hy
  have fx := val64_fits x; have fy := val64_fits y
  rw [ex] at fx zx sx; rw [ey] at fy zy sy
  have f1 : b64.qmin ≤ q := fx.2.1
  have f2 : b64.qmin ≤ r := fy.2.1
  rw [qmin_b64] at f1 f2
  have zx' : c * 2 ^ (q + 1074).toNat = n.natAbs * 2 ^ j := by rw [← zx]; show _ = inUnits c q b64.qmin; unfold inUnits; rw [qmin_b64, show (q - -1074).toNat = (q + 1074).toNat by omega]
  have zy' : d * 2 ^ (r + 1074).toNat = m.natAbs * 2 ^ i := by rw [← zy]; show _ = inUnits d r b64.qmin; unfold inUnits; rw [qmin_b64, show (r - -1074).toNat = (r + 1074).toNat by omega]
  have hd : d ≠ 0 := by
    rintro rfl
    rw [Nat.zero_mul] at zy'
    have := Nat.mul_pos (show 0 < m.natAbs by omega) (Nat.two_pow_pos i)
    omega
  refine ⟨s != t, ?_, fun hn => ?_⟩
  · rw [val64_ddiv, ex, ey]
    show (if d = 0 then _ else roundRatio b64 (s != t) c d (q - r)) = _
    rw [if_neg hd]
    have h1 : c * m.natAbs * 2 ^ ((q + 1074).toNat + i) = n.natAbs * d * 2 ^ ((r + 1074).toNat + j) := by
      rw [Nat.pow_add, Nat.pow_add]
      calc c * m.natAbs * (2 ^ (q + 1074).toNat * 2 ^ i) = (c * 2 ^ (q + 1074).toNat) * (m.natAbs * 2 ^ i) := by ac_rfl
        _ = (n.natAbs * 2 ^ j) * (d * 2 ^ (r + 1074).toNat) := by rw [zx', zy']
        _ = _ := by ac_rfl
    have h2 := own_cancel h1
    refine roundRatio_congr (Nat.pos_of_ne_zero hd) (by omega) ?_
    rw [show (q - r - ((j : Int) - i)).toNat = (q + 1074).toNat + i - ((r + 1074).toNat + j) by omega, show (((j : Int) - i) - (q - r)).toNat = (r + 1074).toNat + j - ((q + 1074).toNat + i) by omega]
    exact h2
  · rw [← show s = decide (n < 0) from sx hn, ← show t = decide (m < 0) from sy hm]
theorem own_signed_bne {n m : Int} (hn : n ≠ 0) (hm : m ≠ 0) {a : Int} (h : n = a * m) : signed (decide (n < 0) != decide (m < 0)) a.natAbs = a := by
  rcases Int.lt_or_gt_of_ne hn with p | p <;> rcases Int.lt_or_gt_of_ne hm with b | b
  · have : 0 ≤ a := by rcases (by omega : a < 0 ∨ 0 ≤ a) with q | q; (have := Int.mul_pos_of_neg_of_neg q b; omega); exact q
    simp only [p, b, decide_true, bne_self_eq_false, signed, Bool.false_eq_true, if_false]; omega
  · have : a < 0 := by rcases (by omega : a < 0 ∨ 0 ≤ a) with q | q; exact q; (have := Int.mul_nonneg q (Int.le_of_lt b); omega)
    have b' : ¬ m < 0 := by omega
    simp only [p, b', decide_true, decide_false, signed]; simp; omega
  · have : a < 0 := by rcases (by omega : a < 0 ∨ 0 ≤ a) with q | q; exact q; (have := Int.mul_nonpos_of_nonneg_of_nonpos q (Int.le_of_lt b); omega)
    have p' : ¬ n < 0 := by omega
    simp only [p', b, decide_true, decide_false, signed]; simp; omega
  · have : 0 ≤ a := by rcases (by omega : a < 0 ∨ 0 ≤ a) with q | q; (have := Int.mul_neg_of_neg_of_pos q b; omega); exact q
    have p' : ¬ n < 0 := by omega
    have b' : ¬ m < 0 := by omega
    simp only [p', b', decide_false, bne_self_eq_false, signed, Bool.false_eq_true, if_false]; omega
theorem own_div {x y : UInt64} {a m : Int} {j i k : Nat} (hx : own_Rep x (a * m) j) (hy : own_Rep y m i) (hm : m ≠ 0) (hk : k + i = j + 1074) (ha : a.natAbs < 2 ^ 53) (hk2 : k ≤ 2045) : own_Rep (ddiv x y) a k := by
  obtain ⟨sg, h1, h2⟩ := own_div_val hx hy hm
  have h3 : (a * m).natAbs * 2 ^ j = a.natAbs * m.natAbs * 2 ^ j := by rw [Int.natAbs_mul]
  obtain ⟨c, q, h4, h5⟩ := own_rr_exact (s := sg) (A := (a * m).natAbs) (B := m.natAbs) (e := (j : Int) - i) (M := a.natAbs) (j := k) (by omega) ha hk2 h3 (by omega)
  have h6 : val64 (ddiv x y) = .fin sg c q := h1.trans h4
  refine ⟨⟨_, _, _, h6⟩, ?_⟩
  rw [h6]
  show signed sg (inUnits c q b64.qmin) = _
  rw [h5, signed_mul]
  by_cases h0 : a = 0
  · subst h0; cases sg <;> simp [signed]
  · have hne : a * m ≠ 0 := Int.mul_ne_zero h0 hm
    rw [h2 hne, own_signed_bne hne hm rfl]
theorem own_ne_nan {x : UInt64} {n : Int} {j : Nat} (hx : own_Rep x n j) : val64 x ≠ .nan := hx.1.ne_nan
theorem own_cmp {x y : UInt64} {n m : Int} {j : Nat} (hx : own_Rep x n j) (hy : own_Rep y m j) : dcmp x y = some (compare n m) := by
  rw [dcmp_zval (own_ne_nan hx) (own_ne_nan hy), hx.2, hy.2]
  refine congrArg some ?_
  have hp : (0 : Int) < ((2 ^ j : Nat) : Int) := by exact_mod_cast Nat.two_pow_pos j
  exact compare_congr (Int.mul_lt_mul_right hp) (Int.mul_eq_mul_right_iff (by omega))
theorem own_cmp_eq {x y : UInt64} {n : Int} {j : Nat} {o : Jvm.ClassFile.CmpOp} (hx : own_Rep x n j) (hy : own_Rep y n j) : Jvm.Op.cmpValue (Jvm.FP.dcmp x y) o = (0 : Int32) := by
  rw [show Jvm.FP.dcmp x y = some .eq from (own_cmp hx hy).trans (by rw [(compare_eq_iff _ _).mpr rfl])]; rfl
theorem own_l2d {a : Int64} (h1 : -9007199254740992 < a.toInt) (h2 : a.toInt < 9007199254740992) : own_Rep (l2d a) a.toInt 1074 :=
  ⟨l2d_fin a, DInt_zval (l2d_whole ⟨h1, h2⟩)⟩
theorem own_i2d (a : Int32) : own_Rep (i2d a) a.toInt 1074 := by
  have h1 := a.le_toInt; have h2 := a.toInt_lt
  have := @own_l2d a.toInt64 (by rw [Int32.toInt_toInt64]; omega) (by rw [Int32.toInt_toInt64]; omega)
  rwa [← i2d_l2d, Int32.toInt_toInt64] at this
theorem own_shift {x : UInt64} {n : Int} {j i k : Nat} (hx : own_Rep x n j) (hk : k + i = j) : own_Rep x (n * ((2 ^ i : Nat) : Int)) k := by
  refine ⟨hx.1, ?_⟩
  rw [hx.2, ← hk, Nat.pow_add, Int.natCast_mul]; ac_rfl
theorem own_noNaN {x : UInt64} {n : Int} {j : Nat} (hx : own_Rep x n j) : Jvm.Free.Fl.NoNaN64 x := (Jvm.Free.Fl.fin64_core.mpr hx.1).noNaN
theorem own_fin {x : UInt64} {n : Int} {j : Nat} (hx : own_Rep x n j) : Jvm.Free.Fl.Fin64 x := Jvm.Free.Fl.fin64_core.mpr hx.1
/-- a rounded magnitude against a number of the format -/
theorem own_rr_ge {s : Bool} {A B v j E : Nat} {e : Int} (hB : 0 < B) (hv : v < 2 ^ 53) (hj : j ≤ 2045) (he : e + 1074 = (E : Int)) (h : v * 2 ^ j * B ≤ A * 2 ^ E) : v * 2 ^ j ≤ zmag b64 (roundRatio b64 s A B e) := by
  obtain ⟨c, q, h1, h2⟩ := own_rr_exact (s := false) (A := v) (B := 1) (M := v) (j := j) (u := 0) (v := 0) (e := (j : Int) - 1074) (by decide) hv hj (by simp) (by omega)
  have hf : Jvm.FP.Core.fits b64 (Datum.fin false c q) := h1 ▸ roundRatio_fits good_b64 false v (by decide) _
  have := zmag_roundRatio_ge good_b64 (s := s) (A := A) (B := B) (e := e) (e0 := b64.qmin) hB hf (Int.le_refl _) (by rw [qmin_b64]; omega) (by
    show inUnits c q b64.qmin * _ * B ≤ inUnits A e b64.qmin
    rw [h2, Int.sub_self]; unfold inUnits; rw [qmin_b64, show (e - -1074).toNat = E by omega]; simpa using h)
  exact h2 ▸ this
theorem own_rr_le {s : Bool} {A B v j E : Nat} {e : Int} (hB : 0 < B) (hv : v < 2 ^ 53) (hj : j ≤ 2045) (he : e + 1074 = (E : Int)) (h : A * 2 ^ E ≤ v * 2 ^ j * B) : zmag b64 (roundRatio b64 s A B e) ≤ v * 2 ^ j := by
  obtain ⟨c, q, h1, h2⟩ := own_rr_exact (s := false) (A := v) (B := 1) (M := v) (j := j) (u := 0) (v := 0) (e := (j : Int) - 1074) (by decide) hv hj (by simp) (by omega)
  have hf : Jvm.FP.Core.fits b64 (Datum.fin false c q) := h1 ▸ roundRatio_fits good_b64 false v (by decide) _
  have := zmag_roundRatio_le good_b64 (s := s) (A := A) (B := B) (e := e) (e0 := b64.qmin) hB hf Datum.noConfusion (Int.le_refl _) (by rw [qmin_b64]; omega) (by
    show inUnits A e b64.qmin ≤ inUnits c q b64.qmin * _ * B
    rw [h2, Int.sub_self]; unfold inUnits; rw [qmin_b64, show (e - -1074).toNat = E by omega]; simpa using h)
  exact h2 ▸ this
end OwnFloat
section OwnFloat2
open Jvm.FP.Core
theorem own_neg {x : UInt64} {n : Int} {j : Nat} (hx : own_Rep x n j) : own_Rep (dneg x) (-n) j := by
  obtain ⟨⟨s, c, q, ex⟩, zx⟩ := hx
  refine ⟨⟨!s, c, q, by rw [val64_dneg, ex]; rfl⟩, ?_⟩
  rw [val64_dneg, zval_negate, zx, Int.neg_mul]
theorem own_zeroJ (j : Nat) : own_Rep 0 0 j := ⟨⟨false, 0, b64.qmin, val64_zero⟩, by rw [zval64_zero, Int.zero_mul]⟩
theorem own_abs {x : UInt64} {n : Int} {j : Nat} (hx : own_Rep x n j) : own_Rep (x &&& 0x7fffffffffffffff) ((n.natAbs : Nat) : Int) j := by
  have h := own_cmp hx (own_zeroJ j)
  rcases Int.lt_trichotomy n 0 with a | a | a
  · rw [(compare_lt_iff _ _).mpr a] at h
    rw [Jvm.FP.Core.abs_neg h, show ((n.natAbs : Nat) : Int) = -n by omega]; exact own_neg hx
  · rw [(compare_eq_iff _ _).mpr a] at h
    rw [Jvm.FP.Core.abs_zero h, a]; exact own_zeroJ j
  · rw [(compare_gt_iff _ _).mpr a] at h
    rw [Jvm.FP.Core.abs_pos h, show ((n.natAbs : Nat) : Int) = n by omega]; exact hx
theorem own_pick {x y : UInt64} {n m : Int} {j : Nat} (hx : own_Rep x n j) (hy : own_Rep y m j) : own_Rep (Jvm.Native.java_lang_Math.nans.pick64 true x y) (if n < m then m else n) j := by
  have h := own_cmp hx hy
  rcases Int.lt_trichotomy n m with a | a | a
  · rw [(compare_lt_iff _ _).mpr a] at h
    rw [if_pos a, show Jvm.Native.java_lang_Math.nans.pick64 true x y = y by unfold Jvm.Native.java_lang_Math.nans.pick64; rw [show Jvm.FP.dcmp x y = some .lt from h]; rfl]; exact hy
  · rw [if_neg (by omega)]
    rcases Jvm.Free.Fl.pick64_or true x y with z | z
    · rw [z]; exact hx
    · rw [z, a]; exact hy
  · rw [(compare_gt_iff _ _).mpr a] at h
    rw [if_neg (by omega), show Jvm.Native.java_lang_Math.nans.pick64 true x y = x by unfold Jvm.Native.java_lang_Math.nans.pick64; rw [show Jvm.FP.dcmp x y = some .gt from h]; rfl]; exact hx
/-- a number of the format as a datum -/
theorem own_datum (v : Int) (i : Nat) (hv : v.natAbs < 2 ^ 53) (hi : i ≤ 2045) : ∃ V, Jvm.FP.Core.fits b64 V ∧ V ≠ .nan ∧ zval b64 V = v * ((2 ^ i : Nat) : Int) := by
  obtain ⟨c, q, h1, h2⟩ := own_rr_exact (s := decide (v < 0)) (A := v.natAbs) (B := 1) (M := v.natAbs) (j := i) (u := 0) (v := 0) (e := (i : Int) - 1074) (by decide) hv hi (by simp) (by omega)
  refine ⟨.fin (decide (v < 0)) c q, h1 ▸ roundRatio_fits good_b64 _ _ (by decide) _, Datum.noConfusion, ?_⟩
  show signed (decide (v < 0)) (inUnits c q b64.qmin) = _
  rw [h2, signed_mul]
  congr 1
  by_cases h : v < 0
  · simp only [h, decide_true, signed, if_true]; omega
  · simp only [h, decide_false, signed, Bool.false_eq_true, if_false]; omega
theorem own_dadd_nn {x y : UInt64} {n m : Int} {j i : Nat} (hx : own_Rep x n j) (hy : own_Rep y m i) : val64 (dadd x y) ≠ .nan := by
  obtain ⟨⟨s, c, q, ex⟩, zx⟩ := hx
  obtain ⟨⟨t, d, r, ey⟩, zy⟩ := hy
  rw [val64_dadd, ex, ey]
  exact roundRatio_ne_nan _ _ _ _ _
theorem own_dadd_le {x y : UInt64} {n m v : Int} {j i : Nat} (hx : own_Rep x n j) (hy : own_Rep y m j) (hv : v.natAbs < 2 ^ 53) (hi : i ≤ 2045) (h : (n + m) * ((2 ^ j : Nat) : Int) ≤ v * ((2 ^ i : Nat) : Int)) : zval b64 (val64 (dadd x y)) ≤ v * ((2 ^ i : Nat) : Int) := by
  obtain ⟨V, h1, h2, h3⟩ := own_datum v i hv hi
  obtain ⟨⟨s, c, q, ex⟩, zx⟩ := hx
  obtain ⟨⟨t, d, r, ey⟩, zy⟩ := hy
  have fx := val64_fits x; have fy := val64_fits y
  rw [ex] at fx zx; rw [ey] at fy zy
  obtain ⟨sg, N, e, k1, k2, k3⟩ := sum_units fx fy
  rw [val64_dadd, ex, ey, k1, ← h3]
  refine zval_round_le good_b64 h1 h2 (Int.le_refl _) k2 ?_
  rw [k3, zx, zy, ← Int.add_mul, h3, Int.sub_self]
  simpa using h
theorem own_dadd_ge {x y : UInt64} {n m v : Int} {j i : Nat} (hx : own_Rep x n j) (hy : own_Rep y m j) (hv : v.natAbs < 2 ^ 53) (hi : i ≤ 2045) (h : v * ((2 ^ i : Nat) : Int) ≤ (n + m) * ((2 ^ j : Nat) : Int)) : v * ((2 ^ i : Nat) : Int) ≤ zval b64 (val64 (dadd x y)) := by
  obtain ⟨V, h1, h2, h3⟩ := own_datum v i hv hi
  obtain ⟨⟨s, c, q, ex⟩, zx⟩ := hx
  obtain ⟨⟨t, d, r, ey⟩, zy⟩ := hy
  have fx := val64_fits x; have fy := val64_fits y
  rw [ex] at fx zx; rw [ey] at fy zy
  obtain ⟨sg, N, e, k1, k2, k3⟩ := sum_units fx fy
  rw [val64_dadd, ex, ey, k1, ← h3]
  refine zval_round_ge good_b64 h1 h2 (Int.le_refl _) k2 ?_
  rw [k3, zx, zy, ← Int.add_mul, h3, Int.sub_self]
  simpa using h
theorem own_nn_of {x : UInt64} (h : val64 x ≠ .nan) : Jvm.Free.Fl.NoNaN64 x := Jvm.Free.Fl.noNaN64_no.mpr ((notNaN_iff _).mpr h)
end OwnFloat2
section OwnRound
open Jvm.FP.Core
/-! rounding of whole numbers of 2^-1074: own_R; the numbers of the format: own_F -/
def own_F (z : Int) : Prop := ∃ (m : Int) (k : Nat), m.natAbs < 2 ^ 53 ∧ z = m * ((2 ^ k : Nat) : Int)
def own_R (z : Int) : Int := zval b64 (roundRatio b64 (decide (z < 0)) z.natAbs 1 (-1074))
def own_V (x : UInt64) (z : Int) : Prop := DFin x ∧ zval b64 (val64 x) = z
theorem own_signed_abs (z : Int) : signed (decide (z < 0)) z.natAbs = z := by
  by_cases h : z < 0
  · simp only [h, decide_true, signed, if_true]; omega
  · simp only [h, decide_false, signed, Bool.false_eq_true, if_false]; omega
theorem own_V_F {x : UInt64} {z : Int} (h : own_V x z) : own_F z := by
  obtain ⟨⟨s, c, q, ex⟩, rfl⟩ := h
  have f := val64_fits x
  rw [ex] at f ⊢
  have hp : b64.p = 53 := rfl
  refine ⟨signed s c, (q - b64.qmin).toNat, by rw [natAbs_signed, ← hp]; exact f.1, ?_⟩
  show signed s (inUnits c q b64.qmin) = _
  unfold inUnits
  rw [signed_mul]
theorem own_pow_pos (j : Nat) : (0 : Int) < ((2 ^ j : Nat) : Int) := by exact_mod_cast Nat.two_pow_pos j
theorem own_F_zero : own_F 0 := ⟨0, 0, by decide, by simp⟩
theorem own_F_neg {z : Int} (h : own_F z) : own_F (-z) := by
  obtain ⟨m, k, h1, rfl⟩ := h
  exact ⟨-m, k, by omega, by rw [Int.neg_mul]⟩
/-- a multiple of 2^k that is at most 2^53 * 2^k -/
theorem own_F_of {z m : Int} {k : Nat} (h : z = m * ((2 ^ k : Nat) : Int)) (hm : m.natAbs ≤ 2 ^ 53) : own_F z := by
  by_cases e : m.natAbs < 2 ^ 53
  · exact ⟨m, k, e, h⟩
  · have hk : ((2 ^ (k + 1) : Nat) : Int) = 2 * ((2 ^ k : Nat) : Int) := by rw [Nat.pow_succ]; omega
    rcases (by omega : m < 0 ∨ 0 ≤ m) with s | s
    · exact ⟨-(2 ^ 52), k + 1, by decide, by rw [h, hk, show m = -(2 ^ 53) by omega]; omega⟩
    · exact ⟨2 ^ 52, k + 1, by decide, by rw [h, hk, show m = 2 ^ 53 by omega]; omega⟩
/-- F up to the greatest exponent -/
theorem own_F_low {z : Int} (h : own_F z) (hz : z.natAbs < 2 ^ 2097) : ∃ (m : Int) (k : Nat), m.natAbs < 2 ^ 53 ∧ k ≤ 2045 ∧ z = m * ((2 ^ k : Nat) : Int) := by
  obtain ⟨m, k, h1, h2⟩ := h
  by_cases hk : k ≤ 2045
  · exact ⟨m, k, h1, hk, h2⟩
  · obtain ⟨d, rfl⟩ : ∃ d, k = 2045 + d := ⟨k - 2045, by omega⟩
    refine ⟨m * ((2 ^ d : Nat) : Int), 2045, ?_, Nat.le_refl _, by rw [h2, Nat.pow_add, Int.natCast_mul, Int.mul_comm ((2 ^ 2045 : Nat) : Int), Int.mul_assoc]⟩
    have e : z.natAbs = (m * ((2 ^ d : Nat) : Int)).natAbs * 2 ^ 2045 := by rw [h2, own_natAbs_pow, own_natAbs_pow, Nat.pow_add, Nat.mul_comm (2 ^ 2045), Nat.mul_assoc]
    rw [e, show (2097 : Nat) = 52 + 2045 from rfl, Nat.pow_add] at hz
    have := Nat.lt_of_mul_lt_mul_right hz
    omega
theorem own_top : b64.tails * 2 ^ (b64.exps - 2) = 2 ^ 2098 := by
  rw [tails_b64, show b64.exps - 2 = 2046 by decide, ← Nat.pow_add]
theorem own_inUnits0 (A : Nat) : inUnits A (-1074) b64.qmin = A := by unfold inUnits; rw [qmin_b64]; simp
/-- below the greatest, rounding is finite -/
theorem own_R_fin (s : Bool) {A : Nat} (h : A ≤ 2 ^ 2097) : ∃ c q, roundRatio b64 s A 1 (-1074) = .fin s c q := by
  rcases roundRatio_cases b64 s A 1 (-1074) with ⟨c, q, hR⟩ | hR
  · exact ⟨c, q, hR⟩
  · exfalso
    have := own_rr_le (s := s) (A := A) (B := 1) (v := 2 ^ 52) (j := 2045) (E := 0) (e := -1074) (by decide) (by decide) (Nat.le_refl _) (by decide) (by
      rw [Nat.pow_zero, Nat.mul_one, Nat.mul_one, ← Nat.pow_add]; exact h)
    rw [hR] at this
    change b64.tails * 2 ^ (b64.exps - 2) ≤ _ at this
    rw [own_top, ← Nat.pow_add, show (2098 : Nat) = 1 + 2097 from rfl, Nat.pow_add] at this
    have := Nat.two_pow_pos 2097
    omega
theorem own_R_val (s : Bool) (z : Int) (hs : z ≠ 0 → s = decide (z < 0)) : zval b64 (roundRatio b64 s z.natAbs 1 (-1074)) = own_R z := by
  by_cases h : z = 0
  · subst h
    unfold own_R
    show zval b64 (roundRatio b64 s 0 1 (-1074)) = zval b64 (roundRatio b64 _ 0 1 (-1074))
    unfold roundRatio
    simp [zval, sgn, zmag, inUnits, signed]
  · rw [hs h]; rfl
theorem own_round_val {s : Bool} {N : Nat} {e z : Int} (he : b64.qmin ≤ e) (h : signed s (inUnits N e b64.qmin) = z) : round b64 (.fin s N e) = roundRatio b64 s z.natAbs 1 (-1074) ∧ (z ≠ 0 → s = decide (z < 0)) := by
  have h1 : inUnits N e b64.qmin = z.natAbs := by have := congrArg Int.natAbs h; rwa [natAbs_signed] at this
  rw [qmin_b64] at he
  constructor
  · show roundRatio b64 s N 1 e = _
    refine roundRatio_congr (by decide) (by decide) ?_
    rw [← h1]; unfold inUnits
    rw [qmin_b64, show (-1074 - e).toNat = 0 by omega, Nat.pow_zero, Nat.mul_one, Nat.mul_one, Nat.mul_one]
  · intro hz
    rw [h1] at h
    cases s
    · simp only [signed, Bool.false_eq_true, if_false] at h; simp; omega
    · simp only [signed, if_true] at h; simp; omega
theorem own_V_add {x y : UInt64} {a b : Int} (hx : own_V x a) (hy : own_V y b) (h : (a + b).natAbs ≤ 2 ^ 2097) : own_V (dadd x y) (own_R (a + b)) := by
  obtain ⟨⟨s, c, q, ex⟩, zx⟩ := hx
  obtain ⟨⟨t, d, r, ey⟩, zy⟩ := hy
  have fx := val64_fits x; have fy := val64_fits y
  rw [ex] at fx zx; rw [ey] at fy zy
  obtain ⟨sg, N, e, k1, k2, k3⟩ := sum_units fx fy
  rw [zx, zy] at k3
  obtain ⟨r1, r2⟩ := own_round_val k2 k3
  have hv : val64 (dadd x y) = roundRatio b64 sg (a + b).natAbs 1 (-1074) := by rw [val64_dadd, ex, ey, k1, r1]
  obtain ⟨c', q', hR⟩ := own_R_fin sg h
  exact ⟨⟨sg, c', q', hv.trans hR⟩, by rw [hv]; exact own_R_val sg _ r2⟩
theorem own_V_sub {x y : UInt64} {a b : Int} (hx : own_V x a) (hy : own_V y b) (h : (a - b).natAbs ≤ 2 ^ 2097) : own_V (dsub x y) (own_R (a - b)) := by
  obtain ⟨⟨s, c, q, ex⟩, zx⟩ := hx
  obtain ⟨⟨t, d, r, ey⟩, zy⟩ := hy
  have fx := val64_fits x; have fy := negate_fits (val64_fits y)
  have zy2 := zval_negate b64 (val64 y)
  rw [ex] at fx zx; rw [ey] at fy zy zy2
  rw [zy] at zy2
  obtain ⟨sg, N, e, k1, k2, k3⟩ := sum_units fx fy
  rw [zx, show zval b64 (.fin (!t) d r) = -b from zy2, ← Int.sub_eq_add_neg] at k3
  obtain ⟨r1, r2⟩ := own_round_val k2 k3
  have hv : val64 (dsub x y) = roundRatio b64 sg (a - b).natAbs 1 (-1074) := by rw [val64_dsub, ex, ey]; exact (congrArg (round b64) k1).trans r1
  obtain ⟨c', q', hR⟩ := own_R_fin sg h
  exact ⟨⟨sg, c', q', hv.trans hR⟩, by rw [hv]; exact own_R_val sg _ r2⟩
theorem own_R_exact {z : Int} (h : own_F z) (hz : z.natAbs < 2 ^ 2097) : own_R z = z := by
  obtain ⟨m, k, h1, h2, rfl⟩ := own_F_low h hz
  unfold own_R
  obtain ⟨c, q, r1, r2⟩ := own_rr_exact (s := decide (m * ((2 ^ k : Nat) : Int) < 0)) (A := (m * ((2 ^ k : Nat) : Int)).natAbs) (B := 1) (M := m.natAbs) (j := k) (u := 0) (v := k) (e := -1074) (by decide) h1 h2 (by rw [own_natAbs_pow]; simp) (by omega)
  rw [r1]
  show signed (decide (m * ((2 ^ k : Nat) : Int) < 0)) (inUnits c q b64.qmin) = _
  rw [r2, ← own_natAbs_pow, own_signed_abs]
theorem own_R_F (z : Int) (hz : z.natAbs ≤ 2 ^ 2097) : own_F (own_R z) := by
  obtain ⟨c, q, hR⟩ := own_R_fin (decide (z < 0)) hz
  have f := roundRatio_fits good_b64 (decide (z < 0)) z.natAbs (B := 1) (by decide) (-1074)
  unfold own_R
  rw [hR] at f ⊢
  have hp : b64.p = 53 := rfl
  refine ⟨signed (decide (z < 0)) c, (q - b64.qmin).toNat, by rw [natAbs_signed, ← hp]; exact f.1, ?_⟩
  show signed (decide (z < 0)) (inUnits c q b64.qmin) = _
  unfold inUnits
  rw [signed_mul]
/-- the rounded number is a nearest one -/
theorem own_R_near {z f : Int} (hz : z.natAbs ≤ 2 ^ 2097) (hf : own_F f) : (z - own_R z).natAbs ≤ (z - f).natAbs := by
  obtain ⟨c, q, hR⟩ := own_R_fin (decide (z < 0)) hz
  have key : ∀ (m : Nat) (k : Nat), m < 2 ^ 53 → ((z.natAbs : Int) - (inUnits c q b64.qmin : Int)).natAbs ≤ ((z.natAbs : Int) - ((m * 2 ^ k : Nat) : Int)).natAbs := by
    intro m k hm
    have hp : b64.p = 53 := rfl
    have := roundRatio_nearest good_b64 (B := 1) (e0 := b64.qmin) (c' := m) (q' := (k : Int) + b64.qmin) (by decide) hR (by rw [hp]; exact hm) (by omega) (Int.le_refl _) (by rw [qmin_b64]; decide)
    unfold distance at this
    rw [own_inUnits0] at this
    have e : inUnits m ((k : Int) + b64.qmin) b64.qmin = m * 2 ^ k := by unfold inUnits; rw [show ((k : Int) + b64.qmin - b64.qmin).toNat = k by omega]
    rw [e] at this
    simpa using this
  have hv : own_R z = signed (decide (z < 0)) (inUnits c q b64.qmin) := by unfold own_R; rw [hR]; rfl
  rw [hv]
  generalize inUnits c q b64.qmin = r at *
  obtain ⟨m, k, h1, rfl⟩ := hf
  have k0 := key 0 0 (by decide)
  have k1 := key m.natAbs k h1
  rw [← own_natAbs_pow] at k1
  generalize m * ((2 ^ k : Nat) : Int) = f at *
  by_cases h : z < 0
  · simp only [h, decide_true, signed, if_true]
    omega
  · simp only [h, decide_false, signed, Bool.false_eq_true, if_false]
    omega
theorem own_R_le {z f : Int} (hz : z.natAbs ≤ 2 ^ 2097) (hf : own_F f) (h : z ≤ f) : own_R z ≤ f := by
  have n1 := own_R_near hz hf
  rcases (by omega : f < own_R z ∨ own_R z ≤ f) with a | a
  · omega
  · exact a
theorem own_R_ge {z f : Int} (hz : z.natAbs ≤ 2 ^ 2097) (hf : own_F f) (h : f ≤ z) : f ≤ own_R z := by
  have n1 := own_R_near hz hf
  rcases (by omega : own_R z < f ∨ f ≤ own_R z) with a | a
  · omega
  · exact a
/-- what is no number of the format is rounded at a bit u: within half of 2^u -/
theorem own_R_ulp {z : Int} (hz : z.natAbs ≤ 2 ^ 2097) (hF : ¬ own_F z) : ∃ (u : Nat) (n : Int), own_R z = n * ((2 ^ u : Nat) : Int) ∧ 2 ^ 52 ≤ n.natAbs ∧ n.natAbs ≤ 2 ^ 53 ∧ 2 * (z - own_R z).natAbs ≤ 2 ^ u ∧ 1 ≤ u := by
  obtain ⟨c, q, hR⟩ := own_R_fin (decide (z < 0)) hz
  have hA : 0 < z.natAbs := by
    rcases Nat.eq_zero_or_pos z.natAbs with a | a
    · exact absurd (show own_F z by rw [show z = 0 by omega]; exact own_F_zero) hF
    · exact a
  have hv : own_R z = signed (decide (z < 0)) (inUnits c q b64.qmin) := by unfold own_R; rw [hR]; rfl
  unfold roundRatio at hR
  rw [if_neg (by omega)] at hR
  have g1 := quantum_ge b64 z.natAbs 1 (-1074)
  have g2 := nearest_units_le (f := b64) hA (B := 1) (by decide) (-1074)
  have g3 := quantum_not_below (f := b64) hA (B := 1) (by decide) (-1074)
  have g4 := quantum_below (f := b64) hA (B := 1) (by decide) (-1074)
  unfold roundAt at hR
  generalize quantum b64 z.natAbs 1 (-1074) = r at *
  have hp : b64.p = 53 := rfl
  rw [hp] at g2 g3 g4
  rw [qmin_b64] at g1 g3
  obtain ⟨u, rfl⟩ : ∃ u : Nat, r = (u : Int) - 1074 := ⟨(r + 1074).toNat, by omega⟩
  have e1 : unitsNum z.natAbs (-1074) ((u : Int) - 1074) = z.natAbs := by unfold unitsNum; rw [show (-1074 - ((u : Int) - 1074)).toNat = 0 by omega]; simp
  have e2 : unitsDen 1 (-1074) ((u : Int) - 1074) = 2 ^ u := by unfold unitsDen; rw [show ((u : Int) - 1074 - -1074).toNat = u by omega]; simp
  rw [e1, e2] at hR g2
  have hs := (settle_value good_b64 (e0 := b64.qmin) (by rw [hp]; exact g2) hR (by rw [qmin_b64]; omega)).2
  have e3 : inUnits (nearest z.natAbs (2 ^ u)) ((u : Int) - 1074) b64.qmin = nearest z.natAbs (2 ^ u) * 2 ^ u := by unfold inUnits; rw [qmin_b64, show ((u : Int) - 1074 - -1074).toNat = u by omega]
  rw [e3] at hs
  obtain ⟨n1, n2, -⟩ := nearest_spec z.natAbs (2 ^ u) (Nat.two_pow_pos u)
  have hu : 1 ≤ u := by
    rcases Nat.eq_zero_or_pos u with a | a
    · exfalso
      subst a
      apply hF
      have : z.natAbs < 2 ^ 53 := by
        rw [show ((0 : Nat) : Int) - 1074 - -1074 + ((53 : Nat) : Int) = ((53 : Nat) : Int) - ((0 : Nat) : Int) by decide, below_iff] at g4
        simpa using g4
      exact ⟨z, 0, this, by simp⟩
    · exact a
  have hlow : 2 ^ 52 ≤ nearest z.natAbs (2 ^ u) := by
    refine nearest_ge (Nat.two_pow_pos u) ?_
    rcases g3 with g3 | g3
    · omega
    · rw [show ((u : Int) - 1074 - -1074 + (((53 : Nat) : Int) - 1)) = (((52 + u : Nat)) : Int) - ((0 : Nat) : Int) by omega, below_iff] at g3
      rw [← Nat.pow_add]
      simpa using g3
  refine ⟨u, signed (decide (z < 0)) (nearest z.natAbs (2 ^ u)), by rw [hv, hs, signed_mul], by rw [natAbs_signed]; exact hlow, by rw [natAbs_signed]; exact g2, ?_, hu⟩
  rw [hv, hs]
  generalize nearest z.natAbs (2 ^ u) = n at *
  have w1 : (2 * n + 1) * 2 ^ u = 2 * (n * 2 ^ u) + 2 ^ u := by rw [Nat.add_mul, Nat.one_mul, Nat.mul_assoc]
  have w2 : 2 * n * 2 ^ u = 2 * (n * 2 ^ u) := Nat.mul_assoc ..
  rw [w1] at n1; rw [w2] at n2
  generalize n * 2 ^ u = P at *
  generalize 2 ^ u = U at *
  by_cases h : z < 0
  · simp only [h, decide_true, signed, if_true]; omega
  · simp only [h, decide_false, signed, Bool.false_eq_true, if_false]; omega
end OwnRound
section OwnExact
open Jvm.FP.Core Jvm.Op
theorem own_VR {x : UInt64} {n : Int} (h : own_Rep x n 1074) : own_V x (n * ((2 ^ 1074 : Nat) : Int)) := h
theorem own_four (m : Int) (k : Nat) : 4 * m * ((2 ^ k : Nat) : Int) = m * ((2 ^ (k + 2) : Nat) : Int) := by
  rw [Nat.pow_add, Int.natCast_mul, Int.mul_comm 4 m, Int.mul_assoc, Int.mul_comm 4]; rfl
/-- an integer near Z, and a double -/
theorem own_R_int {Z : Int} (h : Z.natAbs ≤ 2 ^ 55) : ∃ H : Int, own_R (Z * ((2 ^ 1074 : Nat) : Int)) = H * ((2 ^ 1074 : Nat) : Int) ∧ (Z - H).natAbs ≤ 2 ∧ (Z.natAbs < 2 ^ 53 → H = Z) := by
  have hU := own_pow_pos 1074
  have hz : (Z * ((2 ^ 1074 : Nat) : Int)).natAbs < 2 ^ 2097 := by
    rw [own_natAbs_pow]
    calc Z.natAbs * 2 ^ 1074 ≤ 2 ^ 55 * 2 ^ 1074 := Nat.mul_le_mul_right _ h
      _ = 2 ^ (55 + 1074) := (Nat.pow_add 2 55 1074).symm
      _ < 2 ^ 2097 := Nat.pow_lt_pow_right (by decide) (by decide)
  by_cases hF : own_F (Z * ((2 ^ 1074 : Nat) : Int))
  · exact ⟨Z, own_R_exact hF hz, by simp, fun _ => rfl⟩
  · have h53 : ¬ Z.natAbs < 2 ^ 53 := fun q => hF (own_F_of (k := 1074) rfl (by omega))
    have hn := own_R_near (f := (4 * ((Z + 2) / 4)) * ((2 ^ 1074 : Nat) : Int)) (Nat.le_of_lt hz) (own_F_of (m := (Z + 2) / 4) (k := 1074 + 2) (own_four _ _) (by omega))
    obtain ⟨u, n, e1, e2, e3, -, -⟩ := own_R_ulp (Nat.le_of_lt hz) hF
    rw [← Int.sub_mul, own_natAbs_pow] at hn
    have hn2 : (Z * ((2 ^ 1074 : Nat) : Int) - own_R (Z * ((2 ^ 1074 : Nat) : Int))).natAbs ≤ 2 * 2 ^ 1074 := Nat.le_trans hn (Nat.mul_le_mul_right _ (by omega))
    have hu : 1074 ≤ u := by
      rcases Nat.lt_or_ge u 1074 with q | q
      · exfalso
        have h1 : (own_R (Z * ((2 ^ 1074 : Nat) : Int))).natAbs ≤ 2 ^ 53 * 2 ^ 1073 := by
          rw [e1, own_natAbs_pow]
          exact Nat.mul_le_mul e3 (Nat.pow_le_pow_right (by decide) (by omega))
        have h2 : (Z * ((2 ^ 1074 : Nat) : Int)).natAbs = Z.natAbs * 2 ^ 1074 := own_natAbs_pow _ _
        have h3 : 2 ^ 53 * 2 ^ 1074 ≤ Z.natAbs * 2 ^ 1074 := Nat.mul_le_mul_right _ (by omega)
        have h4 : (2 : Nat) ^ 1074 = 2 * 2 ^ 1073 := by rw [show (1074 : Nat) = 1 + 1073 from rfl, Nat.pow_add]
        have h5 : 0 < (2 : Nat) ^ 1073 := Nat.two_pow_pos _
        have h6 : (Z * ((2 ^ 1074 : Nat) : Int)).natAbs ≤ (own_R (Z * ((2 ^ 1074 : Nat) : Int))).natAbs + (Z * ((2 ^ 1074 : Nat) : Int) - own_R (Z * ((2 ^ 1074 : Nat) : Int))).natAbs := by omega
        rw [h4] at h3 hn2 h2
        generalize (2 : Nat) ^ 1073 = P at *
        omega
      · exact q
    refine ⟨n * ((2 ^ (u - 1074) : Nat) : Int), ?_, ?_, fun q => absurd q h53⟩
    · rw [e1, Int.mul_assoc, ← Int.natCast_mul, ← Nat.pow_add, show u - 1074 + 1074 = u by omega]
    · rw [e1, show u = (u - 1074) + 1074 by omega, Nat.pow_add, Int.natCast_mul, ← Int.mul_assoc, ← Int.sub_mul, own_natAbs_pow] at hn2
      exact Nat.le_of_mul_le_mul_right hn2 (Nat.two_pow_pos _)
theorem own_big {n : Int} {b : Nat} (h : n.natAbs ≤ 2 ^ b) (hb : b ≤ 1000) : (n * ((2 ^ 1074 : Nat) : Int)).natAbs < 2 ^ 2097 := by
  rw [own_natAbs_pow]
  calc n.natAbs * 2 ^ 1074 ≤ 2 ^ b * 2 ^ 1074 := Nat.mul_le_mul_right _ h
    _ = 2 ^ (b + 1074) := (Nat.pow_add 2 b 1074).symm
    _ < 2 ^ 2097 := Nat.pow_lt_pow_right (by decide) (by omega)
/-- the two-sum of integers, the greater ahead -/
theorem own_two {x y : UInt64} {X Y : Int} (hx : own_Rep x X 1074) (hy : own_Rep y Y 1074) (hX : X.natAbs ≤ 2 ^ 55) (hY : Y.natAbs ≤ 2 ^ 55) (hb : (X + Y).natAbs ≤ 2 ^ 55) (hs : (X + Y).natAbs < 2 ^ 53 ∨ Y.natAbs ≤ 2 ^ 26) :
    ∃ H : Int, own_Rep (dadd x y) H 1074 ∧ (∃ D : Int, own_Rep (dsub (dadd x y) x) D 1074) ∧ own_Rep (dsub y (dsub (dadd x y) x)) (X + Y - H) 1074 ∧ (X + Y - H).natAbs ≤ 2 ∧ ((X + Y).natAbs < 2 ^ 53 → H = X + Y) := by
  obtain ⟨H, e1, e2, e3⟩ := own_R_int hb
  have a : own_Rep (dadd x y) H 1074 := by
    have q := own_V_add (own_VR hx) (own_VR hy) (by rw [← Int.add_mul]; exact Nat.le_of_lt (own_big hb (by decide)))
    rw [← Int.add_mul, e1] at q
    exact q
  have b : own_Rep (dsub (dadd x y) x) (H - X) 1074 := by
    by_cases c : (X + Y).natAbs < 2 ^ 53
    · have q := own_V_sub (own_VR a) (own_VR hx) (by rw [← Int.sub_mul, e3 c, show X + Y - X = Y by omega]; exact Nat.le_of_lt (own_big hY (by decide)))
      rw [← Int.sub_mul, show H - X = Y by rw [e3 c]; omega, own_R_exact (own_V_F (own_VR hy)) (own_big hY (by decide))] at q
      rw [show H - X = Y by rw [e3 c]; omega]; exact q
    · exact own_sub a hx (by omega) (by decide)
  refine ⟨H, a, ⟨_, b⟩, ?_, e2, e3⟩
  have q := own_sub hy b (by omega) (by decide)
  rw [show X + Y - H = Y - (H - X) by omega]; exact q
/-- one turn of add's loop -/
def own_hi (x y : UInt64) : UInt64 := Jvm.FP.dadd x y
def own_lo (x y : UInt64) : UInt64 := Jvm.FP.dsub y (Jvm.FP.dsub (Jvm.FP.dadd x y) x)
def own_lt (x y : UInt64) : Prop := (cmpValue (Jvm.FP.dcmp (x &&& 0x7fffffffffffffff) (y &&& 0x7fffffffffffffff)) .g) < (0 : Int32)
instance (x y : UInt64) : Decidable (own_lt x y) := inferInstanceAs (Decidable (_ < _))
def own_nz (x : UInt64) : Prop := ¬ (cmpValue (Jvm.FP.dcmp x (0 : UInt64)) .l) = (0 : Int32)
instance (x : UInt64) : Decidable (own_nz x) := inferInstanceAs (Decidable (¬ _))
def own_fst (x y : UInt64) : UInt64 := if own_lt x y then y else x
def own_snd (x y : UInt64) : UInt64 := if own_lt x y then x else y
def own_ins : List UInt64 → UInt64 → List UInt64
  | [], x => [x]
  | q :: qs, x => (if own_nz (own_lo (own_fst x q) (own_snd x q)) then [own_lo (own_fst x q) (own_snd x q)] else []) ++ own_ins qs (own_hi (own_fst x q) (own_snd x q))
def own_NN : List UInt64 → UInt64 → Prop
  | [], _ => True
  | q :: qs, x => (Jvm.Free.Fl.NoNaN64 x ∧ Jvm.Free.Fl.NoNaN64 q) ∧ Jvm.Free.Fl.NoNaN64 (Jvm.FP.dadd (own_fst x q) (own_snd x q)) ∧ Jvm.Free.Fl.NoNaN64 (Jvm.FP.dsub (Jvm.FP.dadd (own_fst x q) (own_snd x q)) (own_fst x q)) ∧ Jvm.Free.Fl.NoNaN64 (own_lo (own_fst x q) (own_snd x q)) ∧ own_NN qs (own_hi (own_fst x q) (own_snd x q))
theorem own_lt_iff {x y : UInt64} {X Y : Int} (hx : own_Rep x X 1074) (hy : own_Rep y Y 1074) : own_lt x y ↔ X.natAbs < Y.natAbs := by
  have c := own_cmp (own_abs hx) (own_abs hy)
  unfold own_lt
  rw [show Jvm.FP.dcmp (x &&& 0x7fffffffffffffff) (y &&& 0x7fffffffffffffff) = some (compare (X.natAbs : Int) (Y.natAbs : Int)) from c]
  rcases Int.lt_trichotomy (X.natAbs : Int) (Y.natAbs : Int) with h | h | h
  · rw [(compare_lt_iff _ _).mpr h]; exact ⟨fun _ => by omega, fun _ => by decide⟩
  · rw [(compare_eq_iff _ _).mpr h]; exact ⟨fun q => absurd q (by decide), fun q => by omega⟩
  · rw [(compare_gt_iff _ _).mpr h]; exact ⟨fun q => absurd q (by decide), fun q => by omega⟩
theorem own_nz_iff {x : UInt64} {X : Int} (hx : own_Rep x X 1074) : own_nz x ↔ X ≠ 0 := by
  have c := own_cmp hx (own_zeroJ 1074)
  unfold own_nz
  rw [show Jvm.FP.dcmp x (0 : UInt64) = some (compare X 0) from c]
  rcases Int.lt_trichotomy X 0 with h | h | h
  · rw [(compare_lt_iff _ _).mpr h]; exact ⟨fun _ => by omega, fun _ => by decide⟩
  · rw [(compare_eq_iff _ _).mpr h]; exact ⟨fun q => absurd rfl q, fun q => absurd h q⟩
  · rw [(compare_gt_iff _ _).mpr h]; exact ⟨fun _ => by omega, fun _ => by decide⟩
/-- one turn, of integers -/
theorem own_turn {x y : UInt64} {X Y : Int} (hx : own_Rep x X 1074) (hy : own_Rep y Y 1074) (hX : X.natAbs ≤ 2 ^ 55) (hY : Y.natAbs ≤ 2 ^ 55) (hb : (X + Y).natAbs ≤ 2 ^ 55) (hs : (X + Y).natAbs < 2 ^ 53 ∨ X.natAbs ≤ 2 ^ 26 ∨ Y.natAbs ≤ 2 ^ 26) :
    ∃ H : Int, own_Rep (own_hi (own_fst x y) (own_snd x y)) H 1074 ∧ own_Rep (own_lo (own_fst x y) (own_snd x y)) (X + Y - H) 1074 ∧ (X + Y - H).natAbs ≤ 2 ∧ ((X + Y).natAbs < 2 ^ 53 → H = X + Y) ∧
      ∀ qs, own_NN qs (own_hi (own_fst x y) (own_snd x y)) → own_NN (y :: qs) x := by
  by_cases c : own_lt x y
  · have c' := (own_lt_iff hx hy).mp c
    have e1 : own_fst x y = y := if_pos c
    have e2 : own_snd x y = x := if_pos c
    obtain ⟨H, a1, ⟨D, a2⟩, a3, a4, a5⟩ := own_two hy hx hY hX (by rw [Int.add_comm]; exact hb) (by rw [Int.add_comm]; omega)
    rw [Int.add_comm] at a3 a4 a5
    refine ⟨H, by rw [e1, e2]; exact a1, by rw [e1, e2]; exact a3, a4, a5, fun qs hq => ?_⟩
    rw [e1, e2] at hq
    show (_ ∧ _) ∧ _
    rw [e1, e2]
    exact ⟨⟨own_noNaN hx, own_noNaN hy⟩, own_noNaN a1, own_noNaN a2, own_noNaN a3, hq⟩
  · have c' : ¬ X.natAbs < Y.natAbs := fun q => c ((own_lt_iff hx hy).mpr q)
    have e1 : own_fst x y = x := if_neg c
    have e2 : own_snd x y = y := if_neg c
    obtain ⟨H, a1, ⟨D, a2⟩, a3, a4, a5⟩ := own_two hx hy hX hY hb (by omega)
    refine ⟨H, by rw [e1, e2]; exact a1, by rw [e1, e2]; exact a3, a4, a5, fun qs hq => ?_⟩
    rw [e1, e2] at hq
    show (_ ∧ _) ∧ _
    rw [e1, e2]
    exact ⟨⟨own_noNaN hx, own_noNaN hy⟩, own_noNaN a1, own_noNaN a2, own_noNaN a3, hq⟩
theorem own_or3 {a b c d : Prop} (h : a ∨ b ∨ c) (h1 : a → d) (h2 : b → d) (h3 : c → d) : d := by rcases h with q | q | q; exact h1 q; exact h2 q; exact h3 q
/-- the partials: one, or a small one and one -/
def own_P (L : List UInt64) (S : Int) : Prop := (∃ h, L = [h] ∧ own_Rep h S 1074) ∨ ∃ l h A B, L = [l, h] ∧ own_Rep l A 1074 ∧ own_Rep h B 1074 ∧ A + B = S ∧ A.natAbs ≤ 2
set_option maxHeartbeats 4000000 in
theorem own_P_add {L : List UInt64} {S X : Int} {x : UInt64} (hP : own_P L S) (hx : own_Rep x X 1074) (hX : X.natAbs ≤ 2 ^ 54) (hS : S.natAbs + 4 ≤ 2 ^ 55) (hSX : (S + X).natAbs + 4 ≤ 2 ^ 55) (hs : X.natAbs ≤ 2 ^ 25 ∨ (S + X).natAbs + 4 < 2 ^ 53 ∨ (S.natAbs ≤ 2 ^ 25 ∧ L.length = 1)) :
    own_NN L x ∧ own_P (own_ins L x) (S + X) ∧ (S.natAbs + 4 ≤ 2 ^ 26 → X.natAbs ≤ 2 ^ 26 → ∃ v, own_ins L x = [v] ∧ own_Rep v (S + X) 1074) := by
  rcases hP with ⟨h, rfl, hh⟩ | ⟨l, h, A, B, rfl, hl, hh, rfl, hA⟩
  · obtain ⟨H, a1, a2, a3, a4, a5⟩ := own_turn (X := X) (Y := S) hx hh (by omega) (by omega) (by omega) (by rcases hs with q | q | q <;> omega)
    refine ⟨a5 [] trivial, ?_, fun s1 s2 => ?_⟩
    · show own_P ((if own_nz _ then [_] else []) ++ [_]) _
      by_cases c : own_nz (own_lo (own_fst x h) (own_snd x h))
      · rw [if_pos c]
        exact Or.inr ⟨_, _, _, _, rfl, a2, a1, by omega, a3⟩
      · rw [if_neg c]
        have z : X + S - H = 0 := Decidable.byContradiction fun q => c ((own_nz_iff a2).mpr q)
        exact Or.inl ⟨_, rfl, by rw [show S + X = H by omega]; exact a1⟩
    · have z := a4 (by omega)
      refine ⟨own_hi (own_fst x h) (own_snd x h), ?_, by rw [show S + X = H by omega]; exact a1⟩
      show (if own_nz _ then [_] else []) ++ [_] = _
      rw [if_neg (fun q => (own_nz_iff a2).mp q (by omega))]; rfl
  · obtain ⟨H, a1, a2, a3, a4, a5⟩ := own_turn (X := X) (Y := A) hx hl (by omega) (by omega) (by omega) (by omega)
    obtain ⟨K, b1, b2, b3, b4, b5⟩ := own_turn (X := H) (Y := B) a1 hh (by omega) (by omega) (by omega) (own_or3 hs (fun q => by have := a4 (by omega); omega) (fun q => by omega) (fun q => absurd q.2 (by simp)))
    refine ⟨a5 _ (b5 [] trivial), ?_, fun s1 s2 => ?_⟩
    · show own_P ((if own_nz _ then [_] else []) ++ ((if own_nz _ then [_] else []) ++ [_])) _
      by_cases c : own_nz (own_lo (own_fst x l) (own_snd x l))
      · rw [if_pos c]
        have c1 := (own_nz_iff a2).mp c
        have c2 : ¬ X.natAbs ≤ 2 ^ 25 := fun q => c1 (by have := a4 (by omega); omega)
        have z : K = H + B := b4 (own_or3 hs (fun q => absurd q c2) (fun q => by omega) (fun q => absurd q.2 (by simp)))
        rw [if_neg (fun q => (own_nz_iff b2).mp q (by omega))]
        exact Or.inr ⟨_, _, _, _, rfl, a2, b1, by omega, a3⟩
      · rw [if_neg c]
        have z : X + A - H = 0 := Decidable.byContradiction fun q => c ((own_nz_iff a2).mpr q)
        by_cases c3 : own_nz (own_lo (own_fst (own_hi (own_fst x l) (own_snd x l)) h) (own_snd (own_hi (own_fst x l) (own_snd x l)) h))
        · rw [if_pos c3]
          exact Or.inr ⟨_, _, _, _, rfl, b2, b1, by omega, b3⟩
        · rw [if_neg c3]
          have z2 : H + B - K = 0 := Decidable.byContradiction fun q => c3 ((own_nz_iff b2).mpr q)
          exact Or.inl ⟨_, rfl, by rw [show A + B + X = K by omega]; exact b1⟩
    · have z := a4 (by omega)
      have z2 := b4 (by omega)
      refine ⟨own_hi (own_fst (own_hi (own_fst x l) (own_snd x l)) h) (own_snd (own_hi (own_fst x l) (own_snd x l)) h), ?_, by rw [show A + B + X = K by omega]; exact b1⟩
      show (if own_nz _ then [_] else []) ++ ((if own_nz _ then [_] else []) ++ [_]) = _
      rw [if_neg (fun q => (own_nz_iff a2).mp q (by omega)), if_neg (fun q => (own_nz_iff b2).mp q (by omega))]; rfl
end OwnExact
theorem own_nn {q x : UInt64} {qs : List UInt64} (h : own_NN (q :: qs) x) : (Jvm.Free.Fl.NoNaN64 x ∧ Jvm.Free.Fl.NoNaN64 q) ∧ Jvm.Free.Fl.NoNaN64 (Jvm.FP.dadd (own_fst x q) (own_snd x q)) ∧ Jvm.Free.Fl.NoNaN64 (Jvm.FP.dsub (Jvm.FP.dadd (own_fst x q) (own_snd x q)) (own_fst x q)) ∧ Jvm.Free.Fl.NoNaN64 (own_lo (own_fst x q) (own_snd x q)) ∧ own_NN qs (own_hi (own_fst x q) (own_snd x q)) := h
theorem own_nn' {q x hi : UInt64} {qs : List UInt64} (hhi : hi = Jvm.FP.dadd (own_fst x q) (own_snd x q)) (h : own_NN (q :: qs) x) : own_NN qs hi := by rw [hhi]; exact h.2.2.2.2
theorem own_ins_c {q x lo hi : UInt64} {qs : List UInt64} (hlo : lo = own_lo (own_fst x q) (own_snd x q)) (hhi : hi = Jvm.FP.dadd (own_fst x q) (own_snd x q)) (hc : ¬ (Jvm.Op.cmpValue (Jvm.FP.dcmp lo (0 : UInt64)) .l) = (0 : Int32)) : own_ins (q :: qs) x = lo :: own_ins qs hi := by
  subst hlo hhi
  show (if own_nz _ then [_] else []) ++ own_ins qs _ = _
  rw [if_pos (show own_nz _ from hc)]; rfl
theorem own_ins_d {q x lo hi : UInt64} {qs : List UInt64} (hlo : lo = own_lo (own_fst x q) (own_snd x q)) (hhi : hi = Jvm.FP.dadd (own_fst x q) (own_snd x q)) (hc : (Jvm.Op.cmpValue (Jvm.FP.dcmp lo (0 : UInt64)) .l) = (0 : Int32)) : own_ins (q :: qs) x = own_ins qs hi := by
  subst hlo hhi
  show (if own_nz _ then [_] else []) ++ own_ins qs _ = _
  rw [if_neg (show ¬ own_nz _ from fun q => q hc)]; rfl
def own_Res (L : List UInt64) (k : Int32) (rs : List UInt64) : Prop := k.toInt = L.length ∧ rs.take L.length = L
theorem own_res {L M rs : List UInt64} {k : Int32} (e : L = M) (h1 : k.toInt = M.length) (h2 : rs.take M.length = M) : own_Res L k rs := by subst e; exact ⟨h1, h2⟩
theorem own_qs {L rs : List UInt64} {k : Int32} (h : own_Res L k rs) (n : Nat) (hn : k.toInt = n) : L = rs.take n := by
  have e : L.length = n := by have := h.1; omega
  rw [← e]; exact h.2.symm
theorem own_k4 {L rs : List UInt64} {k : Int32} (h : own_Res L k rs) (hl : L.length ≤ 3) : k = 0 ∨ k = 1 ∨ k = 2 ∨ k = 3 := by
  have e := h.1
  have : k.toInt = 0 ∨ k.toInt = 1 ∨ k.toInt = 2 ∨ k.toInt = 3 := by omega
  rcases this with q | q | q | q
  · exact Or.inl (Int32.toInt_inj.mp (by rw [q]; decide))
  · exact Or.inr (Or.inl (Int32.toInt_inj.mp (by rw [q]; decide)))
  · exact Or.inr (Or.inr (Or.inl (Int32.toInt_inj.mp (by rw [q]; decide))))
  · exact Or.inr (Or.inr (Or.inr (Int32.toInt_inj.mp (by rw [q]; decide))))
section OwnM3
open Jvm.FP.Core Jvm.Op
theorem own_shr8 {p : Int32} {la : Int64} (h : la = ((p >>> ((8 : Int32) &&& 31)).toInt64)) : -8388608 ≤ la.toInt ∧ la.toInt < 8388608 ∧ own_Rep (Jvm.FP.l2d la) la.toInt 1074 := by
  have a := Jvm.RoadKit.c_ishr p 8 8 (by decide)
  have b := Jvm.RoadKit.rng32 p
  have c : la.toInt = p.toInt / 256 := by rw [h, Int32.toInt_toInt64, a]; rfl
  have d : -8388608 ≤ la.toInt ∧ la.toInt < 8388608 := by omega
  exact ⟨d.1, d.2, own_l2d (by omega) (by omega)⟩
theorem own_c54 : own_Rep 4850376798678024192 18014398509481984 1074 := by
  have h : own_Rep 4850376798678024192 1 (1074 + 54) := ⟨⟨false, 2 ^ 52, 2, by decide +kernel⟩, by decide +kernel⟩
  have := own_shift h (i := 54) (k := 1074) (by decide)
  simpa using this
theorem own_bg0 {c : Prop} {b : UInt64} (h : (c ∧ b = (0 : UInt64)) ∨ (¬ c ∧ b = (4850376798678024192 : UInt64))) : ∃ B : Int, (B = 0 ∨ B = 18014398509481984) ∧ own_Rep b B 1074 := by
  rcases h with ⟨-, rfl⟩ | ⟨-, rfl⟩
  · exact ⟨0, Or.inl rfl, own_zeroJ 1074⟩
  · exact ⟨_, Or.inr rfl, own_c54⟩
theorem own_neg54 {b : UInt64} {B : Int} (h : own_Rep b B 1074) (hB : B = 0 ∨ B = 18014398509481984 ∨ B = -18014398509481984) : own_Rep (Jvm.FP.dsub (0 : UInt64) b) (-B) 1074 := by
  have hb : B.natAbs ≤ 2 ^ 54 := by rcases hB with q | q | q <;> rw [q] <;> decide
  have e : own_F (-(B * ((2 ^ 1074 : Nat) : Int))) := own_F_neg (own_V_F (own_VR h))
  have q := own_V_sub (own_VR (own_zeroJ 1074)) (own_VR h) (by rw [← Int.sub_mul, Int.zero_sub]; exact Nat.le_of_lt (own_big (b := 54) (by rw [Int.natAbs_neg]; exact hb) (by decide)))
  rw [← Int.sub_mul, Int.zero_sub, own_R_exact (by rw [Int.neg_mul]; exact e) (own_big (b := 54) (by rw [Int.natAbs_neg]; exact hb) (by decide))] at q
  exact q
theorem own_len {L : List UInt64} {S : Int} (h : own_P L S) : L.length ≤ 3 := by
  rcases h with ⟨_, rfl, -⟩ | ⟨_, _, _, _, rfl, -⟩ <;> simp
theorem own_res1 {L : List UInt64} {v r0 r1 r2 r3 : UInt64} {k : Int32} (h : own_Res L k [r0, r1, r2, r3]) (e : L = [v]) : k = 1 ∧ r0 = v := by
  subst e
  refine ⟨Int32.toInt_inj.mp (by rw [h.1]; show ((1 : Nat) : Int) = Int32.toInt 1; decide), ?_⟩
  have := h.2
  simpa using this
theorem own_res0 : own_Res [] 0 [0, 0, 0, 0] := ⟨by decide, rfl⟩
set_option maxHeartbeats 4000000 in
theorem own_m3 {la lb lx : Int64} {bg nb : UInt64} {B : Int} (ha : -8388608 ≤ la.toInt ∧ la.toInt < 8388608 ∧ own_Rep (Jvm.FP.l2d la) la.toInt 1074) (hb : -8388608 ≤ lb.toInt ∧ lb.toInt < 8388608 ∧ own_Rep (Jvm.FP.l2d lb) lb.toInt 1074) (hx : -8388608 ≤ lx.toInt ∧ lx.toInt < 8388608 ∧ own_Rep (Jvm.FP.l2d lx) lx.toInt 1074)
    (hB : B = 0 ∨ B = 18014398509481984 ∨ B = -18014398509481984) (hbg : own_Rep bg B 1074) (hnb : own_Rep nb (-B) 1074) :
    own_NN [] (Jvm.FP.l2d la) ∧ (own_ins [] (Jvm.FP.l2d la)).length ≤ 3 ∧ own_NN (own_ins [] (Jvm.FP.l2d la)) bg ∧ (own_ins (own_ins [] (Jvm.FP.l2d la)) bg).length ≤ 3 ∧ own_NN (own_ins (own_ins [] (Jvm.FP.l2d la)) bg) (Jvm.FP.l2d lb) ∧ (own_ins (own_ins (own_ins [] (Jvm.FP.l2d la)) bg) (Jvm.FP.l2d lb)).length ≤ 3 ∧
      own_NN (own_ins (own_ins (own_ins [] (Jvm.FP.l2d la)) bg) (Jvm.FP.l2d lb)) nb ∧ (own_ins (own_ins (own_ins (own_ins [] (Jvm.FP.l2d la)) bg) (Jvm.FP.l2d lb)) nb).length ≤ 3 ∧ own_NN (own_ins (own_ins (own_ins (own_ins [] (Jvm.FP.l2d la)) bg) (Jvm.FP.l2d lb)) nb) (Jvm.FP.l2d lx) ∧
      ∃ v, own_ins (own_ins (own_ins (own_ins (own_ins [] (Jvm.FP.l2d la)) bg) (Jvm.FP.l2d lb)) nb) (Jvm.FP.l2d lx) = [v] ∧ (cmpValue (Jvm.FP.dcmp v (Jvm.FP.l2d ((la + lb) + lx))) .l) = (0 : Int32) := by
  obtain ⟨a1, a2, ra⟩ := ha
  obtain ⟨b1, b2, rb⟩ := hb
  obtain ⟨x1, x2, rx⟩ := hx
  have hBn : B.natAbs ≤ 18014398509481984 := by omega
  have P1 : own_P (own_ins [] (Jvm.FP.l2d la)) la.toInt := Or.inl ⟨_, rfl, ra⟩
  obtain ⟨n2, P2, -⟩ := own_P_add P1 hbg (by omega) (by omega) (by omega) (Or.inr (Or.inr ⟨by omega, rfl⟩))
  obtain ⟨n3, P3, -⟩ := own_P_add P2 rb (by omega) (by omega) (by omega) (Or.inl (by omega))
  obtain ⟨n4, P4, -⟩ := own_P_add P3 hnb (by omega) (by omega) (by omega) (Or.inr (Or.inl (by omega)))
  obtain ⟨n5, -, h5⟩ := own_P_add P4 rx (by omega) (by omega) (by omega) (Or.inl (by omega))
  obtain ⟨v, e, rv⟩ := h5 (by omega) (by omega)
  refine ⟨trivial, own_len P1, n2, own_len P2, n3, own_len P3, n4, own_len P4, n5, v, e, ?_⟩
  have e1 := Jvm.RoadKit.c_ladd la lb
  have e2 := Jvm.RoadKit.rng64 (la + lb)
  have e3 : (la + lb).toInt = la.toInt + lb.toInt := by omega
  have e4 := Jvm.RoadKit.c_ladd (la + lb) lx
  have e5 := Jvm.RoadKit.rng64 (la + lb + lx)
  have e6 : (la + lb + lx).toInt = la.toInt + B + lb.toInt + -B + lx.toInt := by omega
  exact own_cmp_eq rv (e6 ▸ own_l2d (by omega) (by omega))
end OwnM3
end Jvm.Pilot.@@N@@
namespace Jvm.Pilot.@@N@@
open Jvm Jvm.ClassFile Sem Op Lib Jvm.Free Jvm.Stand Jvm.LawKit Jvm.RoadKit Bundle Jvm.Pilot.@@N@@.Jvm.D
theorem d_prog_8_1_0 : decode prog_8_method_1_code 0 = .ok (.aload_n 0, 1) := by decide +kernel
theorem d_prog_8_1_1 : decode prog_8_method_1_code 1 = .ok (.invokespecial 1, 3) := by decide +kernel
theorem d_prog_8_1_4 : decode prog_8_method_1_code 4 = .ok (.aload_n 0, 1) := by decide +kernel
theorem d_prog_8_1_5 : decode prog_8_method_1_code 5 = .ok (.iconst 4, 1) := by decide +kernel
theorem d_prog_8_1_6 : decode prog_8_method_1_code 6 = .ok (.newarray .double, 2) := by decide +kernel
theorem d_prog_8_1_8 : decode prog_8_method_1_code 8 = .ok (.putfield 7, 3) := by decide +kernel
theorem d_prog_8_1_11 : decode prog_8_method_1_code 11 = .ok (.return_, 1) := by decide +kernel
theorem pn_0 : plainName "com/example/prose_to_query/prosetoquery/retrieval/ExactSum" = true := by first | (simp [plainName, overriddenIn]; done) | decide +kernel
theorem d_prog_8_2_0 : decode prog_8_method_2_code 0 = .ok (.dload_n 1, 1) := by decide +kernel
theorem d_prog_8_2_1 : decode prog_8_method_2_code 1 = .ok (.dstore_n 3, 1) := by decide +kernel
theorem d_prog_8_2_2 : decode prog_8_method_2_code 2 = .ok (.iconst 0, 1) := by decide +kernel
theorem d_prog_8_2_3 : decode prog_8_method_2_code 3 = .ok (.istore 5, 2) := by decide +kernel
theorem d_prog_8_2_5 : decode prog_8_method_2_code 5 = .ok (.iconst 0, 1) := by decide +kernel
theorem d_prog_8_2_6 : decode prog_8_method_2_code 6 = .ok (.istore 6, 2) := by decide +kernel
theorem d_prog_8_2_8 : decode prog_8_method_2_code 8 = .ok (.iload 6, 2) := by decide +kernel
theorem d_prog_8_2_10 : decode prog_8_method_2_code 10 = .ok (.aload_n 0, 1) := by decide +kernel
theorem d_prog_8_2_11 : decode prog_8_method_2_code 11 = .ok (.getfield 13, 3) := by decide +kernel
theorem d_prog_8_2_14 : decode prog_8_method_2_code 14 = .ok (.if_icmp .ge 78, 3) := by decide +kernel
theorem d_prog_8_2_92 : decode prog_8_method_2_code 92 = .ok (.iload 5, 2) := by decide +kernel
theorem d_prog_8_2_94 : decode prog_8_method_2_code 94 = .ok (.aload_n 0, 1) := by decide +kernel
theorem d_prog_8_2_95 : decode prog_8_method_2_code 95 = .ok (.getfield 7, 3) := by decide +kernel
theorem d_prog_8_2_98 : decode prog_8_method_2_code 98 = .ok (.arraylength, 1) := by decide +kernel
theorem d_prog_8_2_99 : decode prog_8_method_2_code 99 = .ok (.if_icmp .ne 18, 3) := by decide +kernel
theorem d_prog_8_2_117 : decode prog_8_method_2_code 117 = .ok (.aload_n 0, 1) := by decide +kernel
theorem d_prog_8_2_118 : decode prog_8_method_2_code 118 = .ok (.getfield 7, 3) := by decide +kernel
theorem d_prog_8_2_121 : decode prog_8_method_2_code 121 = .ok (.iload 5, 2) := by decide +kernel
theorem d_prog_8_2_123 : decode prog_8_method_2_code 123 = .ok (.iinc 5 1, 3) := by decide +kernel
theorem d_prog_8_2_126 : decode prog_8_method_2_code 126 = .ok (.dload_n 3, 1) := by decide +kernel
theorem d_prog_8_2_127 : decode prog_8_method_2_code 127 = .ok (.dastore, 1) := by decide +kernel
theorem d_prog_8_2_128 : decode prog_8_method_2_code 128 = .ok (.aload_n 0, 1) := by decide +kernel
theorem d_prog_8_2_129 : decode prog_8_method_2_code 129 = .ok (.iload 5, 2) := by decide +kernel
theorem d_prog_8_2_131 : decode prog_8_method_2_code 131 = .ok (.putfield 13, 3) := by decide +kernel
theorem d_prog_8_2_134 : decode prog_8_method_2_code 134 = .ok (.return_, 1) := by decide +kernel
theorem d_prog_8_2_17 : decode prog_8_method_2_code 17 = .ok (.aload_n 0, 1) := by decide +kernel
theorem d_prog_8_2_18 : decode prog_8_method_2_code 18 = .ok (.getfield 7, 3) := by decide +kernel
theorem d_prog_8_2_21 : decode prog_8_method_2_code 21 = .ok (.iload 6, 2) := by decide +kernel
theorem d_prog_8_2_23 : decode prog_8_method_2_code 23 = .ok (.daload, 1) := by decide +kernel
theorem d_prog_8_2_24 : decode prog_8_method_2_code 24 = .ok (.dstore 7, 2) := by decide +kernel
theorem d_prog_8_2_26 : decode prog_8_method_2_code 26 = .ok (.dload_n 3, 1) := by decide +kernel
theorem d_prog_8_2_27 : decode prog_8_method_2_code 27 = .ok (.invokestatic 17, 3) := by decide +kernel
theorem pd_0 : parseMethodDescriptor "(D)D" = some ⟨[.double], some .double⟩ := by decide +kernel
theorem d_prog_8_2_30 : decode prog_8_method_2_code 30 = .ok (.dload 7, 2) := by decide +kernel
theorem d_prog_8_2_32 : decode prog_8_method_2_code 32 = .ok (.invokestatic 17, 3) := by decide +kernel
theorem d_prog_8_2_35 : decode prog_8_method_2_code 35 = .ok (.dcmp .g, 1) := by decide +kernel
theorem d_prog_8_2_36 : decode prog_8_method_2_code 36 = .ok (.ifCond .ge 13, 3) := by decide +kernel
theorem d_prog_8_2_39 : decode prog_8_method_2_code 39 = .ok (.dload 7, 2) := by decide +kernel
theorem d_prog_8_2_41 : decode prog_8_method_2_code 41 = .ok (.dstore 9, 2) := by decide +kernel
theorem d_prog_8_2_43 : decode prog_8_method_2_code 43 = .ok (.dload_n 3, 1) := by decide +kernel
theorem d_prog_8_2_44 : decode prog_8_method_2_code 44 = .ok (.dstore 7, 2) := by decide +kernel
theorem d_prog_8_2_46 : decode prog_8_method_2_code 46 = .ok (.dload 9, 2) := by decide +kernel
theorem d_prog_8_2_48 : decode prog_8_method_2_code 48 = .ok (.dstore_n 3, 1) := by decide +kernel
theorem d_prog_8_2_49 : decode prog_8_method_2_code 49 = .ok (.dload_n 3, 1) := by decide +kernel
theorem d_prog_8_2_50 : decode prog_8_method_2_code 50 = .ok (.dload 7, 2) := by decide +kernel
theorem d_prog_8_2_52 : decode prog_8_method_2_code 52 = .ok (.dadd, 1) := by decide +kernel
theorem d_prog_8_2_53 : decode prog_8_method_2_code 53 = .ok (.dstore 9, 2) := by decide +kernel
theorem d_prog_8_2_55 : decode prog_8_method_2_code 55 = .ok (.dload 7, 2) := by decide +kernel
theorem d_prog_8_2_57 : decode prog_8_method_2_code 57 = .ok (.dload 9, 2) := by decide +kernel
theorem d_prog_8_2_59 : decode prog_8_method_2_code 59 = .ok (.dload_n 3, 1) := by decide +kernel
theorem d_prog_8_2_60 : decode prog_8_method_2_code 60 = .ok (.dsub, 1) := by decide +kernel
theorem d_prog_8_2_61 : decode prog_8_method_2_code 61 = .ok (.dsub, 1) := by decide +kernel
theorem d_prog_8_2_62 : decode prog_8_method_2_code 62 = .ok (.dstore 11, 2) := by decide +kernel
theorem d_prog_8_2_64 : decode prog_8_method_2_code 64 = .ok (.dload 11, 2) := by decide +kernel
theorem d_prog_8_2_66 : decode prog_8_method_2_code 66 = .ok (.dconst 0, 1) := by decide +kernel
theorem d_prog_8_2_67 : decode prog_8_method_2_code 67 = .ok (.dcmp .l, 1) := by decide +kernel
theorem d_prog_8_2_68 : decode prog_8_method_2_code 68 = .ok (.ifCond .eq 15, 3) := by decide +kernel
theorem d_prog_8_2_83 : decode prog_8_method_2_code 83 = .ok (.dload 9, 2) := by decide +kernel
theorem d_prog_8_2_85 : decode prog_8_method_2_code 85 = .ok (.dstore_n 3, 1) := by decide +kernel
theorem d_prog_8_2_86 : decode prog_8_method_2_code 86 = .ok (.iinc 6 1, 3) := by decide +kernel
theorem d_prog_8_2_89 : decode prog_8_method_2_code 89 = .ok (.goto (-81), 3) := by decide +kernel
theorem d_prog_8_2_71 : decode prog_8_method_2_code 71 = .ok (.aload_n 0, 1) := by decide +kernel
theorem d_prog_8_2_72 : decode prog_8_method_2_code 72 = .ok (.getfield 7, 3) := by decide +kernel
theorem d_prog_8_2_75 : decode prog_8_method_2_code 75 = .ok (.iload 5, 2) := by decide +kernel
theorem d_prog_8_2_77 : decode prog_8_method_2_code 77 = .ok (.iinc 5 1, 3) := by decide +kernel
theorem d_prog_8_2_80 : decode prog_8_method_2_code 80 = .ok (.dload 11, 2) := by decide +kernel
theorem d_prog_8_2_82 : decode prog_8_method_2_code 82 = .ok (.dastore, 1) := by decide +kernel
theorem d_jdk_65_127_0 : decode jdk_65_method_127_code 0 = .ok (.iload_n 1, 1) := by decide +kernel
theorem d_jdk_65_127_1 : decode jdk_65_method_127_code 1 = .ok (.aload_n 0, 1) := by decide +kernel
theorem d_jdk_65_127_2 : decode jdk_65_method_127_code 2 = .ok (.arraylength, 1) := by decide +kernel
theorem d_jdk_65_127_3 : decode jdk_65_method_127_code 3 = .ok (.if_icmp .ne 11, 3) := by decide +kernel
theorem d_jdk_65_127_6 : decode jdk_65_method_127_code 6 = .ok (.aload_n 0, 1) := by decide +kernel
theorem d_jdk_65_127_7 : decode jdk_65_method_127_code 7 = .ok (.invokevirtual 328, 3) := by decide +kernel
theorem d_jdk_65_127_10 : decode jdk_65_method_127_code 10 = .ok (.checkcast 329, 3) := by decide +kernel
theorem d_jdk_65_127_13 : decode jdk_65_method_127_code 13 = .ok (.areturn, 1) := by decide +kernel
theorem pn_1 : plainName "java/util/Arrays" = true := by first | (simp [plainName, overriddenIn]; done) | decide +kernel
theorem d_prog_8_5_0 : decode prog_8_method_5_code 0 = .ok (.new 8, 3) := by decide +kernel
theorem d_prog_8_5_3 : decode prog_8_method_5_code 3 = .ok (.dup, 1) := by decide +kernel
theorem d_prog_8_5_4 : decode prog_8_method_5_code 4 = .ok (.invokespecial 39, 3) := by decide +kernel
theorem pd_1 : parseMethodDescriptor "()V" = some ⟨[], none⟩ := by decide +kernel
theorem d_prog_8_5_7 : decode prog_8_method_5_code 7 = .ok (.astore_n 1, 1) := by decide +kernel
theorem d_prog_8_5_8 : decode prog_8_method_5_code 8 = .ok (.aload_n 1, 1) := by decide +kernel
theorem d_prog_8_5_9 : decode prog_8_method_5_code 9 = .ok (.aload_n 0, 1) := by decide +kernel
theorem d_prog_8_5_10 : decode prog_8_method_5_code 10 = .ok (.getfield 7, 3) := by decide +kernel
theorem d_prog_8_5_13 : decode prog_8_method_5_code 13 = .ok (.aload_n 0, 1) := by decide +kernel
theorem d_prog_8_5_14 : decode prog_8_method_5_code 14 = .ok (.getfield 7, 3) := by decide +kernel
theorem d_prog_8_5_17 : decode prog_8_method_5_code 17 = .ok (.arraylength, 1) := by decide +kernel
theorem d_prog_8_5_18 : decode prog_8_method_5_code 18 = .ok (.invokestatic 23, 3) := by decide +kernel
theorem pd_2 : parseMethodDescriptor "([DI)[D" = some ⟨[(.array .double), .int], some (.array .double)⟩ := by decide +kernel
theorem d_prog_8_5_21 : decode prog_8_method_5_code 21 = .ok (.putfield 7, 3) := by decide +kernel
theorem d_prog_8_5_24 : decode prog_8_method_5_code 24 = .ok (.aload_n 1, 1) := by decide +kernel
theorem d_prog_8_5_25 : decode prog_8_method_5_code 25 = .ok (.aload_n 0, 1) := by decide +kernel
theorem d_prog_8_5_26 : decode prog_8_method_5_code 26 = .ok (.getfield 13, 3) := by decide +kernel
theorem d_prog_8_5_29 : decode prog_8_method_5_code 29 = .ok (.putfield 13, 3) := by decide +kernel
theorem d_prog_8_5_32 : decode prog_8_method_5_code 32 = .ok (.aload_n 1, 1) := by decide +kernel
theorem d_prog_8_5_33 : decode prog_8_method_5_code 33 = .ok (.areturn, 1) := by decide +kernel
theorem d_prog_8_4_0 : decode prog_8_method_4_code 0 = .ok (.aload_n 0, 1) := by decide +kernel
theorem d_prog_8_4_1 : decode prog_8_method_4_code 1 = .ok (.getfield 13, 3) := by decide +kernel
theorem d_prog_8_4_4 : decode prog_8_method_4_code 4 = .ok (.ifCond .ne 5, 3) := by decide +kernel
theorem d_prog_8_4_9 : decode prog_8_method_4_code 9 = .ok (.aload_n 0, 1) := by decide +kernel
theorem d_prog_8_4_10 : decode prog_8_method_4_code 10 = .ok (.getfield 13, 3) := by decide +kernel
theorem d_prog_8_4_13 : decode prog_8_method_4_code 13 = .ok (.iconst 1, 1) := by decide +kernel
theorem d_prog_8_4_14 : decode prog_8_method_4_code 14 = .ok (.isub, 1) := by decide +kernel
theorem d_prog_8_4_15 : decode prog_8_method_4_code 15 = .ok (.istore_n 1, 1) := by decide +kernel
theorem d_prog_8_4_16 : decode prog_8_method_4_code 16 = .ok (.aload_n 0, 1) := by decide +kernel
theorem d_prog_8_4_17 : decode prog_8_method_4_code 17 = .ok (.getfield 7, 3) := by decide +kernel
theorem d_prog_8_4_20 : decode prog_8_method_4_code 20 = .ok (.iload_n 1, 1) := by decide +kernel
theorem d_prog_8_4_21 : decode prog_8_method_4_code 21 = .ok (.daload, 1) := by decide +kernel
theorem d_prog_8_4_22 : decode prog_8_method_4_code 22 = .ok (.dstore_n 2, 1) := by decide +kernel
theorem d_prog_8_4_23 : decode prog_8_method_4_code 23 = .ok (.dconst 0, 1) := by decide +kernel
theorem d_prog_8_4_24 : decode prog_8_method_4_code 24 = .ok (.dstore 4, 2) := by decide +kernel
theorem d_prog_8_4_26 : decode prog_8_method_4_code 26 = .ok (.iload_n 1, 1) := by decide +kernel
theorem d_prog_8_4_27 : decode prog_8_method_4_code 27 = .ok (.ifCond .le 45, 3) := by decide +kernel
theorem d_prog_8_4_72 : decode prog_8_method_4_code 72 = .ok (.iload_n 1, 1) := by decide +kernel
theorem d_prog_8_4_73 : decode prog_8_method_4_code 73 = .ok (.ifCond .le 70, 3) := by decide +kernel
theorem d_prog_8_4_143 : decode prog_8_method_4_code 143 = .ok (.dload_n 2, 1) := by decide +kernel
theorem d_prog_8_4_144 : decode prog_8_method_4_code 144 = .ok (.dreturn, 1) := by decide +kernel
theorem pd_3 : parseMethodDescriptor "(D)V" = some ⟨[.double], none⟩ := by decide +kernel
theorem pd_4 : parseMethodDescriptor "()Lcom/example/prose_to_query/prosetoquery/retrieval/ExactSum;" = some ⟨[], some (.object "com/example/prose_to_query/prosetoquery/retrieval/ExactSum")⟩ := by decide +kernel
theorem pd_5 : parseMethodDescriptor "()D" = some ⟨[], some .double⟩ := by decide +kernel
theorem pn_2 : plainName "com/example/prose_to_query/prosetoquery/retrieval/ExactSumCopyPinLaw" = true := by first | (simp [plainName, overriddenIn]; done) | decide +kernel
theorem ef_1 (m : MethodId) (x0 : Addr) : entryFrame m #[(.ref x0)] 1 = mkF m 0 #[.val (.ref x0)] [] := by first | (simp [entryFrame, mkF, argsToLocals, Value.category]; done) | rfl
def Q1 (Z : State) (a1 : Addr) (u1 : Value) (h0 : Heap) (n0 : Nat) (v : Option Value) (h : Heap) (L : List Loc) : Prop := ∃ (ar : Addr) (kc : ClassId), v = none ∧ Fr n0 L ∧ Keep h0 h [a1] ∧ Fld Z h a1 "com/example/prose_to_query/prosetoquery/retrieval/ExactSum" "partials" "[D" (.ref ar) ∧ Fld Z h a1 "com/example/prose_to_query/prosetoquery/retrieval/ExactSum" "size" "I" (.int (0 : Int32)) ∧ Arv Z h ar kc .double (4 : Int32) [.double (0 : UInt64), .double (0 : UInt64), .double (0 : UInt64), .double (0 : UInt64)] (.double (0 : UInt64)) ∧ Exa Z h ar "[D" ∧ h0.size ≤ ar
set_option maxRecDepth 65536 in
set_option maxHeartbeats 40000000 in
theorem rm1 (l : Launch) (Z : State) (a0 : Array Value) (hw : ∀ d ∈ tables_1, d.before a0 Z = true) (ws : List Jvm.Cond) (a1 : Addr) (u1 : Value) (h0 : Heap) (n0 : Nat) (Z0 : n0 ≤ h0.size) (Ea : Exa Z h0 a1 "com/example/prose_to_query/prosetoquery/retrieval/ExactSum") (Fp : Fld Z h0 a1 "com/example/prose_to_query/prosetoquery/retrieval/ExactSum" "partials" "[D" u1) (Fs : Fld Z h0 a1 "com/example/prose_to_query/prosetoquery/retrieval/ExactSum" "size" "I" (.int (0 : Int32))) (g_a1 : n0 ≤ a1) :
    MetFree l (⟨"com/example/prose_to_query/prosetoquery/retrieval/ExactSum", "<init>", "()V"⟩ : MethodName) (head1 (Jvm.Cond.code (⟨"com/example/prose_to_query/prosetoquery/retrieval/ExactSum", "<init>", "()V"⟩ : MethodName) prog_8_method_1_code 1 none :: ws) ({ frames := 1, cells := 1, slots := 4, locals := 12 } : Room)) (fun a U => a = #[(.ref a1)] ∧ Z.Warmed39 U.vm ∧ U.heap = h0) (fun _ _ _ _ _ => True) (fun _ U o U' => ∃ v L, o = .returned v ∧ Q1 Z a1 u1 h0 n0 v U'.heap L ∧ FrameEnd U o U' L ({ frames := 1, cells := 1, slots := 4, locals := 12 } : Room).cells ({ frames := 1, cells := 1, slots := 4, locals := 12 } : Room).slots) := by
  refine MetFree.of_bodySF (plainFor_of_name pn_0) hisR ?_
  intro p e s m args below meth c s₁ Bd hml0 hP hK
  obtain ⟨rfl, hZ, hh⟩ := hP
  have hlk : meth.locks = false := BodyLoose.notSynchronized Bd
  have hx := Bd.exec
  have hby := Bd.bytes
  have hml : c.maxLocals = 1 := hml0
  have hown : s.vm.findClass "com/example/prose_to_query/prosetoquery/retrieval/ExactSum" = some m.cls := findClass_of_methodNamed Bd.named
  have hnm := (name_of_methodNamed Bd.named Bd.method).1
  have X0 : Stand p l e ({ frames := 1, cells := 1, slots := 4, locals := 12 } : Room) s m #[(.ref a1)] below meth c s₁ [] 0 0 := Stand.of_body Bd
  have e0 : s₁.heap = h0 := by rw [← hh, Bd.state]; rfl
  have N0 := Fr.nil n0
  obtain ⟨A, hA⟩ : ∃ A, A = s₁.setTop (mkF m 0 #[.val (.ref a1)] []) := ⟨_, rfl⟩
  have hA0 : ∀ t, Steps p.tables e below A t → Steps p.tables e below (s₁.setTop (entryFrame m #[(.ref a1)] 1)) t := fun t k => castTop (ef_1 m a1) (hA ▸ k)
  have k0 : ∀ t, Steps p.tables e below (s₁.setTop (mkF m 0 #[.val (.ref a1)] [])) t → Steps p.tables e below A t := fun t k => hA ▸ k
  have KK : Keep h0 h0 [a1] := Keep.refl h0 [a1]
  obtain ⟨T1, X1, e1, st1⟩ := initO X0 hx hZ hown (hw _ (List.mem_of_getElem? (i := 6) rfl)) (hw _ (List.mem_of_getElem? (i := 7) rfl)) (hw _ (List.mem_of_getElem? (i := 8) rfl)) e0 (g := (mkF m 1 #[.val (.ref a1)] [(.ref a1)])) rfl (by rw [hml]; rfl) rfl (hb hby d_prog_8_1_1) (by decide) (W := 0) (by show 2 * 0 + _ ≤ _; exact Nat.le_of_eq rfl) (by decide)
  obtain ⟨T2, h2, c2, X2, e2, E2, A2, B2, st2⟩ := newPE X1 hx hZ (hw _ (List.mem_of_getElem? (i := 9) rfl)) e1 (g := (mkF m 6 #[.val (.ref a1)] [(.int (4 : Int32)), (.ref a1)])) rfl (hb hby d_prog_8_1_6) rfl (by decide) (cap := 4) (by decide) (by decide) (by decide) (by decide) (ad := "[D") (by decide)
  obtain ⟨b2, g2⟩ : ∃ z, z = h0.size := ⟨_, rfl⟩
  rw [← g2] at A2 B2 st2
  have ne_a1_b2 : a1 ≠ b2 := Nat.ne_of_lt (Nat.lt_of_lt_of_le Ea.lt (Nat.le_of_eq g2.symm))
  have g_b2 : n0 ≤ b2 := Nat.le_trans Z0 (Nat.le_of_eq g2.symm)
  have sz_b2 : h0.size ≤ b2 := Nat.le_trans KK.1 (Nat.le_of_eq g2.symm)
  replace Ea := Ea.ext E2
  replace Fp := Fp.ext E2
  replace Fs := Fs.ext E2
  have Zs2 := Nat.le_trans Z0 E2.1
  replace KK := KK.ext E2
  have Ex_b2 := B2
  have V_b2 : Arv Z h2 b2 c2 .double (4 : Int32) [(.double (0 : UInt64)), (.double (0 : UInt64)), (.double (0 : UInt64)), (.double (0 : UInt64))] (.double (0 : UInt64)) := (Arv.new A2 (by decide)).pad (pad_rep [] (.double (0 : UInt64)) 4)
  obtain ⟨T3, h3, X3, e3, W3, st3⟩ := putF X2 hx hZ hown (host := "") (Or.inl (hw _ (List.mem_of_getElem? (i := 10) rfl))) Via.refl e2 Fp Ea (Or.inl (hw _ (List.mem_of_getElem? (i := 11) rfl))) (hw _ (List.mem_of_getElem? (i := 1) rfl)) (ty := (.array .double)) (by decide) rfl rfl (g := (mkF m 8 #[.val (.ref a1)] [(.ref b2), (.ref a1)])) rfl rfl (hb hby d_prog_8_1_8)
  replace Ea := Ea.wr W3
  replace Fs := Fs.other W3 (Or.inr (slot_ne (Or.inl (hw _ (List.mem_of_getElem? (i := 18) rfl))) (Or.inl (hw _ (List.mem_of_getElem? (i := 11) rfl))) (by decide) (t := .int) (t' := (.array .double)) (by decide) (by decide)))
  replace Ex_b2 := Ex_b2.wr W3
  replace V_b2 := V_b2.other W3 (Ne.symm ne_a1_b2)
  have Zs3 := Nat.le_trans Zs2 (Keep.of_wr W3).1
  replace KK := KK.wr W3 (Or.inl (by simp))
  replace Fp := Fp.same W3
  have N3 := Fr.snoc X3 N0 g_a1
  obtain ⟨fs, hr, hrun, hended, hW, hsame⟩ := X3.leave (v := none) (fun _ => rfl) hlk
  refine ⟨_, _, ?_, hrun, hended, _, _, rfl, ?_, ⟨_, rfl⟩, hW, hsame.mono (by decide) (by decide)⟩
  · refine hA0 _ ?_
    refine k0 _ ?_
    refine own_f_aloadN X0.here hx (hb hby d_prog_8_1_0) rfl rfl (rfl : _ = 1) ?_
    refine st1 _ ?_
    show Steps p.tables e below (T1.setTop (mkF m 4 #[.val (.ref a1)] [])) _
    refine own_f_aloadN X1.here hx (hb hby d_prog_8_1_4) rfl rfl (rfl : _ = 5) ?_
    refine own_f_iconst X1.here hx (hb hby d_prog_8_1_5) (rfl : _ = (4 : Int32)) (rfl : _ = 6) ?_
    refine st2 _ ?_
    show Steps p.tables e below (T2.setTop (mkF m 8 #[.val (.ref a1)] [(.ref b2), (.ref a1)])) _
    refine st3 _ ?_
    show Steps p.tables e below (T3.setTop (mkF m 11 #[.val (.ref a1)] [])) _
    exact X3.returnOut hx Bd.returns (hb hby d_prog_8_1_11) hr
  · show Q1 Z a1 u1 h0 n0 _ T3.heap _
    rw [e3]
    exact ⟨b2, c2, rfl, N3, KK, Fp, Fs, V_b2, Ex_b2, sz_b2⟩
theorem ef_2 (m : MethodId) (x0 : Addr) (x1 : UInt64) : entryFrame m #[(.ref x0), (.double x1)] 13 = mkF m 0 #[.val (.ref x0), .val (.double x1), .second, .unset, .unset, .unset, .unset, .unset, .unset, .unset, .unset, .unset, .unset] [] := by first | (simp [entryFrame, mkF, argsToLocals, Value.category]; done) | rfl
def Q2 (Z : State) (a1 : Addr) (dx : UInt64) (k1 : Int32) (ar : Addr) (kc : ClassId) (q0 : UInt64) (q1 : UInt64) (q2 : UInt64) (q3 : UInt64) (qs : List UInt64) (h0 : Heap) (n0 : Nat) (v : Option Value) (h : Heap) (L : List Loc) : Prop := ∃ (k2 : Int32) (r0 : UInt64) (r1 : UInt64) (r2 : UInt64) (r3 : UInt64), v = none ∧ Fr n0 L ∧ Keep h0 h [a1, ar] ∧ Fld Z h a1 "com/example/prose_to_query/prosetoquery/retrieval/ExactSum" "partials" "[D" (.ref ar) ∧ Fld Z h a1 "com/example/prose_to_query/prosetoquery/retrieval/ExactSum" "size" "I" (.int k2) ∧ Arv Z h ar kc .double (4 : Int32) [.double r0, .double r1, .double r2, .double r3] (.double (0 : UInt64)) ∧ own_Res (own_ins qs dx) k2 [r0, r1, r2, r3]
set_option maxRecDepth 65536 in
set_option maxHeartbeats 40000000 in
theorem rm2 (l : Launch) (Z : State) (a0 : Array Value) (hw : ∀ d ∈ tables_1, d.before a0 Z = true) (ws : List Jvm.Cond) (a1 : Addr) (dx : UInt64) (k1 : Int32) (ar : Addr) (kc : ClassId) (q0 : UInt64) (q1 : UInt64) (q2 : UInt64) (q3 : UInt64) (qs : List UInt64) (h0 : Heap) (n0 : Nat) (Z0 : n0 ≤ h0.size) (Ea : Exa Z h0 a1 "com/example/prose_to_query/prosetoquery/retrieval/ExactSum") (Fp : Fld Z h0 a1 "com/example/prose_to_query/prosetoquery/retrieval/ExactSum" "partials" "[D" (.ref ar)) (Fs : Fld Z h0 a1 "com/example/prose_to_query/prosetoquery/retrieval/ExactSum" "size" "I" (.int k1)) (Va : Arv Z h0 ar kc .double (4 : Int32) [.double q0, .double q1, .double q2, .double q3] (.double (0 : UInt64))) (hne : a1 ≠ ar) (g_a1 : n0 ≤ a1) (g_ar : n0 ≤ ar) (hq : own_Res qs k1 [q0, q1, q2, q3]) (hlen : qs.length ≤ 3) (hnn : own_NN qs dx) :
    MetFree l (⟨"com/example/prose_to_query/prosetoquery/retrieval/ExactSum", "add", "(D)V"⟩ : MethodName) (head1 (Jvm.Cond.code (⟨"com/example/prose_to_query/prosetoquery/retrieval/ExactSum", "add", "(D)V"⟩ : MethodName) prog_8_method_2_code 13 none :: ws) ({ frames := 1, cells := 0, slots := 0, locals := 15 } : Room)) (fun a U => a = #[(.ref a1), (.double dx)] ∧ Z.Warmed39 U.vm ∧ U.heap = h0) (fun _ _ _ _ _ => True) (fun _ U o U' => ∃ v L, o = .returned v ∧ Q2 Z a1 dx k1 ar kc q0 q1 q2 q3 qs h0 n0 v U'.heap L ∧ FrameEnd U o U' L ({ frames := 1, cells := 0, slots := 0, locals := 15 } : Room).cells ({ frames := 1, cells := 0, slots := 0, locals := 15 } : Room).slots) := by
  refine MetFree.of_bodySF (plainFor_of_name pn_0) hisR ?_
  intro p e s m args below meth c s₁ Bd hml0 hP hK
  obtain ⟨rfl, hZ, hh⟩ := hP
  have hlk : meth.locks = false := BodyLoose.notSynchronized Bd
  have hx := Bd.exec
  have hby := Bd.bytes
  have hml : c.maxLocals = 13 := hml0
  have hown : s.vm.findClass "com/example/prose_to_query/prosetoquery/retrieval/ExactSum" = some m.cls := findClass_of_methodNamed Bd.named
  have hnm := (name_of_methodNamed Bd.named Bd.method).1
  have X0 : Stand p l e ({ frames := 1, cells := 0, slots := 0, locals := 15 } : Room) s m #[(.ref a1), (.double dx)] below meth c s₁ [] 0 0 := Stand.of_body Bd
  have e0 : s₁.heap = h0 := by rw [← hh, Bd.state]; rfl
  have N0 := Fr.nil n0
  obtain ⟨A, hA⟩ : ∃ A, A = s₁.setTop (mkF m 0 #[.val (.ref a1), .val (.double dx), .second, .unset, .unset, .unset, .unset, .unset, .unset, .unset, .unset, .unset, .unset] []) := ⟨_, rfl⟩
  have hA0 : ∀ t, Steps p.tables e below A t → Steps p.tables e below (s₁.setTop (entryFrame m #[(.ref a1), (.double dx)] 13)) t := fun t k => castTop (ef_2 m a1 dx) (hA ▸ k)
  have k0 : ∀ t, Steps p.tables e below (s₁.setTop (mkF m 0 #[.val (.ref a1), .val (.double dx), .second, .unset, .unset, .unset, .unset, .unset, .unset, .unset, .unset, .unset, .unset] [])) t → Steps p.tables e below A t := fun t k => hA ▸ k
  have KK : Keep h0 h0 [a1, ar] := Keep.refl h0 [a1, ar]
  rcases own_k4 hq hlen with rfl | rfl | rfl | rfl
  · obtain rfl : qs = [] := own_qs hq 0 (by decide)
    obtain ⟨T1, X1, e1, st1⟩ := getF X0 hx hZ hown (host := "") (Or.inl (hw _ (List.mem_of_getElem? (i := 17) rfl))) Via.refl e0 Fs (g := (mkF m 11 #[.val (.ref a1), .val (.double dx), .second, .val (.double dx), .second, .val (.int (0 : Int32)), .val (.int (0 : Int32)), .unset, .unset, .unset, .unset, .unset, .unset] [(.ref a1), (.int (0 : Int32))])) rfl rfl (hb hby d_prog_8_2_11)
    obtain ⟨T2, X2, e2, st2⟩ := getF X1 hx hZ hown (host := "") (Or.inl (hw _ (List.mem_of_getElem? (i := 10) rfl))) Via.refl e1 Fp (g := (mkF m 95 #[.val (.ref a1), .val (.double dx), .second, .val (.double dx), .second, .val (.int (0 : Int32)), .val (.int (0 : Int32)), .unset, .unset, .unset, .unset, .unset, .unset] [(.ref a1), (.int (0 : Int32))])) rfl rfl (hb hby d_prog_8_2_95)
    obtain ⟨cl3, Ar3, -, Sz3, Ng3, -, -⟩ := id Va
    obtain ⟨T4, X4, e4, st4⟩ := getF X2 hx hZ hown (host := "") (Or.inl (hw _ (List.mem_of_getElem? (i := 10) rfl))) Via.refl e2 Fp (g := (mkF m 118 #[.val (.ref a1), .val (.double dx), .second, .val (.double dx), .second, .val (.int (0 : Int32)), .val (.int (0 : Int32)), .unset, .unset, .unset, .unset, .unset, .unset] [(.ref a1)])) rfl rfl (hb hby d_prog_8_2_118)
    obtain ⟨cl5, Ar5, q5, Sz5, Ng5, Hs5, Gs5⟩ := Va
    have hin5 : ¬ ((0 : Int32) < 0 ∨ cl5.slots.size ≤ ((0 : Int32)).toNatClampNeg) := inb_of Sz5 ⟨by decide, by decide⟩
    obtain ⟨T6, h6, X6, e6, W6, st6⟩ := stD X4 hx hZ e4 Ar5 (j := (0 : Int32)) hin5 (g := (mkF m 127 #[.val (.ref a1), .val (.double dx), .second, .val (.double dx), .second, .val (.int (1 : Int32)), .val (.int (0 : Int32)), .unset, .unset, .unset, .unset, .unset, .unset] [(.double dx), (.int (0 : Int32)), (.ref ar)])) rfl rfl (hb hby d_prog_8_2_127)
    replace Ea := Ea.wr W6
    replace Fp := Fp.other W6 (Or.inl hne)
    replace Fs := Fs.other W6 (Or.inl hne)
    have Zs6 := Nat.le_trans Z0 (Keep.of_wr W6).1
    replace KK := KK.wr W6 (Or.inl (by simp))
    have Va : Arv Z h6 ar kc .double (4 : Int32) [(.double dx), (.double q1), (.double q2), (.double q3)] (.double (0 : UInt64)) := Arv.set Ar5 q5 Sz5 Ng5 Hs5 Gs5 rfl W6 0 rfl (Nat.le_of_ble_eq_true rfl)
    have N6 := Fr.snoc X6 N0 g_ar
    obtain ⟨T7, h7, X7, e7, W7, st7⟩ := putF X6 hx hZ hown (host := "") (Or.inl (hw _ (List.mem_of_getElem? (i := 17) rfl))) Via.refl e6 Fs Ea (Or.inl (hw _ (List.mem_of_getElem? (i := 18) rfl))) (hw _ (List.mem_of_getElem? (i := 1) rfl)) (ty := .int) (by decide) rfl rfl (g := (mkF m 131 #[.val (.ref a1), .val (.double dx), .second, .val (.double dx), .second, .val (.int (1 : Int32)), .val (.int (0 : Int32)), .unset, .unset, .unset, .unset, .unset, .unset] [(.int (1 : Int32)), (.ref a1)])) rfl rfl (hb hby d_prog_8_2_131)
    replace Ea := Ea.wr W7
    replace Fp := Fp.other W7 (Or.inr (slot_ne (Or.inl (hw _ (List.mem_of_getElem? (i := 11) rfl))) (Or.inl (hw _ (List.mem_of_getElem? (i := 18) rfl))) (by decide) (t := (.array .double)) (t' := .int) (by decide) (by decide)))
    replace Va := Va.other W7 (Ne.symm hne)
    have Zs7 := Nat.le_trans Zs6 (Keep.of_wr W7).1
    replace KK := KK.wr W7 (Or.inl (by simp))
    replace Fs := Fs.same W7
    have N7 := Fr.snoc X7 N6 g_a1
    obtain ⟨fs, hr, hrun, hended, hW, hsame⟩ := X7.leave (v := none) (fun _ => rfl) hlk
    refine ⟨_, _, ?_, hrun, hended, _, _, rfl, ?_, ⟨_, rfl⟩, hW, hsame.mono (by decide) (by decide)⟩
    · refine hA0 _ ?_
      refine k0 _ ?_
      refine own_f_dloadN X0.here hx (hb hby d_prog_8_2_0) rfl (rfl : _ = 1) ?_
      refine own_f_dstoreN X0.here hx (hb hby d_prog_8_2_1) (rfl : storeLocals _ _ _ = some #[.val (.ref a1), .val (.double dx), .second, .val (.double dx), .second, .unset, .unset, .unset, .unset, .unset, .unset, .unset, .unset]) (rfl : _ = 2) ?_
      refine own_f_iconst X0.here hx (hb hby d_prog_8_2_2) (rfl : _ = (0 : Int32)) (rfl : _ = 3) ?_
      refine own_f_istore X0.here hx (hb hby d_prog_8_2_3) (rfl : storeLocals _ _ _ = some #[.val (.ref a1), .val (.double dx), .second, .val (.double dx), .second, .val (.int (0 : Int32)), .unset, .unset, .unset, .unset, .unset, .unset, .unset]) (rfl : _ = 5) ?_
      refine own_f_iconst X0.here hx (hb hby d_prog_8_2_5) (rfl : _ = (0 : Int32)) (rfl : _ = 6) ?_
      refine own_f_istore X0.here hx (hb hby d_prog_8_2_6) (rfl : storeLocals _ _ _ = some #[.val (.ref a1), .val (.double dx), .second, .val (.double dx), .second, .val (.int (0 : Int32)), .val (.int (0 : Int32)), .unset, .unset, .unset, .unset, .unset, .unset]) (rfl : _ = 8) ?_
      refine own_f_iload X0.here hx (hb hby d_prog_8_2_8) rfl (rfl : _ = 10) ?_
      refine own_f_aloadN X0.here hx (hb hby d_prog_8_2_10) rfl rfl (rfl : _ = 11) ?_
      refine st1 _ ?_
      show Steps p.tables e below (T1.setTop (mkF m 14 #[.val (.ref a1), .val (.double dx), .second, .val (.double dx), .second, .val (.int (0 : Int32)), .val (.int (0 : Int32)), .unset, .unset, .unset, .unset, .unset, .unset] [(.int (0 : Int32)), (.int (0 : Int32))])) _
      refine own_f_icmpYes X1.here hx (hb hby d_prog_8_2_14) (flt (by decide)).2.1 (by decide) (by decide : _ = 92) ?_
      refine own_f_iload X1.here hx (hb hby d_prog_8_2_92) rfl (rfl : _ = 94) ?_
      refine own_f_aloadN X1.here hx (hb hby d_prog_8_2_94) rfl rfl (rfl : _ = 95) ?_
      refine st2 _ ?_
      show Steps p.tables e below (T2.setTop (mkF m 98 #[.val (.ref a1), .val (.double dx), .second, .val (.double dx), .second, .val (.int (0 : Int32)), .val (.int (0 : Int32)), .unset, .unset, .unset, .unset, .unset, .unset] [(.ref ar), (.int (0 : Int32))])) _
      refine X2.arraylength hx (by rw [e2]; exact Ar3.1) (State.isArrayOf_alike hZ.alike Ar3.2.1) (g := (mkF m 98 #[.val (.ref a1), .val (.double dx), .second, .val (.double dx), .second, .val (.int (0 : Int32)), .val (.int (0 : Int32)), .unset, .unset, .unset, .unset, .unset, .unset] [(.ref ar), (.int (0 : Int32))])) rfl rfl (hb hby d_prog_8_2_98) _ ?_
      rw [len_of Sz3 Ng3]
      show Steps p.tables e below (T2.setTop (mkF m 99 #[.val (.ref a1), .val (.double dx), .second, .val (.double dx), .second, .val (.int (0 : Int32)), .val (.int (0 : Int32)), .unset, .unset, .unset, .unset, .unset, .unset] [(.int (4 : Int32)), (.int (0 : Int32))])) _
      refine own_f_icmpYes X2.here hx (hb hby d_prog_8_2_99) (feq (by decide)).2 (by decide) (by decide : _ = 117) ?_
      refine own_f_aloadN X2.here hx (hb hby d_prog_8_2_117) rfl rfl (rfl : _ = 118) ?_
      refine st4 _ ?_
      show Steps p.tables e below (T4.setTop (mkF m 121 #[.val (.ref a1), .val (.double dx), .second, .val (.double dx), .second, .val (.int (0 : Int32)), .val (.int (0 : Int32)), .unset, .unset, .unset, .unset, .unset, .unset] [(.ref ar)])) _
      refine own_f_iload X4.here hx (hb hby d_prog_8_2_121) rfl (rfl : _ = 123) ?_
      refine own_f_iinc X4.here hx (hb hby d_prog_8_2_123) rfl (rfl : storeLocals _ _ _ = some #[.val (.ref a1), .val (.double dx), .second, .val (.double dx), .second, .val (.int (1 : Int32)), .val (.int (0 : Int32)), .unset, .unset, .unset, .unset, .unset, .unset]) (rfl : _ = 126) ?_
      refine own_f_dloadN X4.here hx (hb hby d_prog_8_2_126) rfl (rfl : _ = 127) ?_
      refine st6 _ ?_
      show Steps p.tables e below (T6.setTop (mkF m 128 #[.val (.ref a1), .val (.double dx), .second, .val (.double dx), .second, .val (.int (1 : Int32)), .val (.int (0 : Int32)), .unset, .unset, .unset, .unset, .unset, .unset] [])) _
      refine own_f_aloadN X6.here hx (hb hby d_prog_8_2_128) rfl rfl (rfl : _ = 129) ?_
      refine own_f_iload X6.here hx (hb hby d_prog_8_2_129) rfl (rfl : _ = 131) ?_
      refine st7 _ ?_
      show Steps p.tables e below (T7.setTop (mkF m 134 #[.val (.ref a1), .val (.double dx), .second, .val (.double dx), .second, .val (.int (1 : Int32)), .val (.int (0 : Int32)), .unset, .unset, .unset, .unset, .unset, .unset] [])) _
      exact X7.returnOut hx Bd.returns (hb hby d_prog_8_2_134) hr
    · show Q2 Z a1 dx _ ar kc q0 q1 q2 q3 _ h0 n0 _ T7.heap _
      rw [e7]
      exact ⟨(1 : Int32), dx, q1, q2, q3, rfl, N7, KK, Fp, Fs, Va, own_res (M := [dx]) (by rfl) (by show Int32.toInt 1 = ((1 : Nat) : Int); decide) rfl⟩
  · obtain rfl : qs = [q0] := own_qs hq 1 (by decide)
    obtain ⟨T8, X8, e8, st8⟩ := getF X0 hx hZ hown (host := "") (Or.inl (hw _ (List.mem_of_getElem? (i := 17) rfl))) Via.refl e0 Fs (g := (mkF m 11 #[.val (.ref a1), .val (.double dx), .second, .val (.double dx), .second, .val (.int (0 : Int32)), .val (.int (0 : Int32)), .unset, .unset, .unset, .unset, .unset, .unset] [(.ref a1), (.int (0 : Int32))])) rfl rfl (hb hby d_prog_8_2_11)
    obtain ⟨T9, X9, e9, st9⟩ := getF X8 hx hZ hown (host := "") (Or.inl (hw _ (List.mem_of_getElem? (i := 10) rfl))) Via.refl e8 Fp (g := (mkF m 18 #[.val (.ref a1), .val (.double dx), .second, .val (.double dx), .second, .val (.int (0 : Int32)), .val (.int (0 : Int32)), .unset, .unset, .unset, .unset, .unset, .unset] [(.ref a1)])) rfl rfl (hb hby d_prog_8_2_18)
    obtain ⟨cl10, Ar10, -, Sz10, Ng10, Hs10, -⟩ := id Va
    have hin10 : ¬ ((0 : Int32) < 0 ∨ cl10.slots.size ≤ ((0 : Int32)).toNatClampNeg) := inb_of Sz10 ⟨by decide, by decide⟩
    have hat10 : cl10.slots[((0 : Int32)).toNatClampNeg]? = some (.double q0) := Hs10 _ (Nat.lt_of_not_le fun q => hin10 (Or.inr q))
    obtain ⟨⟨nx0, nq0⟩, na0, nb0, nc0, -⟩ := own_nn hnn
    obtain ⟨T11, X11, e11, st11⟩ := natS X9 hx hZ hown (hw _ (List.mem_of_getElem? (i := 19) rfl)) (hw _ (List.mem_of_getElem? (i := 20) rfl)) (hw _ (List.mem_of_getElem? (i := 21) rfl)) (hw _ (List.mem_of_getElem? (i := 22) rfl)) (by decide) e9 (W := 0) (val' := (.double (dx &&& 0x7fffffffffffffff))) (fun c => Jvm.Free.Fl.Abs.absD_pays dx c (by decide) (by decide)) (g := (mkF m 27 #[.val (.ref a1), .val (.double dx), .second, .val (.double dx), .second, .val (.int (0 : Int32)), .val (.int (0 : Int32)), .val (.double q0), .second, .unset, .unset, .unset, .unset] [(.double dx)])) rfl (by rw [hml]; rfl) (argsL := [(.double dx)]) (rest := []) (lenOf pd_0 rfl) rfl (by show 2 * 0 + _ ≤ _; exact Nat.le_of_eq rfl) (hb hby d_prog_8_2_27) (by decide) (by decide) ⟨rfl, nx0⟩ rfl
    obtain ⟨T12, X12, e12, st12⟩ := natS X11 hx hZ hown (hw _ (List.mem_of_getElem? (i := 19) rfl)) (hw _ (List.mem_of_getElem? (i := 20) rfl)) (hw _ (List.mem_of_getElem? (i := 21) rfl)) (hw _ (List.mem_of_getElem? (i := 22) rfl)) (by decide) e11 (W := 2) (val' := (.double (q0 &&& 0x7fffffffffffffff))) (fun c => Jvm.Free.Fl.Abs.absD_pays q0 c (by decide) (by decide)) (g := (mkF m 32 #[.val (.ref a1), .val (.double dx), .second, .val (.double dx), .second, .val (.int (0 : Int32)), .val (.int (0 : Int32)), .val (.double q0), .second, .unset, .unset, .unset, .unset] [(.double q0), (.double (dx &&& 0x7fffffffffffffff))])) rfl (by rw [hml]; rfl) (argsL := [(.double q0)]) (rest := [(.double (dx &&& 0x7fffffffffffffff))]) (lenOf pd_0 rfl) rfl (by show 2 * 0 + _ ≤ _; exact Nat.le_of_eq rfl) (hb hby d_prog_8_2_32) (by decide) (by decide) ⟨rfl, nq0⟩ rfl
    have k13 : ∀ t_, Steps p.tables e below (T12.setTop (mkF m 36 #[.val (.ref a1), .val (.double dx), .second, .val (.double dx), .second, .val (.int (0 : Int32)), .val (.int (0 : Int32)), .val (.double q0), .second, .unset, .unset, .unset, .unset] [(.int (cmpValue (FP.dcmp (dx &&& 0x7fffffffffffffff) (q0 &&& 0x7fffffffffffffff)) .g))])) t_ → Steps p.tables e below A t_ := by
      intro t_ ht_
      refine k0 t_ ?_
      refine own_f_dloadN X0.here hx (hb hby d_prog_8_2_0) rfl (rfl : _ = 1) ?_
      refine own_f_dstoreN X0.here hx (hb hby d_prog_8_2_1) (rfl : storeLocals _ _ _ = some #[.val (.ref a1), .val (.double dx), .second, .val (.double dx), .second, .unset, .unset, .unset, .unset, .unset, .unset, .unset, .unset]) (rfl : _ = 2) ?_
      refine own_f_iconst X0.here hx (hb hby d_prog_8_2_2) (rfl : _ = (0 : Int32)) (rfl : _ = 3) ?_
      refine own_f_istore X0.here hx (hb hby d_prog_8_2_3) (rfl : storeLocals _ _ _ = some #[.val (.ref a1), .val (.double dx), .second, .val (.double dx), .second, .val (.int (0 : Int32)), .unset, .unset, .unset, .unset, .unset, .unset, .unset]) (rfl : _ = 5) ?_
      refine own_f_iconst X0.here hx (hb hby d_prog_8_2_5) (rfl : _ = (0 : Int32)) (rfl : _ = 6) ?_
      refine own_f_istore X0.here hx (hb hby d_prog_8_2_6) (rfl : storeLocals _ _ _ = some #[.val (.ref a1), .val (.double dx), .second, .val (.double dx), .second, .val (.int (0 : Int32)), .val (.int (0 : Int32)), .unset, .unset, .unset, .unset, .unset, .unset]) (rfl : _ = 8) ?_
      refine own_f_iload X0.here hx (hb hby d_prog_8_2_8) rfl (rfl : _ = 10) ?_
      refine own_f_aloadN X0.here hx (hb hby d_prog_8_2_10) rfl rfl (rfl : _ = 11) ?_
      refine st8 _ ?_
      show Steps p.tables e below (T8.setTop (mkF m 14 #[.val (.ref a1), .val (.double dx), .second, .val (.double dx), .second, .val (.int (0 : Int32)), .val (.int (0 : Int32)), .unset, .unset, .unset, .unset, .unset, .unset] [(.int (1 : Int32)), (.int (0 : Int32))])) t_
      refine own_f_icmpNo X8.here hx (hb hby d_prog_8_2_14) (tlt (by decide)).2.1 (rfl : _ = 17) ?_
      refine own_f_aloadN X8.here hx (hb hby d_prog_8_2_17) rfl rfl (rfl : _ = 18) ?_
      refine st9 _ ?_
      show Steps p.tables e below (T9.setTop (mkF m 21 #[.val (.ref a1), .val (.double dx), .second, .val (.double dx), .second, .val (.int (0 : Int32)), .val (.int (0 : Int32)), .unset, .unset, .unset, .unset, .unset, .unset] [(.ref ar)])) t_
      refine own_f_iload X9.here hx (hb hby d_prog_8_2_21) rfl (rfl : _ = 23) ?_
      refine X9.daload hx (j := (0 : Int32)) (v := (.double q0)) (by rw [e9]; exact Ar10.1) (State.isArrayOf_alike hZ.alike Ar10.2.1) Ar10.2.2 hin10 hat10 (g := (mkF m 23 #[.val (.ref a1), .val (.double dx), .second, .val (.double dx), .second, .val (.int (0 : Int32)), .val (.int (0 : Int32)), .unset, .unset, .unset, .unset, .unset, .unset] [(.int (0 : Int32)), (.ref ar)])) rfl rfl (hb hby d_prog_8_2_23) _ ?_
      show Steps p.tables e below (T9.setTop (mkF m 24 #[.val (.ref a1), .val (.double dx), .second, .val (.double dx), .second, .val (.int (0 : Int32)), .val (.int (0 : Int32)), .unset, .unset, .unset, .unset, .unset, .unset] [(.double q0)])) t_
      refine own_f_dstore X9.here hx (hb hby d_prog_8_2_24) (rfl : storeLocals _ _ _ = some #[.val (.ref a1), .val (.double dx), .second, .val (.double dx), .second, .val (.int (0 : Int32)), .val (.int (0 : Int32)), .val (.double q0), .second, .unset, .unset, .unset, .unset]) (rfl : _ = 26) ?_
      refine own_f_dloadN X9.here hx (hb hby d_prog_8_2_26) rfl (rfl : _ = 27) ?_
      refine st11 _ ?_
      show Steps p.tables e below (T11.setTop (mkF m 30 #[.val (.ref a1), .val (.double dx), .second, .val (.double dx), .second, .val (.int (0 : Int32)), .val (.int (0 : Int32)), .val (.double q0), .second, .unset, .unset, .unset, .unset] [(.double (dx &&& 0x7fffffffffffffff))])) t_
      refine own_f_dload X11.here hx (hb hby d_prog_8_2_30) rfl (rfl : _ = 32) ?_
      refine st12 _ ?_
      show Steps p.tables e below (T12.setTop (mkF m 35 #[.val (.ref a1), .val (.double dx), .second, .val (.double dx), .second, .val (.int (0 : Int32)), .val (.int (0 : Int32)), .val (.double q0), .second, .unset, .unset, .unset, .unset] [(.double (q0 &&& 0x7fffffffffffffff)), (.double (dx &&& 0x7fffffffffffffff))])) t_
      refine own_f_dcmp X12.here hx (hb hby d_prog_8_2_35) rfl (rfl : _ = 36) ?_
      exact ht_
    have k14 : ∀ t_, Steps p.tables e below (T12.setTop (mkF m 64 #[.val (.ref a1), .val (.double dx), .second, .val (.double (own_fst dx q0)), .second, .val (.int (0 : Int32)), .val (.int (0 : Int32)), .val (.double (own_snd dx q0)), .second, .val (.double (FP.dadd (own_fst dx q0) (own_snd dx q0))), .second, .val (.double (own_lo (own_fst dx q0) (own_snd dx q0))), .second] [])) t_ → Steps p.tables e below A t_ := by
      intro t_ ht_
      refine k13 t_ ?_
      by_cases hsw : own_lt dx q0
      · have e1 : own_fst dx q0 = q0 := if_pos hsw
        have e2 : own_snd dx q0 = dx := if_pos hsw
        rw [e1, e2] at ht_ na0 nb0 nc0
        have hs_ : (cmpValue (FP.dcmp (dx &&& 0x7fffffffffffffff) (q0 &&& 0x7fffffffffffffff)) .g) < (0 : Int32) := hsw
        refine own_f_ifNo X12.here hx (hb hby d_prog_8_2_36) ((if0 _ _).trans (tlt (hs_)).2.1) (rfl : _ = 39) ?_
        refine own_f_dload X12.here hx (hb hby d_prog_8_2_39) rfl (rfl : _ = 41) ?_
        refine own_f_dstore X12.here hx (hb hby d_prog_8_2_41) (rfl : storeLocals _ _ _ = some #[.val (.ref a1), .val (.double dx), .second, .val (.double dx), .second, .val (.int (0 : Int32)), .val (.int (0 : Int32)), .val (.double q0), .second, .val (.double q0), .second, .unset, .unset]) (rfl : _ = 43) ?_
        refine own_f_dloadN X12.here hx (hb hby d_prog_8_2_43) rfl (rfl : _ = 44) ?_
        refine own_f_dstore X12.here hx (hb hby d_prog_8_2_44) (rfl : storeLocals _ _ _ = some #[.val (.ref a1), .val (.double dx), .second, .val (.double dx), .second, .val (.int (0 : Int32)), .val (.int (0 : Int32)), .val (.double dx), .second, .val (.double q0), .second, .unset, .unset]) (rfl : _ = 46) ?_
        refine own_f_dload X12.here hx (hb hby d_prog_8_2_46) rfl (rfl : _ = 48) ?_
        refine own_f_dstoreN X12.here hx (hb hby d_prog_8_2_48) (rfl : storeLocals _ _ _ = some #[.val (.ref a1), .val (.double dx), .second, .val (.double q0), .second, .val (.int (0 : Int32)), .val (.int (0 : Int32)), .val (.double dx), .second, .val (.double q0), .second, .unset, .unset]) (rfl : _ = 49) ?_
        refine own_f_dloadN X12.here hx (hb hby d_prog_8_2_49) rfl (rfl : _ = 50) ?_
        refine own_f_dload X12.here hx (hb hby d_prog_8_2_50) rfl (rfl : _ = 52) ?_
        refine own_f_dadd X12.here hx (hb hby d_prog_8_2_52) (na0) rfl (rfl : _ = 53) ?_
        refine own_f_dstore X12.here hx (hb hby d_prog_8_2_53) (rfl : storeLocals _ _ _ = some #[.val (.ref a1), .val (.double dx), .second, .val (.double q0), .second, .val (.int (0 : Int32)), .val (.int (0 : Int32)), .val (.double dx), .second, .val (.double (FP.dadd q0 dx)), .second, .unset, .unset]) (rfl : _ = 55) ?_
        refine own_f_dload X12.here hx (hb hby d_prog_8_2_55) rfl (rfl : _ = 57) ?_
        refine own_f_dload X12.here hx (hb hby d_prog_8_2_57) rfl (rfl : _ = 59) ?_
        refine own_f_dloadN X12.here hx (hb hby d_prog_8_2_59) rfl (rfl : _ = 60) ?_
        refine own_f_dsub X12.here hx (hb hby d_prog_8_2_60) (nb0) rfl (rfl : _ = 61) ?_
        refine own_f_dsub X12.here hx (hb hby d_prog_8_2_61) (nc0) rfl (rfl : _ = 62) ?_
        refine own_f_dstore X12.here hx (hb hby d_prog_8_2_62) (rfl : storeLocals _ _ _ = some #[.val (.ref a1), .val (.double dx), .second, .val (.double q0), .second, .val (.int (0 : Int32)), .val (.int (0 : Int32)), .val (.double dx), .second, .val (.double (FP.dadd q0 dx)), .second, .val (.double (FP.dsub dx (FP.dsub (FP.dadd q0 dx) q0))), .second]) (rfl : _ = 64) ?_
        exact ht_
      · have e1 : own_fst dx q0 = dx := if_neg hsw
        have e2 : own_snd dx q0 = q0 := if_neg hsw
        rw [e1, e2] at ht_ na0 nb0 nc0
        have hs_ : ¬ ((cmpValue (FP.dcmp (dx &&& 0x7fffffffffffffff) (q0 &&& 0x7fffffffffffffff)) .g) < (0 : Int32)) := hsw
        refine own_f_ifYes X12.here hx (hb hby d_prog_8_2_36) ((if0 _ _).trans (flt (hs_)).2.1) (by decide) (by decide : _ = 49) ?_
        refine own_f_dloadN X12.here hx (hb hby d_prog_8_2_49) rfl (rfl : _ = 50) ?_
        refine own_f_dload X12.here hx (hb hby d_prog_8_2_50) rfl (rfl : _ = 52) ?_
        refine own_f_dadd X12.here hx (hb hby d_prog_8_2_52) (na0) rfl (rfl : _ = 53) ?_
        refine own_f_dstore X12.here hx (hb hby d_prog_8_2_53) (rfl : storeLocals _ _ _ = some #[.val (.ref a1), .val (.double dx), .second, .val (.double dx), .second, .val (.int (0 : Int32)), .val (.int (0 : Int32)), .val (.double q0), .second, .val (.double (FP.dadd dx q0)), .second, .unset, .unset]) (rfl : _ = 55) ?_
        refine own_f_dload X12.here hx (hb hby d_prog_8_2_55) rfl (rfl : _ = 57) ?_
        refine own_f_dload X12.here hx (hb hby d_prog_8_2_57) rfl (rfl : _ = 59) ?_
        refine own_f_dloadN X12.here hx (hb hby d_prog_8_2_59) rfl (rfl : _ = 60) ?_
        refine own_f_dsub X12.here hx (hb hby d_prog_8_2_60) (nb0) rfl (rfl : _ = 61) ?_
        refine own_f_dsub X12.here hx (hb hby d_prog_8_2_61) (nc0) rfl (rfl : _ = 62) ?_
        refine own_f_dstore X12.here hx (hb hby d_prog_8_2_62) (rfl : storeLocals _ _ _ = some #[.val (.ref a1), .val (.double dx), .second, .val (.double dx), .second, .val (.int (0 : Int32)), .val (.int (0 : Int32)), .val (.double q0), .second, .val (.double (FP.dadd dx q0)), .second, .val (.double (FP.dsub q0 (FP.dsub (FP.dadd dx q0) dx))), .second]) (rfl : _ = 64) ?_
        exact ht_
    obtain ⟨hi0, hhi0⟩ : ∃ z : UInt64, z = (FP.dadd (own_fst dx q0) (own_snd dx q0)) := ⟨_, rfl⟩
    rw [← hhi0] at k14
    obtain ⟨lo0, hlo0⟩ : ∃ z : UInt64, z = (own_lo (own_fst dx q0) (own_snd dx q0)) := ⟨_, rfl⟩
    rw [← hlo0] at k14
    replace hnn := own_nn' hhi0 hnn
    have k15 : ∀ t_, Steps p.tables e below (T12.setTop (mkF m 68 #[.val (.ref a1), .val (.double dx), .second, .val (.double (own_fst dx q0)), .second, .val (.int (0 : Int32)), .val (.int (0 : Int32)), .val (.double (own_snd dx q0)), .second, .val (.double hi0), .second, .val (.double lo0), .second] [(.int (cmpValue (FP.dcmp lo0 (0 : UInt64)) .l))])) t_ → Steps p.tables e below A t_ := by
      intro t_ ht_
      refine k14 t_ ?_
      refine own_f_dload X12.here hx (hb hby d_prog_8_2_64) rfl (rfl : _ = 66) ?_
      refine own_f_dconst0 X12.here hx (hb hby d_prog_8_2_66) (rfl : _ = (0 : UInt64)) (rfl : _ = 67) ?_
      refine own_f_dcmp X12.here hx (hb hby d_prog_8_2_67) rfl (rfl : _ = 68) ?_
      exact ht_
    by_cases hz0 : (cmpValue (FP.dcmp lo0 (0 : UInt64)) .l) = (0 : Int32)
    · obtain ⟨T16, X16, e16, st16⟩ := getF X12 hx hZ hown (host := "") (Or.inl (hw _ (List.mem_of_getElem? (i := 17) rfl))) Via.refl e12 Fs (g := (mkF m 11 #[.val (.ref a1), .val (.double dx), .second, .val (.double hi0), .second, .val (.int (0 : Int32)), .val (.int (1 : Int32)), .val (.double (own_snd dx q0)), .second, .val (.double hi0), .second, .val (.double lo0), .second] [(.ref a1), (.int (1 : Int32))])) rfl rfl (hb hby d_prog_8_2_11)
      obtain ⟨T17, X17, e17, st17⟩ := getF X16 hx hZ hown (host := "") (Or.inl (hw _ (List.mem_of_getElem? (i := 10) rfl))) Via.refl e16 Fp (g := (mkF m 95 #[.val (.ref a1), .val (.double dx), .second, .val (.double hi0), .second, .val (.int (0 : Int32)), .val (.int (1 : Int32)), .val (.double (own_snd dx q0)), .second, .val (.double hi0), .second, .val (.double lo0), .second] [(.ref a1), (.int (0 : Int32))])) rfl rfl (hb hby d_prog_8_2_95)
      obtain ⟨cl18, Ar18, -, Sz18, Ng18, -, -⟩ := id Va
      obtain ⟨T19, X19, e19, st19⟩ := getF X17 hx hZ hown (host := "") (Or.inl (hw _ (List.mem_of_getElem? (i := 10) rfl))) Via.refl e17 Fp (g := (mkF m 118 #[.val (.ref a1), .val (.double dx), .second, .val (.double hi0), .second, .val (.int (0 : Int32)), .val (.int (1 : Int32)), .val (.double (own_snd dx q0)), .second, .val (.double hi0), .second, .val (.double lo0), .second] [(.ref a1)])) rfl rfl (hb hby d_prog_8_2_118)
      obtain ⟨cl20, Ar20, q20, Sz20, Ng20, Hs20, Gs20⟩ := Va
      have hin20 : ¬ ((0 : Int32) < 0 ∨ cl20.slots.size ≤ ((0 : Int32)).toNatClampNeg) := inb_of Sz20 ⟨by decide, by decide⟩
      obtain ⟨T21, h21, X21, e21, W21, st21⟩ := stD X19 hx hZ e19 Ar20 (j := (0 : Int32)) hin20 (g := (mkF m 127 #[.val (.ref a1), .val (.double dx), .second, .val (.double hi0), .second, .val (.int (1 : Int32)), .val (.int (1 : Int32)), .val (.double (own_snd dx q0)), .second, .val (.double hi0), .second, .val (.double lo0), .second] [(.double hi0), (.int (0 : Int32)), (.ref ar)])) rfl rfl (hb hby d_prog_8_2_127)
      replace Ea := Ea.wr W21
      replace Fp := Fp.other W21 (Or.inl hne)
      replace Fs := Fs.other W21 (Or.inl hne)
      have Zs21 := Nat.le_trans Z0 (Keep.of_wr W21).1
      replace KK := KK.wr W21 (Or.inl (by simp))
      have Va : Arv Z h21 ar kc .double (4 : Int32) [(.double hi0), (.double q1), (.double q2), (.double q3)] (.double (0 : UInt64)) := Arv.set Ar20 q20 Sz20 Ng20 Hs20 Gs20 rfl W21 0 rfl (Nat.le_of_ble_eq_true rfl)
      have N21 := Fr.snoc X21 N0 g_ar
      obtain ⟨T22, h22, X22, e22, W22, st22⟩ := putF X21 hx hZ hown (host := "") (Or.inl (hw _ (List.mem_of_getElem? (i := 17) rfl))) Via.refl e21 Fs Ea (Or.inl (hw _ (List.mem_of_getElem? (i := 18) rfl))) (hw _ (List.mem_of_getElem? (i := 1) rfl)) (ty := .int) (by decide) rfl rfl (g := (mkF m 131 #[.val (.ref a1), .val (.double dx), .second, .val (.double hi0), .second, .val (.int (1 : Int32)), .val (.int (1 : Int32)), .val (.double (own_snd dx q0)), .second, .val (.double hi0), .second, .val (.double lo0), .second] [(.int (1 : Int32)), (.ref a1)])) rfl rfl (hb hby d_prog_8_2_131)
      replace Ea := Ea.wr W22
      replace Fp := Fp.other W22 (Or.inr (slot_ne (Or.inl (hw _ (List.mem_of_getElem? (i := 11) rfl))) (Or.inl (hw _ (List.mem_of_getElem? (i := 18) rfl))) (by decide) (t := (.array .double)) (t' := .int) (by decide) (by decide)))
      replace Va := Va.other W22 (Ne.symm hne)
      have Zs22 := Nat.le_trans Zs21 (Keep.of_wr W22).1
      replace KK := KK.wr W22 (Or.inl (by simp))
      replace Fs := Fs.same W22
      have N22 := Fr.snoc X22 N21 g_a1
      obtain ⟨fs, hr, hrun, hended, hW, hsame⟩ := X22.leave (v := none) (fun _ => rfl) hlk
      refine ⟨_, _, ?_, hrun, hended, _, _, rfl, ?_, ⟨_, rfl⟩, hW, hsame.mono (by decide) (by decide)⟩
      · refine hA0 _ ?_
        refine k15 _ ?_
        refine own_f_ifYes X12.here hx (hb hby d_prog_8_2_68) ((if0 _ _).trans (teq (hz0)).1) (by decide) (by decide : _ = 83) ?_
        refine own_f_dload X12.here hx (hb hby d_prog_8_2_83) rfl (rfl : _ = 85) ?_
        refine own_f_dstoreN X12.here hx (hb hby d_prog_8_2_85) (rfl : storeLocals _ _ _ = some #[.val (.ref a1), .val (.double dx), .second, .val (.double hi0), .second, .val (.int (0 : Int32)), .val (.int (0 : Int32)), .val (.double (own_snd dx q0)), .second, .val (.double hi0), .second, .val (.double lo0), .second]) (rfl : _ = 86) ?_
        refine own_f_iinc X12.here hx (hb hby d_prog_8_2_86) rfl (rfl : storeLocals _ _ _ = some #[.val (.ref a1), .val (.double dx), .second, .val (.double hi0), .second, .val (.int (0 : Int32)), .val (.int (1 : Int32)), .val (.double (own_snd dx q0)), .second, .val (.double hi0), .second, .val (.double lo0), .second]) (rfl : _ = 89) ?_
        refine own_f_goto X12.here hx (hb hby d_prog_8_2_89) (by decide) (by decide : _ = 8) ?_
        refine own_f_iload X12.here hx (hb hby d_prog_8_2_8) rfl (rfl : _ = 10) ?_
        refine own_f_aloadN X12.here hx (hb hby d_prog_8_2_10) rfl rfl (rfl : _ = 11) ?_
        refine st16 _ ?_
        show Steps p.tables e below (T16.setTop (mkF m 14 #[.val (.ref a1), .val (.double dx), .second, .val (.double hi0), .second, .val (.int (0 : Int32)), .val (.int (1 : Int32)), .val (.double (own_snd dx q0)), .second, .val (.double hi0), .second, .val (.double lo0), .second] [(.int (1 : Int32)), (.int (1 : Int32))])) _
        refine own_f_icmpYes X16.here hx (hb hby d_prog_8_2_14) (flt (by decide)).2.1 (by decide) (by decide : _ = 92) ?_
        refine own_f_iload X16.here hx (hb hby d_prog_8_2_92) rfl (rfl : _ = 94) ?_
        refine own_f_aloadN X16.here hx (hb hby d_prog_8_2_94) rfl rfl (rfl : _ = 95) ?_
        refine st17 _ ?_
        show Steps p.tables e below (T17.setTop (mkF m 98 #[.val (.ref a1), .val (.double dx), .second, .val (.double hi0), .second, .val (.int (0 : Int32)), .val (.int (1 : Int32)), .val (.double (own_snd dx q0)), .second, .val (.double hi0), .second, .val (.double lo0), .second] [(.ref ar), (.int (0 : Int32))])) _
        refine X17.arraylength hx (by rw [e17]; exact Ar18.1) (State.isArrayOf_alike hZ.alike Ar18.2.1) (g := (mkF m 98 #[.val (.ref a1), .val (.double dx), .second, .val (.double hi0), .second, .val (.int (0 : Int32)), .val (.int (1 : Int32)), .val (.double (own_snd dx q0)), .second, .val (.double hi0), .second, .val (.double lo0), .second] [(.ref ar), (.int (0 : Int32))])) rfl rfl (hb hby d_prog_8_2_98) _ ?_
        rw [len_of Sz18 Ng18]
        show Steps p.tables e below (T17.setTop (mkF m 99 #[.val (.ref a1), .val (.double dx), .second, .val (.double hi0), .second, .val (.int (0 : Int32)), .val (.int (1 : Int32)), .val (.double (own_snd dx q0)), .second, .val (.double hi0), .second, .val (.double lo0), .second] [(.int (4 : Int32)), (.int (0 : Int32))])) _
        refine own_f_icmpYes X17.here hx (hb hby d_prog_8_2_99) (feq (by decide)).2 (by decide) (by decide : _ = 117) ?_
        refine own_f_aloadN X17.here hx (hb hby d_prog_8_2_117) rfl rfl (rfl : _ = 118) ?_
        refine st19 _ ?_
        show Steps p.tables e below (T19.setTop (mkF m 121 #[.val (.ref a1), .val (.double dx), .second, .val (.double hi0), .second, .val (.int (0 : Int32)), .val (.int (1 : Int32)), .val (.double (own_snd dx q0)), .second, .val (.double hi0), .second, .val (.double lo0), .second] [(.ref ar)])) _
        refine own_f_iload X19.here hx (hb hby d_prog_8_2_121) rfl (rfl : _ = 123) ?_
        refine own_f_iinc X19.here hx (hb hby d_prog_8_2_123) rfl (rfl : storeLocals _ _ _ = some #[.val (.ref a1), .val (.double dx), .second, .val (.double hi0), .second, .val (.int (1 : Int32)), .val (.int (1 : Int32)), .val (.double (own_snd dx q0)), .second, .val (.double hi0), .second, .val (.double lo0), .second]) (rfl : _ = 126) ?_
        refine own_f_dloadN X19.here hx (hb hby d_prog_8_2_126) rfl (rfl : _ = 127) ?_
        refine st21 _ ?_
        show Steps p.tables e below (T21.setTop (mkF m 128 #[.val (.ref a1), .val (.double dx), .second, .val (.double hi0), .second, .val (.int (1 : Int32)), .val (.int (1 : Int32)), .val (.double (own_snd dx q0)), .second, .val (.double hi0), .second, .val (.double lo0), .second] [])) _
        refine own_f_aloadN X21.here hx (hb hby d_prog_8_2_128) rfl rfl (rfl : _ = 129) ?_
        refine own_f_iload X21.here hx (hb hby d_prog_8_2_129) rfl (rfl : _ = 131) ?_
        refine st22 _ ?_
        show Steps p.tables e below (T22.setTop (mkF m 134 #[.val (.ref a1), .val (.double dx), .second, .val (.double hi0), .second, .val (.int (1 : Int32)), .val (.int (1 : Int32)), .val (.double (own_snd dx q0)), .second, .val (.double hi0), .second, .val (.double lo0), .second] [])) _
        exact X22.returnOut hx Bd.returns (hb hby d_prog_8_2_134) hr
      · show Q2 Z a1 dx _ ar kc q0 q1 q2 q3 _ h0 n0 _ T22.heap _
        rw [e22]
        exact ⟨(1 : Int32), hi0, q1, q2, q3, rfl, N22, KK, Fp, Fs, Va, own_res (M := [hi0]) (by rw [own_ins_d hlo0 hhi0 hz0]; rfl) (by show Int32.toInt 1 = ((1 : Nat) : Int); decide) rfl⟩
    · obtain ⟨T23, X23, e23, st23⟩ := getF X12 hx hZ hown (host := "") (Or.inl (hw _ (List.mem_of_getElem? (i := 10) rfl))) Via.refl e12 Fp (g := (mkF m 72 #[.val (.ref a1), .val (.double dx), .second, .val (.double (own_fst dx q0)), .second, .val (.int (0 : Int32)), .val (.int (0 : Int32)), .val (.double (own_snd dx q0)), .second, .val (.double hi0), .second, .val (.double lo0), .second] [(.ref a1)])) rfl rfl (hb hby d_prog_8_2_72)
      obtain ⟨cl24, Ar24, q24, Sz24, Ng24, Hs24, Gs24⟩ := Va
      have hin24 : ¬ ((0 : Int32) < 0 ∨ cl24.slots.size ≤ ((0 : Int32)).toNatClampNeg) := inb_of Sz24 ⟨by decide, by decide⟩
      obtain ⟨T25, h25, X25, e25, W25, st25⟩ := stD X23 hx hZ e23 Ar24 (j := (0 : Int32)) hin24 (g := (mkF m 82 #[.val (.ref a1), .val (.double dx), .second, .val (.double (own_fst dx q0)), .second, .val (.int (1 : Int32)), .val (.int (0 : Int32)), .val (.double (own_snd dx q0)), .second, .val (.double hi0), .second, .val (.double lo0), .second] [(.double lo0), (.int (0 : Int32)), (.ref ar)])) rfl rfl (hb hby d_prog_8_2_82)
      replace Ea := Ea.wr W25
      replace Fp := Fp.other W25 (Or.inl hne)
      replace Fs := Fs.other W25 (Or.inl hne)
      have Zs25 := Nat.le_trans Z0 (Keep.of_wr W25).1
      replace KK := KK.wr W25 (Or.inl (by simp))
      have Va : Arv Z h25 ar kc .double (4 : Int32) [(.double lo0), (.double q1), (.double q2), (.double q3)] (.double (0 : UInt64)) := Arv.set Ar24 q24 Sz24 Ng24 Hs24 Gs24 rfl W25 0 rfl (Nat.le_of_ble_eq_true rfl)
      have N25 := Fr.snoc X25 N0 g_ar
      obtain ⟨T26, X26, e26, st26⟩ := getF X25 hx hZ hown (host := "") (Or.inl (hw _ (List.mem_of_getElem? (i := 17) rfl))) Via.refl e25 Fs (g := (mkF m 11 #[.val (.ref a1), .val (.double dx), .second, .val (.double hi0), .second, .val (.int (1 : Int32)), .val (.int (1 : Int32)), .val (.double (own_snd dx q0)), .second, .val (.double hi0), .second, .val (.double lo0), .second] [(.ref a1), (.int (1 : Int32))])) rfl rfl (hb hby d_prog_8_2_11)
      obtain ⟨T27, X27, e27, st27⟩ := getF X26 hx hZ hown (host := "") (Or.inl (hw _ (List.mem_of_getElem? (i := 10) rfl))) Via.refl e26 Fp (g := (mkF m 95 #[.val (.ref a1), .val (.double dx), .second, .val (.double hi0), .second, .val (.int (1 : Int32)), .val (.int (1 : Int32)), .val (.double (own_snd dx q0)), .second, .val (.double hi0), .second, .val (.double lo0), .second] [(.ref a1), (.int (1 : Int32))])) rfl rfl (hb hby d_prog_8_2_95)
      obtain ⟨cl28, Ar28, -, Sz28, Ng28, -, -⟩ := id Va
      obtain ⟨T29, X29, e29, st29⟩ := getF X27 hx hZ hown (host := "") (Or.inl (hw _ (List.mem_of_getElem? (i := 10) rfl))) Via.refl e27 Fp (g := (mkF m 118 #[.val (.ref a1), .val (.double dx), .second, .val (.double hi0), .second, .val (.int (1 : Int32)), .val (.int (1 : Int32)), .val (.double (own_snd dx q0)), .second, .val (.double hi0), .second, .val (.double lo0), .second] [(.ref a1)])) rfl rfl (hb hby d_prog_8_2_118)
      obtain ⟨cl30, Ar30, q30, Sz30, Ng30, Hs30, Gs30⟩ := Va
      have hin30 : ¬ ((1 : Int32) < 0 ∨ cl30.slots.size ≤ ((1 : Int32)).toNatClampNeg) := inb_of Sz30 ⟨by decide, by decide⟩
      obtain ⟨T31, h31, X31, e31, W31, st31⟩ := stD X29 hx hZ e29 Ar30 (j := (1 : Int32)) hin30 (g := (mkF m 127 #[.val (.ref a1), .val (.double dx), .second, .val (.double hi0), .second, .val (.int (2 : Int32)), .val (.int (1 : Int32)), .val (.double (own_snd dx q0)), .second, .val (.double hi0), .second, .val (.double lo0), .second] [(.double hi0), (.int (1 : Int32)), (.ref ar)])) rfl rfl (hb hby d_prog_8_2_127)
      replace Ea := Ea.wr W31
      replace Fp := Fp.other W31 (Or.inl hne)
      replace Fs := Fs.other W31 (Or.inl hne)
      have Zs31 := Nat.le_trans Zs25 (Keep.of_wr W31).1
      replace KK := KK.wr W31 (Or.inl (by simp))
      have Va : Arv Z h31 ar kc .double (4 : Int32) [(.double lo0), (.double hi0), (.double q2), (.double q3)] (.double (0 : UInt64)) := Arv.set Ar30 q30 Sz30 Ng30 Hs30 Gs30 rfl W31 1 rfl (Nat.le_of_ble_eq_true rfl)
      have N31 := Fr.snoc X31 N25 g_ar
      obtain ⟨T32, h32, X32, e32, W32, st32⟩ := putF X31 hx hZ hown (host := "") (Or.inl (hw _ (List.mem_of_getElem? (i := 17) rfl))) Via.refl e31 Fs Ea (Or.inl (hw _ (List.mem_of_getElem? (i := 18) rfl))) (hw _ (List.mem_of_getElem? (i := 1) rfl)) (ty := .int) (by decide) rfl rfl (g := (mkF m 131 #[.val (.ref a1), .val (.double dx), .second, .val (.double hi0), .second, .val (.int (2 : Int32)), .val (.int (1 : Int32)), .val (.double (own_snd dx q0)), .second, .val (.double hi0), .second, .val (.double lo0), .second] [(.int (2 : Int32)), (.ref a1)])) rfl rfl (hb hby d_prog_8_2_131)
      replace Ea := Ea.wr W32
      replace Fp := Fp.other W32 (Or.inr (slot_ne (Or.inl (hw _ (List.mem_of_getElem? (i := 11) rfl))) (Or.inl (hw _ (List.mem_of_getElem? (i := 18) rfl))) (by decide) (t := (.array .double)) (t' := .int) (by decide) (by decide)))
      replace Va := Va.other W32 (Ne.symm hne)
      have Zs32 := Nat.le_trans Zs31 (Keep.of_wr W32).1
      replace KK := KK.wr W32 (Or.inl (by simp))
      replace Fs := Fs.same W32
      have N32 := Fr.snoc X32 N31 g_a1
      obtain ⟨fs, hr, hrun, hended, hW, hsame⟩ := X32.leave (v := none) (fun _ => rfl) hlk
      refine ⟨_, _, ?_, hrun, hended, _, _, rfl, ?_, ⟨_, rfl⟩, hW, hsame.mono (by decide) (by decide)⟩
      · refine hA0 _ ?_
        refine k15 _ ?_
        refine own_f_ifNo X12.here hx (hb hby d_prog_8_2_68) ((if0 _ _).trans (feq (hz0)).1) (rfl : _ = 71) ?_
        refine own_f_aloadN X12.here hx (hb hby d_prog_8_2_71) rfl rfl (rfl : _ = 72) ?_
        refine st23 _ ?_
        show Steps p.tables e below (T23.setTop (mkF m 75 #[.val (.ref a1), .val (.double dx), .second, .val (.double (own_fst dx q0)), .second, .val (.int (0 : Int32)), .val (.int (0 : Int32)), .val (.double (own_snd dx q0)), .second, .val (.double hi0), .second, .val (.double lo0), .second] [(.ref ar)])) _
        refine own_f_iload X23.here hx (hb hby d_prog_8_2_75) rfl (rfl : _ = 77) ?_
        refine own_f_iinc X23.here hx (hb hby d_prog_8_2_77) rfl (rfl : storeLocals _ _ _ = some #[.val (.ref a1), .val (.double dx), .second, .val (.double (own_fst dx q0)), .second, .val (.int (1 : Int32)), .val (.int (0 : Int32)), .val (.double (own_snd dx q0)), .second, .val (.double hi0), .second, .val (.double lo0), .second]) (rfl : _ = 80) ?_
        refine own_f_dload X23.here hx (hb hby d_prog_8_2_80) rfl (rfl : _ = 82) ?_
        refine st25 _ ?_
        show Steps p.tables e below (T25.setTop (mkF m 83 #[.val (.ref a1), .val (.double dx), .second, .val (.double (own_fst dx q0)), .second, .val (.int (1 : Int32)), .val (.int (0 : Int32)), .val (.double (own_snd dx q0)), .second, .val (.double hi0), .second, .val (.double lo0), .second] [])) _
        refine own_f_dload X25.here hx (hb hby d_prog_8_2_83) rfl (rfl : _ = 85) ?_
        refine own_f_dstoreN X25.here hx (hb hby d_prog_8_2_85) (rfl : storeLocals _ _ _ = some #[.val (.ref a1), .val (.double dx), .second, .val (.double hi0), .second, .val (.int (1 : Int32)), .val (.int (0 : Int32)), .val (.double (own_snd dx q0)), .second, .val (.double hi0), .second, .val (.double lo0), .second]) (rfl : _ = 86) ?_
        refine own_f_iinc X25.here hx (hb hby d_prog_8_2_86) rfl (rfl : storeLocals _ _ _ = some #[.val (.ref a1), .val (.double dx), .second, .val (.double hi0), .second, .val (.int (1 : Int32)), .val (.int (1 : Int32)), .val (.double (own_snd dx q0)), .second, .val (.double hi0), .second, .val (.double lo0), .second]) (rfl : _ = 89) ?_
        refine own_f_goto X25.here hx (hb hby d_prog_8_2_89) (by decide) (by decide : _ = 8) ?_
        refine own_f_iload X25.here hx (hb hby d_prog_8_2_8) rfl (rfl : _ = 10) ?_
        refine own_f_aloadN X25.here hx (hb hby d_prog_8_2_10) rfl rfl (rfl : _ = 11) ?_
        refine st26 _ ?_
        show Steps p.tables e below (T26.setTop (mkF m 14 #[.val (.ref a1), .val (.double dx), .second, .val (.double hi0), .second, .val (.int (1 : Int32)), .val (.int (1 : Int32)), .val (.double (own_snd dx q0)), .second, .val (.double hi0), .second, .val (.double lo0), .second] [(.int (1 : Int32)), (.int (1 : Int32))])) _
        refine own_f_icmpYes X26.here hx (hb hby d_prog_8_2_14) (flt (by decide)).2.1 (by decide) (by decide : _ = 92) ?_
        refine own_f_iload X26.here hx (hb hby d_prog_8_2_92) rfl (rfl : _ = 94) ?_
        refine own_f_aloadN X26.here hx (hb hby d_prog_8_2_94) rfl rfl (rfl : _ = 95) ?_
        refine st27 _ ?_
        show Steps p.tables e below (T27.setTop (mkF m 98 #[.val (.ref a1), .val (.double dx), .second, .val (.double hi0), .second, .val (.int (1 : Int32)), .val (.int (1 : Int32)), .val (.double (own_snd dx q0)), .second, .val (.double hi0), .second, .val (.double lo0), .second] [(.ref ar), (.int (1 : Int32))])) _
        refine X27.arraylength hx (by rw [e27]; exact Ar28.1) (State.isArrayOf_alike hZ.alike Ar28.2.1) (g := (mkF m 98 #[.val (.ref a1), .val (.double dx), .second, .val (.double hi0), .second, .val (.int (1 : Int32)), .val (.int (1 : Int32)), .val (.double (own_snd dx q0)), .second, .val (.double hi0), .second, .val (.double lo0), .second] [(.ref ar), (.int (1 : Int32))])) rfl rfl (hb hby d_prog_8_2_98) _ ?_
        rw [len_of Sz28 Ng28]
        show Steps p.tables e below (T27.setTop (mkF m 99 #[.val (.ref a1), .val (.double dx), .second, .val (.double hi0), .second, .val (.int (1 : Int32)), .val (.int (1 : Int32)), .val (.double (own_snd dx q0)), .second, .val (.double hi0), .second, .val (.double lo0), .second] [(.int (4 : Int32)), (.int (1 : Int32))])) _
        refine own_f_icmpYes X27.here hx (hb hby d_prog_8_2_99) (feq (by decide)).2 (by decide) (by decide : _ = 117) ?_
        refine own_f_aloadN X27.here hx (hb hby d_prog_8_2_117) rfl rfl (rfl : _ = 118) ?_
        refine st29 _ ?_
        show Steps p.tables e below (T29.setTop (mkF m 121 #[.val (.ref a1), .val (.double dx), .second, .val (.double hi0), .second, .val (.int (1 : Int32)), .val (.int (1 : Int32)), .val (.double (own_snd dx q0)), .second, .val (.double hi0), .second, .val (.double lo0), .second] [(.ref ar)])) _
        refine own_f_iload X29.here hx (hb hby d_prog_8_2_121) rfl (rfl : _ = 123) ?_
        refine own_f_iinc X29.here hx (hb hby d_prog_8_2_123) rfl (rfl : storeLocals _ _ _ = some #[.val (.ref a1), .val (.double dx), .second, .val (.double hi0), .second, .val (.int (2 : Int32)), .val (.int (1 : Int32)), .val (.double (own_snd dx q0)), .second, .val (.double hi0), .second, .val (.double lo0), .second]) (rfl : _ = 126) ?_
        refine own_f_dloadN X29.here hx (hb hby d_prog_8_2_126) rfl (rfl : _ = 127) ?_
        refine st31 _ ?_
        show Steps p.tables e below (T31.setTop (mkF m 128 #[.val (.ref a1), .val (.double dx), .second, .val (.double hi0), .second, .val (.int (2 : Int32)), .val (.int (1 : Int32)), .val (.double (own_snd dx q0)), .second, .val (.double hi0), .second, .val (.double lo0), .second] [])) _
        refine own_f_aloadN X31.here hx (hb hby d_prog_8_2_128) rfl rfl (rfl : _ = 129) ?_
        refine own_f_iload X31.here hx (hb hby d_prog_8_2_129) rfl (rfl : _ = 131) ?_
        refine st32 _ ?_
        show Steps p.tables e below (T32.setTop (mkF m 134 #[.val (.ref a1), .val (.double dx), .second, .val (.double hi0), .second, .val (.int (2 : Int32)), .val (.int (1 : Int32)), .val (.double (own_snd dx q0)), .second, .val (.double hi0), .second, .val (.double lo0), .second] [])) _
        exact X32.returnOut hx Bd.returns (hb hby d_prog_8_2_134) hr
      · show Q2 Z a1 dx _ ar kc q0 q1 q2 q3 _ h0 n0 _ T32.heap _
        rw [e32]
        exact ⟨(2 : Int32), lo0, hi0, q2, q3, rfl, N32, KK, Fp, Fs, Va, own_res (M := [lo0, hi0]) (by rw [own_ins_c hlo0 hhi0 hz0]; rfl) (by show Int32.toInt 2 = ((2 : Nat) : Int); decide) rfl⟩
  · obtain rfl : qs = [q0, q1] := own_qs hq 2 (by decide)
    obtain ⟨T33, X33, e33, st33⟩ := getF X0 hx hZ hown (host := "") (Or.inl (hw _ (List.mem_of_getElem? (i := 17) rfl))) Via.refl e0 Fs (g := (mkF m 11 #[.val (.ref a1), .val (.double dx), .second, .val (.double dx), .second, .val (.int (0 : Int32)), .val (.int (0 : Int32)), .unset, .unset, .unset, .unset, .unset, .unset] [(.ref a1), (.int (0 : Int32))])) rfl rfl (hb hby d_prog_8_2_11)
    obtain ⟨T34, X34, e34, st34⟩ := getF X33 hx hZ hown (host := "") (Or.inl (hw _ (List.mem_of_getElem? (i := 10) rfl))) Via.refl e33 Fp (g := (mkF m 18 #[.val (.ref a1), .val (.double dx), .second, .val (.double dx), .second, .val (.int (0 : Int32)), .val (.int (0 : Int32)), .unset, .unset, .unset, .unset, .unset, .unset] [(.ref a1)])) rfl rfl (hb hby d_prog_8_2_18)
    obtain ⟨cl35, Ar35, -, Sz35, Ng35, Hs35, -⟩ := id Va
    have hin35 : ¬ ((0 : Int32) < 0 ∨ cl35.slots.size ≤ ((0 : Int32)).toNatClampNeg) := inb_of Sz35 ⟨by decide, by decide⟩
    have hat35 : cl35.slots[((0 : Int32)).toNatClampNeg]? = some (.double q0) := Hs35 _ (Nat.lt_of_not_le fun q => hin35 (Or.inr q))
    obtain ⟨⟨nx0, nq0⟩, na0, nb0, nc0, -⟩ := own_nn hnn
    obtain ⟨T36, X36, e36, st36⟩ := natS X34 hx hZ hown (hw _ (List.mem_of_getElem? (i := 19) rfl)) (hw _ (List.mem_of_getElem? (i := 20) rfl)) (hw _ (List.mem_of_getElem? (i := 21) rfl)) (hw _ (List.mem_of_getElem? (i := 22) rfl)) (by decide) e34 (W := 0) (val' := (.double (dx &&& 0x7fffffffffffffff))) (fun c => Jvm.Free.Fl.Abs.absD_pays dx c (by decide) (by decide)) (g := (mkF m 27 #[.val (.ref a1), .val (.double dx), .second, .val (.double dx), .second, .val (.int (0 : Int32)), .val (.int (0 : Int32)), .val (.double q0), .second, .unset, .unset, .unset, .unset] [(.double dx)])) rfl (by rw [hml]; rfl) (argsL := [(.double dx)]) (rest := []) (lenOf pd_0 rfl) rfl (by show 2 * 0 + _ ≤ _; exact Nat.le_of_eq rfl) (hb hby d_prog_8_2_27) (by decide) (by decide) ⟨rfl, nx0⟩ rfl
    obtain ⟨T37, X37, e37, st37⟩ := natS X36 hx hZ hown (hw _ (List.mem_of_getElem? (i := 19) rfl)) (hw _ (List.mem_of_getElem? (i := 20) rfl)) (hw _ (List.mem_of_getElem? (i := 21) rfl)) (hw _ (List.mem_of_getElem? (i := 22) rfl)) (by decide) e36 (W := 2) (val' := (.double (q0 &&& 0x7fffffffffffffff))) (fun c => Jvm.Free.Fl.Abs.absD_pays q0 c (by decide) (by decide)) (g := (mkF m 32 #[.val (.ref a1), .val (.double dx), .second, .val (.double dx), .second, .val (.int (0 : Int32)), .val (.int (0 : Int32)), .val (.double q0), .second, .unset, .unset, .unset, .unset] [(.double q0), (.double (dx &&& 0x7fffffffffffffff))])) rfl (by rw [hml]; rfl) (argsL := [(.double q0)]) (rest := [(.double (dx &&& 0x7fffffffffffffff))]) (lenOf pd_0 rfl) rfl (by show 2 * 0 + _ ≤ _; exact Nat.le_of_eq rfl) (hb hby d_prog_8_2_32) (by decide) (by decide) ⟨rfl, nq0⟩ rfl
    have k38 : ∀ t_, Steps p.tables e below (T37.setTop (mkF m 36 #[.val (.ref a1), .val (.double dx), .second, .val (.double dx), .second, .val (.int (0 : Int32)), .val (.int (0 : Int32)), .val (.double q0), .second, .unset, .unset, .unset, .unset] [(.int (cmpValue (FP.dcmp (dx &&& 0x7fffffffffffffff) (q0 &&& 0x7fffffffffffffff)) .g))])) t_ → Steps p.tables e below A t_ := by
      intro t_ ht_
      refine k0 t_ ?_
      refine own_f_dloadN X0.here hx (hb hby d_prog_8_2_0) rfl (rfl : _ = 1) ?_
      refine own_f_dstoreN X0.here hx (hb hby d_prog_8_2_1) (rfl : storeLocals _ _ _ = some #[.val (.ref a1), .val (.double dx), .second, .val (.double dx), .second, .unset, .unset, .unset, .unset, .unset, .unset, .unset, .unset]) (rfl : _ = 2) ?_
      refine own_f_iconst X0.here hx (hb hby d_prog_8_2_2) (rfl : _ = (0 : Int32)) (rfl : _ = 3) ?_
      refine own_f_istore X0.here hx (hb hby d_prog_8_2_3) (rfl : storeLocals _ _ _ = some #[.val (.ref a1), .val (.double dx), .second, .val (.double dx), .second, .val (.int (0 : Int32)), .unset, .unset, .unset, .unset, .unset, .unset, .unset]) (rfl : _ = 5) ?_
      refine own_f_iconst X0.here hx (hb hby d_prog_8_2_5) (rfl : _ = (0 : Int32)) (rfl : _ = 6) ?_
      refine own_f_istore X0.here hx (hb hby d_prog_8_2_6) (rfl : storeLocals _ _ _ = some #[.val (.ref a1), .val (.double dx), .second, .val (.double dx), .second, .val (.int (0 : Int32)), .val (.int (0 : Int32)), .unset, .unset, .unset, .unset, .unset, .unset]) (rfl : _ = 8) ?_
      refine own_f_iload X0.here hx (hb hby d_prog_8_2_8) rfl (rfl : _ = 10) ?_
      refine own_f_aloadN X0.here hx (hb hby d_prog_8_2_10) rfl rfl (rfl : _ = 11) ?_
      refine st33 _ ?_
      show Steps p.tables e below (T33.setTop (mkF m 14 #[.val (.ref a1), .val (.double dx), .second, .val (.double dx), .second, .val (.int (0 : Int32)), .val (.int (0 : Int32)), .unset, .unset, .unset, .unset, .unset, .unset] [(.int (2 : Int32)), (.int (0 : Int32))])) t_
      refine own_f_icmpNo X33.here hx (hb hby d_prog_8_2_14) (tlt (by decide)).2.1 (rfl : _ = 17) ?_
      refine own_f_aloadN X33.here hx (hb hby d_prog_8_2_17) rfl rfl (rfl : _ = 18) ?_
      refine st34 _ ?_
      show Steps p.tables e below (T34.setTop (mkF m 21 #[.val (.ref a1), .val (.double dx), .second, .val (.double dx), .second, .val (.int (0 : Int32)), .val (.int (0 : Int32)), .unset, .unset, .unset, .unset, .unset, .unset] [(.ref ar)])) t_
      refine own_f_iload X34.here hx (hb hby d_prog_8_2_21) rfl (rfl : _ = 23) ?_
      refine X34.daload hx (j := (0 : Int32)) (v := (.double q0)) (by rw [e34]; exact Ar35.1) (State.isArrayOf_alike hZ.alike Ar35.2.1) Ar35.2.2 hin35 hat35 (g := (mkF m 23 #[.val (.ref a1), .val (.double dx), .second, .val (.double dx), .second, .val (.int (0 : Int32)), .val (.int (0 : Int32)), .unset, .unset, .unset, .unset, .unset, .unset] [(.int (0 : Int32)), (.ref ar)])) rfl rfl (hb hby d_prog_8_2_23) _ ?_
      show Steps p.tables e below (T34.setTop (mkF m 24 #[.val (.ref a1), .val (.double dx), .second, .val (.double dx), .second, .val (.int (0 : Int32)), .val (.int (0 : Int32)), .unset, .unset, .unset, .unset, .unset, .unset] [(.double q0)])) t_
      refine own_f_dstore X34.here hx (hb hby d_prog_8_2_24) (rfl : storeLocals _ _ _ = some #[.val (.ref a1), .val (.double dx), .second, .val (.double dx), .second, .val (.int (0 : Int32)), .val (.int (0 : Int32)), .val (.double q0), .second, .unset, .unset, .unset, .unset]) (rfl : _ = 26) ?_
      refine own_f_dloadN X34.here hx (hb hby d_prog_8_2_26) rfl (rfl : _ = 27) ?_
      refine st36 _ ?_
      show Steps p.tables e below (T36.setTop (mkF m 30 #[.val (.ref a1), .val (.double dx), .second, .val (.double dx), .second, .val (.int (0 : Int32)), .val (.int (0 : Int32)), .val (.double q0), .second, .unset, .unset, .unset, .unset] [(.double (dx &&& 0x7fffffffffffffff))])) t_
      refine own_f_dload X36.here hx (hb hby d_prog_8_2_30) rfl (rfl : _ = 32) ?_
      refine st37 _ ?_
      show Steps p.tables e below (T37.setTop (mkF m 35 #[.val (.ref a1), .val (.double dx), .second, .val (.double dx), .second, .val (.int (0 : Int32)), .val (.int (0 : Int32)), .val (.double q0), .second, .unset, .unset, .unset, .unset] [(.double (q0 &&& 0x7fffffffffffffff)), (.double (dx &&& 0x7fffffffffffffff))])) t_
      refine own_f_dcmp X37.here hx (hb hby d_prog_8_2_35) rfl (rfl : _ = 36) ?_
      exact ht_
    have k39 : ∀ t_, Steps p.tables e below (T37.setTop (mkF m 64 #[.val (.ref a1), .val (.double dx), .second, .val (.double (own_fst dx q0)), .second, .val (.int (0 : Int32)), .val (.int (0 : Int32)), .val (.double (own_snd dx q0)), .second, .val (.double (FP.dadd (own_fst dx q0) (own_snd dx q0))), .second, .val (.double (own_lo (own_fst dx q0) (own_snd dx q0))), .second] [])) t_ → Steps p.tables e below A t_ := by
      intro t_ ht_
      refine k38 t_ ?_
      by_cases hsw : own_lt dx q0
      · have e1 : own_fst dx q0 = q0 := if_pos hsw
        have e2 : own_snd dx q0 = dx := if_pos hsw
        rw [e1, e2] at ht_ na0 nb0 nc0
        have hs_ : (cmpValue (FP.dcmp (dx &&& 0x7fffffffffffffff) (q0 &&& 0x7fffffffffffffff)) .g) < (0 : Int32) := hsw
        refine own_f_ifNo X37.here hx (hb hby d_prog_8_2_36) ((if0 _ _).trans (tlt (hs_)).2.1) (rfl : _ = 39) ?_
        refine own_f_dload X37.here hx (hb hby d_prog_8_2_39) rfl (rfl : _ = 41) ?_
        refine own_f_dstore X37.here hx (hb hby d_prog_8_2_41) (rfl : storeLocals _ _ _ = some #[.val (.ref a1), .val (.double dx), .second, .val (.double dx), .second, .val (.int (0 : Int32)), .val (.int (0 : Int32)), .val (.double q0), .second, .val (.double q0), .second, .unset, .unset]) (rfl : _ = 43) ?_
        refine own_f_dloadN X37.here hx (hb hby d_prog_8_2_43) rfl (rfl : _ = 44) ?_
        refine own_f_dstore X37.here hx (hb hby d_prog_8_2_44) (rfl : storeLocals _ _ _ = some #[.val (.ref a1), .val (.double dx), .second, .val (.double dx), .second, .val (.int (0 : Int32)), .val (.int (0 : Int32)), .val (.double dx), .second, .val (.double q0), .second, .unset, .unset]) (rfl : _ = 46) ?_
        refine own_f_dload X37.here hx (hb hby d_prog_8_2_46) rfl (rfl : _ = 48) ?_
        refine own_f_dstoreN X37.here hx (hb hby d_prog_8_2_48) (rfl : storeLocals _ _ _ = some #[.val (.ref a1), .val (.double dx), .second, .val (.double q0), .second, .val (.int (0 : Int32)), .val (.int (0 : Int32)), .val (.double dx), .second, .val (.double q0), .second, .unset, .unset]) (rfl : _ = 49) ?_
        refine own_f_dloadN X37.here hx (hb hby d_prog_8_2_49) rfl (rfl : _ = 50) ?_
        refine own_f_dload X37.here hx (hb hby d_prog_8_2_50) rfl (rfl : _ = 52) ?_
        refine own_f_dadd X37.here hx (hb hby d_prog_8_2_52) (na0) rfl (rfl : _ = 53) ?_
        refine own_f_dstore X37.here hx (hb hby d_prog_8_2_53) (rfl : storeLocals _ _ _ = some #[.val (.ref a1), .val (.double dx), .second, .val (.double q0), .second, .val (.int (0 : Int32)), .val (.int (0 : Int32)), .val (.double dx), .second, .val (.double (FP.dadd q0 dx)), .second, .unset, .unset]) (rfl : _ = 55) ?_
        refine own_f_dload X37.here hx (hb hby d_prog_8_2_55) rfl (rfl : _ = 57) ?_
        refine own_f_dload X37.here hx (hb hby d_prog_8_2_57) rfl (rfl : _ = 59) ?_
        refine own_f_dloadN X37.here hx (hb hby d_prog_8_2_59) rfl (rfl : _ = 60) ?_
        refine own_f_dsub X37.here hx (hb hby d_prog_8_2_60) (nb0) rfl (rfl : _ = 61) ?_
        refine own_f_dsub X37.here hx (hb hby d_prog_8_2_61) (nc0) rfl (rfl : _ = 62) ?_
        refine own_f_dstore X37.here hx (hb hby d_prog_8_2_62) (rfl : storeLocals _ _ _ = some #[.val (.ref a1), .val (.double dx), .second, .val (.double q0), .second, .val (.int (0 : Int32)), .val (.int (0 : Int32)), .val (.double dx), .second, .val (.double (FP.dadd q0 dx)), .second, .val (.double (FP.dsub dx (FP.dsub (FP.dadd q0 dx) q0))), .second]) (rfl : _ = 64) ?_
        exact ht_
      · have e1 : own_fst dx q0 = dx := if_neg hsw
        have e2 : own_snd dx q0 = q0 := if_neg hsw
        rw [e1, e2] at ht_ na0 nb0 nc0
        have hs_ : ¬ ((cmpValue (FP.dcmp (dx &&& 0x7fffffffffffffff) (q0 &&& 0x7fffffffffffffff)) .g) < (0 : Int32)) := hsw
        refine own_f_ifYes X37.here hx (hb hby d_prog_8_2_36) ((if0 _ _).trans (flt (hs_)).2.1) (by decide) (by decide : _ = 49) ?_
        refine own_f_dloadN X37.here hx (hb hby d_prog_8_2_49) rfl (rfl : _ = 50) ?_
        refine own_f_dload X37.here hx (hb hby d_prog_8_2_50) rfl (rfl : _ = 52) ?_
        refine own_f_dadd X37.here hx (hb hby d_prog_8_2_52) (na0) rfl (rfl : _ = 53) ?_
        refine own_f_dstore X37.here hx (hb hby d_prog_8_2_53) (rfl : storeLocals _ _ _ = some #[.val (.ref a1), .val (.double dx), .second, .val (.double dx), .second, .val (.int (0 : Int32)), .val (.int (0 : Int32)), .val (.double q0), .second, .val (.double (FP.dadd dx q0)), .second, .unset, .unset]) (rfl : _ = 55) ?_
        refine own_f_dload X37.here hx (hb hby d_prog_8_2_55) rfl (rfl : _ = 57) ?_
        refine own_f_dload X37.here hx (hb hby d_prog_8_2_57) rfl (rfl : _ = 59) ?_
        refine own_f_dloadN X37.here hx (hb hby d_prog_8_2_59) rfl (rfl : _ = 60) ?_
        refine own_f_dsub X37.here hx (hb hby d_prog_8_2_60) (nb0) rfl (rfl : _ = 61) ?_
        refine own_f_dsub X37.here hx (hb hby d_prog_8_2_61) (nc0) rfl (rfl : _ = 62) ?_
        refine own_f_dstore X37.here hx (hb hby d_prog_8_2_62) (rfl : storeLocals _ _ _ = some #[.val (.ref a1), .val (.double dx), .second, .val (.double dx), .second, .val (.int (0 : Int32)), .val (.int (0 : Int32)), .val (.double q0), .second, .val (.double (FP.dadd dx q0)), .second, .val (.double (FP.dsub q0 (FP.dsub (FP.dadd dx q0) dx))), .second]) (rfl : _ = 64) ?_
        exact ht_
    obtain ⟨hi0, hhi0⟩ : ∃ z : UInt64, z = (FP.dadd (own_fst dx q0) (own_snd dx q0)) := ⟨_, rfl⟩
    rw [← hhi0] at k39
    obtain ⟨lo0, hlo0⟩ : ∃ z : UInt64, z = (own_lo (own_fst dx q0) (own_snd dx q0)) := ⟨_, rfl⟩
    rw [← hlo0] at k39
    replace hnn := own_nn' hhi0 hnn
    have k40 : ∀ t_, Steps p.tables e below (T37.setTop (mkF m 68 #[.val (.ref a1), .val (.double dx), .second, .val (.double (own_fst dx q0)), .second, .val (.int (0 : Int32)), .val (.int (0 : Int32)), .val (.double (own_snd dx q0)), .second, .val (.double hi0), .second, .val (.double lo0), .second] [(.int (cmpValue (FP.dcmp lo0 (0 : UInt64)) .l))])) t_ → Steps p.tables e below A t_ := by
      intro t_ ht_
      refine k39 t_ ?_
      refine own_f_dload X37.here hx (hb hby d_prog_8_2_64) rfl (rfl : _ = 66) ?_
      refine own_f_dconst0 X37.here hx (hb hby d_prog_8_2_66) (rfl : _ = (0 : UInt64)) (rfl : _ = 67) ?_
      refine own_f_dcmp X37.here hx (hb hby d_prog_8_2_67) rfl (rfl : _ = 68) ?_
      exact ht_
    by_cases hz0 : (cmpValue (FP.dcmp lo0 (0 : UInt64)) .l) = (0 : Int32)
    · obtain ⟨T41, X41, e41, st41⟩ := getF X37 hx hZ hown (host := "") (Or.inl (hw _ (List.mem_of_getElem? (i := 17) rfl))) Via.refl e37 Fs (g := (mkF m 11 #[.val (.ref a1), .val (.double dx), .second, .val (.double hi0), .second, .val (.int (0 : Int32)), .val (.int (1 : Int32)), .val (.double (own_snd dx q0)), .second, .val (.double hi0), .second, .val (.double lo0), .second] [(.ref a1), (.int (1 : Int32))])) rfl rfl (hb hby d_prog_8_2_11)
      obtain ⟨T42, X42, e42, st42⟩ := getF X41 hx hZ hown (host := "") (Or.inl (hw _ (List.mem_of_getElem? (i := 10) rfl))) Via.refl e41 Fp (g := (mkF m 18 #[.val (.ref a1), .val (.double dx), .second, .val (.double hi0), .second, .val (.int (0 : Int32)), .val (.int (1 : Int32)), .val (.double (own_snd dx q0)), .second, .val (.double hi0), .second, .val (.double lo0), .second] [(.ref a1)])) rfl rfl (hb hby d_prog_8_2_18)
      obtain ⟨cl43, Ar43, -, Sz43, Ng43, Hs43, -⟩ := id Va
      have hin43 : ¬ ((1 : Int32) < 0 ∨ cl43.slots.size ≤ ((1 : Int32)).toNatClampNeg) := inb_of Sz43 ⟨by decide, by decide⟩
      have hat43 : cl43.slots[((1 : Int32)).toNatClampNeg]? = some (.double q1) := Hs43 _ (Nat.lt_of_not_le fun q => hin43 (Or.inr q))
      obtain ⟨⟨nx1, nq1⟩, na1, nb1, nc1, -⟩ := own_nn hnn
      obtain ⟨T44, X44, e44, st44⟩ := natS X42 hx hZ hown (hw _ (List.mem_of_getElem? (i := 19) rfl)) (hw _ (List.mem_of_getElem? (i := 20) rfl)) (hw _ (List.mem_of_getElem? (i := 21) rfl)) (hw _ (List.mem_of_getElem? (i := 22) rfl)) (by decide) e42 (W := 0) (val' := (.double (hi0 &&& 0x7fffffffffffffff))) (fun c => Jvm.Free.Fl.Abs.absD_pays hi0 c (by decide) (by decide)) (g := (mkF m 27 #[.val (.ref a1), .val (.double dx), .second, .val (.double hi0), .second, .val (.int (0 : Int32)), .val (.int (1 : Int32)), .val (.double q1), .second, .val (.double hi0), .second, .val (.double lo0), .second] [(.double hi0)])) rfl (by rw [hml]; rfl) (argsL := [(.double hi0)]) (rest := []) (lenOf pd_0 rfl) rfl (by show 2 * 0 + _ ≤ _; exact Nat.le_of_eq rfl) (hb hby d_prog_8_2_27) (by decide) (by decide) ⟨rfl, nx1⟩ rfl
      obtain ⟨T45, X45, e45, st45⟩ := natS X44 hx hZ hown (hw _ (List.mem_of_getElem? (i := 19) rfl)) (hw _ (List.mem_of_getElem? (i := 20) rfl)) (hw _ (List.mem_of_getElem? (i := 21) rfl)) (hw _ (List.mem_of_getElem? (i := 22) rfl)) (by decide) e44 (W := 2) (val' := (.double (q1 &&& 0x7fffffffffffffff))) (fun c => Jvm.Free.Fl.Abs.absD_pays q1 c (by decide) (by decide)) (g := (mkF m 32 #[.val (.ref a1), .val (.double dx), .second, .val (.double hi0), .second, .val (.int (0 : Int32)), .val (.int (1 : Int32)), .val (.double q1), .second, .val (.double hi0), .second, .val (.double lo0), .second] [(.double q1), (.double (hi0 &&& 0x7fffffffffffffff))])) rfl (by rw [hml]; rfl) (argsL := [(.double q1)]) (rest := [(.double (hi0 &&& 0x7fffffffffffffff))]) (lenOf pd_0 rfl) rfl (by show 2 * 0 + _ ≤ _; exact Nat.le_of_eq rfl) (hb hby d_prog_8_2_32) (by decide) (by decide) ⟨rfl, nq1⟩ rfl
      have k46 : ∀ t_, Steps p.tables e below (T45.setTop (mkF m 36 #[.val (.ref a1), .val (.double dx), .second, .val (.double hi0), .second, .val (.int (0 : Int32)), .val (.int (1 : Int32)), .val (.double q1), .second, .val (.double hi0), .second, .val (.double lo0), .second] [(.int (cmpValue (FP.dcmp (hi0 &&& 0x7fffffffffffffff) (q1 &&& 0x7fffffffffffffff)) .g))])) t_ → Steps p.tables e below A t_ := by
        intro t_ ht_
        refine k40 t_ ?_
        refine own_f_ifYes X37.here hx (hb hby d_prog_8_2_68) ((if0 _ _).trans (teq (hz0)).1) (by decide) (by decide : _ = 83) ?_
        refine own_f_dload X37.here hx (hb hby d_prog_8_2_83) rfl (rfl : _ = 85) ?_
        refine own_f_dstoreN X37.here hx (hb hby d_prog_8_2_85) (rfl : storeLocals _ _ _ = some #[.val (.ref a1), .val (.double dx), .second, .val (.double hi0), .second, .val (.int (0 : Int32)), .val (.int (0 : Int32)), .val (.double (own_snd dx q0)), .second, .val (.double hi0), .second, .val (.double lo0), .second]) (rfl : _ = 86) ?_
        refine own_f_iinc X37.here hx (hb hby d_prog_8_2_86) rfl (rfl : storeLocals _ _ _ = some #[.val (.ref a1), .val (.double dx), .second, .val (.double hi0), .second, .val (.int (0 : Int32)), .val (.int (1 : Int32)), .val (.double (own_snd dx q0)), .second, .val (.double hi0), .second, .val (.double lo0), .second]) (rfl : _ = 89) ?_
        refine own_f_goto X37.here hx (hb hby d_prog_8_2_89) (by decide) (by decide : _ = 8) ?_
        refine own_f_iload X37.here hx (hb hby d_prog_8_2_8) rfl (rfl : _ = 10) ?_
        refine own_f_aloadN X37.here hx (hb hby d_prog_8_2_10) rfl rfl (rfl : _ = 11) ?_
        refine st41 _ ?_
        show Steps p.tables e below (T41.setTop (mkF m 14 #[.val (.ref a1), .val (.double dx), .second, .val (.double hi0), .second, .val (.int (0 : Int32)), .val (.int (1 : Int32)), .val (.double (own_snd dx q0)), .second, .val (.double hi0), .second, .val (.double lo0), .second] [(.int (2 : Int32)), (.int (1 : Int32))])) t_
        refine own_f_icmpNo X41.here hx (hb hby d_prog_8_2_14) (tlt (by decide)).2.1 (rfl : _ = 17) ?_
        refine own_f_aloadN X41.here hx (hb hby d_prog_8_2_17) rfl rfl (rfl : _ = 18) ?_
        refine st42 _ ?_
        show Steps p.tables e below (T42.setTop (mkF m 21 #[.val (.ref a1), .val (.double dx), .second, .val (.double hi0), .second, .val (.int (0 : Int32)), .val (.int (1 : Int32)), .val (.double (own_snd dx q0)), .second, .val (.double hi0), .second, .val (.double lo0), .second] [(.ref ar)])) t_
        refine own_f_iload X42.here hx (hb hby d_prog_8_2_21) rfl (rfl : _ = 23) ?_
        refine X42.daload hx (j := (1 : Int32)) (v := (.double q1)) (by rw [e42]; exact Ar43.1) (State.isArrayOf_alike hZ.alike Ar43.2.1) Ar43.2.2 hin43 hat43 (g := (mkF m 23 #[.val (.ref a1), .val (.double dx), .second, .val (.double hi0), .second, .val (.int (0 : Int32)), .val (.int (1 : Int32)), .val (.double (own_snd dx q0)), .second, .val (.double hi0), .second, .val (.double lo0), .second] [(.int (1 : Int32)), (.ref ar)])) rfl rfl (hb hby d_prog_8_2_23) _ ?_
        show Steps p.tables e below (T42.setTop (mkF m 24 #[.val (.ref a1), .val (.double dx), .second, .val (.double hi0), .second, .val (.int (0 : Int32)), .val (.int (1 : Int32)), .val (.double (own_snd dx q0)), .second, .val (.double hi0), .second, .val (.double lo0), .second] [(.double q1)])) t_
        refine own_f_dstore X42.here hx (hb hby d_prog_8_2_24) (rfl : storeLocals _ _ _ = some #[.val (.ref a1), .val (.double dx), .second, .val (.double hi0), .second, .val (.int (0 : Int32)), .val (.int (1 : Int32)), .val (.double q1), .second, .val (.double hi0), .second, .val (.double lo0), .second]) (rfl : _ = 26) ?_
        refine own_f_dloadN X42.here hx (hb hby d_prog_8_2_26) rfl (rfl : _ = 27) ?_
        refine st44 _ ?_
        show Steps p.tables e below (T44.setTop (mkF m 30 #[.val (.ref a1), .val (.double dx), .second, .val (.double hi0), .second, .val (.int (0 : Int32)), .val (.int (1 : Int32)), .val (.double q1), .second, .val (.double hi0), .second, .val (.double lo0), .second] [(.double (hi0 &&& 0x7fffffffffffffff))])) t_
        refine own_f_dload X44.here hx (hb hby d_prog_8_2_30) rfl (rfl : _ = 32) ?_
        refine st45 _ ?_
        show Steps p.tables e below (T45.setTop (mkF m 35 #[.val (.ref a1), .val (.double dx), .second, .val (.double hi0), .second, .val (.int (0 : Int32)), .val (.int (1 : Int32)), .val (.double q1), .second, .val (.double hi0), .second, .val (.double lo0), .second] [(.double (q1 &&& 0x7fffffffffffffff)), (.double (hi0 &&& 0x7fffffffffffffff))])) t_
        refine own_f_dcmp X45.here hx (hb hby d_prog_8_2_35) rfl (rfl : _ = 36) ?_
        exact ht_
      have k47 : ∀ t_, Steps p.tables e below (T45.setTop (mkF m 64 #[.val (.ref a1), .val (.double dx), .second, .val (.double (own_fst hi0 q1)), .second, .val (.int (0 : Int32)), .val (.int (1 : Int32)), .val (.double (own_snd hi0 q1)), .second, .val (.double (FP.dadd (own_fst hi0 q1) (own_snd hi0 q1))), .second, .val (.double (own_lo (own_fst hi0 q1) (own_snd hi0 q1))), .second] [])) t_ → Steps p.tables e below A t_ := by
        intro t_ ht_
        refine k46 t_ ?_
        by_cases hsw : own_lt hi0 q1
        · have e1 : own_fst hi0 q1 = q1 := if_pos hsw
          have e2 : own_snd hi0 q1 = hi0 := if_pos hsw
          rw [e1, e2] at ht_ na1 nb1 nc1
          have hs_ : (cmpValue (FP.dcmp (hi0 &&& 0x7fffffffffffffff) (q1 &&& 0x7fffffffffffffff)) .g) < (0 : Int32) := hsw
          refine own_f_ifNo X45.here hx (hb hby d_prog_8_2_36) ((if0 _ _).trans (tlt (hs_)).2.1) (rfl : _ = 39) ?_
          refine own_f_dload X45.here hx (hb hby d_prog_8_2_39) rfl (rfl : _ = 41) ?_
          refine own_f_dstore X45.here hx (hb hby d_prog_8_2_41) (rfl : storeLocals _ _ _ = some #[.val (.ref a1), .val (.double dx), .second, .val (.double hi0), .second, .val (.int (0 : Int32)), .val (.int (1 : Int32)), .val (.double q1), .second, .val (.double q1), .second, .val (.double lo0), .second]) (rfl : _ = 43) ?_
          refine own_f_dloadN X45.here hx (hb hby d_prog_8_2_43) rfl (rfl : _ = 44) ?_
          refine own_f_dstore X45.here hx (hb hby d_prog_8_2_44) (rfl : storeLocals _ _ _ = some #[.val (.ref a1), .val (.double dx), .second, .val (.double hi0), .second, .val (.int (0 : Int32)), .val (.int (1 : Int32)), .val (.double hi0), .second, .val (.double q1), .second, .val (.double lo0), .second]) (rfl : _ = 46) ?_
          refine own_f_dload X45.here hx (hb hby d_prog_8_2_46) rfl (rfl : _ = 48) ?_
          refine own_f_dstoreN X45.here hx (hb hby d_prog_8_2_48) (rfl : storeLocals _ _ _ = some #[.val (.ref a1), .val (.double dx), .second, .val (.double q1), .second, .val (.int (0 : Int32)), .val (.int (1 : Int32)), .val (.double hi0), .second, .val (.double q1), .second, .val (.double lo0), .second]) (rfl : _ = 49) ?_
          refine own_f_dloadN X45.here hx (hb hby d_prog_8_2_49) rfl (rfl : _ = 50) ?_
          refine own_f_dload X45.here hx (hb hby d_prog_8_2_50) rfl (rfl : _ = 52) ?_
          refine own_f_dadd X45.here hx (hb hby d_prog_8_2_52) (na1) rfl (rfl : _ = 53) ?_
          refine own_f_dstore X45.here hx (hb hby d_prog_8_2_53) (rfl : storeLocals _ _ _ = some #[.val (.ref a1), .val (.double dx), .second, .val (.double q1), .second, .val (.int (0 : Int32)), .val (.int (1 : Int32)), .val (.double hi0), .second, .val (.double (FP.dadd q1 hi0)), .second, .val (.double lo0), .second]) (rfl : _ = 55) ?_
          refine own_f_dload X45.here hx (hb hby d_prog_8_2_55) rfl (rfl : _ = 57) ?_
          refine own_f_dload X45.here hx (hb hby d_prog_8_2_57) rfl (rfl : _ = 59) ?_
          refine own_f_dloadN X45.here hx (hb hby d_prog_8_2_59) rfl (rfl : _ = 60) ?_
          refine own_f_dsub X45.here hx (hb hby d_prog_8_2_60) (nb1) rfl (rfl : _ = 61) ?_
          refine own_f_dsub X45.here hx (hb hby d_prog_8_2_61) (nc1) rfl (rfl : _ = 62) ?_
          refine own_f_dstore X45.here hx (hb hby d_prog_8_2_62) (rfl : storeLocals _ _ _ = some #[.val (.ref a1), .val (.double dx), .second, .val (.double q1), .second, .val (.int (0 : Int32)), .val (.int (1 : Int32)), .val (.double hi0), .second, .val (.double (FP.dadd q1 hi0)), .second, .val (.double (FP.dsub hi0 (FP.dsub (FP.dadd q1 hi0) q1))), .second]) (rfl : _ = 64) ?_
          exact ht_
        · have e1 : own_fst hi0 q1 = hi0 := if_neg hsw
          have e2 : own_snd hi0 q1 = q1 := if_neg hsw
          rw [e1, e2] at ht_ na1 nb1 nc1
          have hs_ : ¬ ((cmpValue (FP.dcmp (hi0 &&& 0x7fffffffffffffff) (q1 &&& 0x7fffffffffffffff)) .g) < (0 : Int32)) := hsw
          refine own_f_ifYes X45.here hx (hb hby d_prog_8_2_36) ((if0 _ _).trans (flt (hs_)).2.1) (by decide) (by decide : _ = 49) ?_
          refine own_f_dloadN X45.here hx (hb hby d_prog_8_2_49) rfl (rfl : _ = 50) ?_
          refine own_f_dload X45.here hx (hb hby d_prog_8_2_50) rfl (rfl : _ = 52) ?_
          refine own_f_dadd X45.here hx (hb hby d_prog_8_2_52) (na1) rfl (rfl : _ = 53) ?_
          refine own_f_dstore X45.here hx (hb hby d_prog_8_2_53) (rfl : storeLocals _ _ _ = some #[.val (.ref a1), .val (.double dx), .second, .val (.double hi0), .second, .val (.int (0 : Int32)), .val (.int (1 : Int32)), .val (.double q1), .second, .val (.double (FP.dadd hi0 q1)), .second, .val (.double lo0), .second]) (rfl : _ = 55) ?_
          refine own_f_dload X45.here hx (hb hby d_prog_8_2_55) rfl (rfl : _ = 57) ?_
          refine own_f_dload X45.here hx (hb hby d_prog_8_2_57) rfl (rfl : _ = 59) ?_
          refine own_f_dloadN X45.here hx (hb hby d_prog_8_2_59) rfl (rfl : _ = 60) ?_
          refine own_f_dsub X45.here hx (hb hby d_prog_8_2_60) (nb1) rfl (rfl : _ = 61) ?_
          refine own_f_dsub X45.here hx (hb hby d_prog_8_2_61) (nc1) rfl (rfl : _ = 62) ?_
          refine own_f_dstore X45.here hx (hb hby d_prog_8_2_62) (rfl : storeLocals _ _ _ = some #[.val (.ref a1), .val (.double dx), .second, .val (.double hi0), .second, .val (.int (0 : Int32)), .val (.int (1 : Int32)), .val (.double q1), .second, .val (.double (FP.dadd hi0 q1)), .second, .val (.double (FP.dsub q1 (FP.dsub (FP.dadd hi0 q1) hi0))), .second]) (rfl : _ = 64) ?_
          exact ht_
      obtain ⟨hi1, hhi1⟩ : ∃ z : UInt64, z = (FP.dadd (own_fst hi0 q1) (own_snd hi0 q1)) := ⟨_, rfl⟩
      rw [← hhi1] at k47
      obtain ⟨lo1, hlo1⟩ : ∃ z : UInt64, z = (own_lo (own_fst hi0 q1) (own_snd hi0 q1)) := ⟨_, rfl⟩
      rw [← hlo1] at k47
      replace hnn := own_nn' hhi1 hnn
      have k48 : ∀ t_, Steps p.tables e below (T45.setTop (mkF m 68 #[.val (.ref a1), .val (.double dx), .second, .val (.double (own_fst hi0 q1)), .second, .val (.int (0 : Int32)), .val (.int (1 : Int32)), .val (.double (own_snd hi0 q1)), .second, .val (.double hi1), .second, .val (.double lo1), .second] [(.int (cmpValue (FP.dcmp lo1 (0 : UInt64)) .l))])) t_ → Steps p.tables e below A t_ := by
        intro t_ ht_
        refine k47 t_ ?_
        refine own_f_dload X45.here hx (hb hby d_prog_8_2_64) rfl (rfl : _ = 66) ?_
        refine own_f_dconst0 X45.here hx (hb hby d_prog_8_2_66) (rfl : _ = (0 : UInt64)) (rfl : _ = 67) ?_
        refine own_f_dcmp X45.here hx (hb hby d_prog_8_2_67) rfl (rfl : _ = 68) ?_
        exact ht_
      by_cases hz1 : (cmpValue (FP.dcmp lo1 (0 : UInt64)) .l) = (0 : Int32)
      · obtain ⟨T49, X49, e49, st49⟩ := getF X45 hx hZ hown (host := "") (Or.inl (hw _ (List.mem_of_getElem? (i := 17) rfl))) Via.refl e45 Fs (g := (mkF m 11 #[.val (.ref a1), .val (.double dx), .second, .val (.double hi1), .second, .val (.int (0 : Int32)), .val (.int (2 : Int32)), .val (.double (own_snd hi0 q1)), .second, .val (.double hi1), .second, .val (.double lo1), .second] [(.ref a1), (.int (2 : Int32))])) rfl rfl (hb hby d_prog_8_2_11)
        obtain ⟨T50, X50, e50, st50⟩ := getF X49 hx hZ hown (host := "") (Or.inl (hw _ (List.mem_of_getElem? (i := 10) rfl))) Via.refl e49 Fp (g := (mkF m 95 #[.val (.ref a1), .val (.double dx), .second, .val (.double hi1), .second, .val (.int (0 : Int32)), .val (.int (2 : Int32)), .val (.double (own_snd hi0 q1)), .second, .val (.double hi1), .second, .val (.double lo1), .second] [(.ref a1), (.int (0 : Int32))])) rfl rfl (hb hby d_prog_8_2_95)
        obtain ⟨cl51, Ar51, -, Sz51, Ng51, -, -⟩ := id Va
        obtain ⟨T52, X52, e52, st52⟩ := getF X50 hx hZ hown (host := "") (Or.inl (hw _ (List.mem_of_getElem? (i := 10) rfl))) Via.refl e50 Fp (g := (mkF m 118 #[.val (.ref a1), .val (.double dx), .second, .val (.double hi1), .second, .val (.int (0 : Int32)), .val (.int (2 : Int32)), .val (.double (own_snd hi0 q1)), .second, .val (.double hi1), .second, .val (.double lo1), .second] [(.ref a1)])) rfl rfl (hb hby d_prog_8_2_118)
        obtain ⟨cl53, Ar53, q53, Sz53, Ng53, Hs53, Gs53⟩ := Va
        have hin53 : ¬ ((0 : Int32) < 0 ∨ cl53.slots.size ≤ ((0 : Int32)).toNatClampNeg) := inb_of Sz53 ⟨by decide, by decide⟩
        obtain ⟨T54, h54, X54, e54, W54, st54⟩ := stD X52 hx hZ e52 Ar53 (j := (0 : Int32)) hin53 (g := (mkF m 127 #[.val (.ref a1), .val (.double dx), .second, .val (.double hi1), .second, .val (.int (1 : Int32)), .val (.int (2 : Int32)), .val (.double (own_snd hi0 q1)), .second, .val (.double hi1), .second, .val (.double lo1), .second] [(.double hi1), (.int (0 : Int32)), (.ref ar)])) rfl rfl (hb hby d_prog_8_2_127)
        replace Ea := Ea.wr W54
        replace Fp := Fp.other W54 (Or.inl hne)
        replace Fs := Fs.other W54 (Or.inl hne)
        have Zs54 := Nat.le_trans Z0 (Keep.of_wr W54).1
        replace KK := KK.wr W54 (Or.inl (by simp))
        have Va : Arv Z h54 ar kc .double (4 : Int32) [(.double hi1), (.double q1), (.double q2), (.double q3)] (.double (0 : UInt64)) := Arv.set Ar53 q53 Sz53 Ng53 Hs53 Gs53 rfl W54 0 rfl (Nat.le_of_ble_eq_true rfl)
        have N54 := Fr.snoc X54 N0 g_ar
        obtain ⟨T55, h55, X55, e55, W55, st55⟩ := putF X54 hx hZ hown (host := "") (Or.inl (hw _ (List.mem_of_getElem? (i := 17) rfl))) Via.refl e54 Fs Ea (Or.inl (hw _ (List.mem_of_getElem? (i := 18) rfl))) (hw _ (List.mem_of_getElem? (i := 1) rfl)) (ty := .int) (by decide) rfl rfl (g := (mkF m 131 #[.val (.ref a1), .val (.double dx), .second, .val (.double hi1), .second, .val (.int (1 : Int32)), .val (.int (2 : Int32)), .val (.double (own_snd hi0 q1)), .second, .val (.double hi1), .second, .val (.double lo1), .second] [(.int (1 : Int32)), (.ref a1)])) rfl rfl (hb hby d_prog_8_2_131)
        replace Ea := Ea.wr W55
        replace Fp := Fp.other W55 (Or.inr (slot_ne (Or.inl (hw _ (List.mem_of_getElem? (i := 11) rfl))) (Or.inl (hw _ (List.mem_of_getElem? (i := 18) rfl))) (by decide) (t := (.array .double)) (t' := .int) (by decide) (by decide)))
        replace Va := Va.other W55 (Ne.symm hne)
        have Zs55 := Nat.le_trans Zs54 (Keep.of_wr W55).1
        replace KK := KK.wr W55 (Or.inl (by simp))
        replace Fs := Fs.same W55
        have N55 := Fr.snoc X55 N54 g_a1
        obtain ⟨fs, hr, hrun, hended, hW, hsame⟩ := X55.leave (v := none) (fun _ => rfl) hlk
        refine ⟨_, _, ?_, hrun, hended, _, _, rfl, ?_, ⟨_, rfl⟩, hW, hsame.mono (by decide) (by decide)⟩
        · refine hA0 _ ?_
          refine k48 _ ?_
          refine own_f_ifYes X45.here hx (hb hby d_prog_8_2_68) ((if0 _ _).trans (teq (hz1)).1) (by decide) (by decide : _ = 83) ?_
          refine own_f_dload X45.here hx (hb hby d_prog_8_2_83) rfl (rfl : _ = 85) ?_
          refine own_f_dstoreN X45.here hx (hb hby d_prog_8_2_85) (rfl : storeLocals _ _ _ = some #[.val (.ref a1), .val (.double dx), .second, .val (.double hi1), .second, .val (.int (0 : Int32)), .val (.int (1 : Int32)), .val (.double (own_snd hi0 q1)), .second, .val (.double hi1), .second, .val (.double lo1), .second]) (rfl : _ = 86) ?_
          refine own_f_iinc X45.here hx (hb hby d_prog_8_2_86) rfl (rfl : storeLocals _ _ _ = some #[.val (.ref a1), .val (.double dx), .second, .val (.double hi1), .second, .val (.int (0 : Int32)), .val (.int (2 : Int32)), .val (.double (own_snd hi0 q1)), .second, .val (.double hi1), .second, .val (.double lo1), .second]) (rfl : _ = 89) ?_
          refine own_f_goto X45.here hx (hb hby d_prog_8_2_89) (by decide) (by decide : _ = 8) ?_
          refine own_f_iload X45.here hx (hb hby d_prog_8_2_8) rfl (rfl : _ = 10) ?_
          refine own_f_aloadN X45.here hx (hb hby d_prog_8_2_10) rfl rfl (rfl : _ = 11) ?_
          refine st49 _ ?_
          show Steps p.tables e below (T49.setTop (mkF m 14 #[.val (.ref a1), .val (.double dx), .second, .val (.double hi1), .second, .val (.int (0 : Int32)), .val (.int (2 : Int32)), .val (.double (own_snd hi0 q1)), .second, .val (.double hi1), .second, .val (.double lo1), .second] [(.int (2 : Int32)), (.int (2 : Int32))])) _
          refine own_f_icmpYes X49.here hx (hb hby d_prog_8_2_14) (flt (by decide)).2.1 (by decide) (by decide : _ = 92) ?_
          refine own_f_iload X49.here hx (hb hby d_prog_8_2_92) rfl (rfl : _ = 94) ?_
          refine own_f_aloadN X49.here hx (hb hby d_prog_8_2_94) rfl rfl (rfl : _ = 95) ?_
          refine st50 _ ?_
          show Steps p.tables e below (T50.setTop (mkF m 98 #[.val (.ref a1), .val (.double dx), .second, .val (.double hi1), .second, .val (.int (0 : Int32)), .val (.int (2 : Int32)), .val (.double (own_snd hi0 q1)), .second, .val (.double hi1), .second, .val (.double lo1), .second] [(.ref ar), (.int (0 : Int32))])) _
          refine X50.arraylength hx (by rw [e50]; exact Ar51.1) (State.isArrayOf_alike hZ.alike Ar51.2.1) (g := (mkF m 98 #[.val (.ref a1), .val (.double dx), .second, .val (.double hi1), .second, .val (.int (0 : Int32)), .val (.int (2 : Int32)), .val (.double (own_snd hi0 q1)), .second, .val (.double hi1), .second, .val (.double lo1), .second] [(.ref ar), (.int (0 : Int32))])) rfl rfl (hb hby d_prog_8_2_98) _ ?_
          rw [len_of Sz51 Ng51]
          show Steps p.tables e below (T50.setTop (mkF m 99 #[.val (.ref a1), .val (.double dx), .second, .val (.double hi1), .second, .val (.int (0 : Int32)), .val (.int (2 : Int32)), .val (.double (own_snd hi0 q1)), .second, .val (.double hi1), .second, .val (.double lo1), .second] [(.int (4 : Int32)), (.int (0 : Int32))])) _
          refine own_f_icmpYes X50.here hx (hb hby d_prog_8_2_99) (feq (by decide)).2 (by decide) (by decide : _ = 117) ?_
          refine own_f_aloadN X50.here hx (hb hby d_prog_8_2_117) rfl rfl (rfl : _ = 118) ?_
          refine st52 _ ?_
          show Steps p.tables e below (T52.setTop (mkF m 121 #[.val (.ref a1), .val (.double dx), .second, .val (.double hi1), .second, .val (.int (0 : Int32)), .val (.int (2 : Int32)), .val (.double (own_snd hi0 q1)), .second, .val (.double hi1), .second, .val (.double lo1), .second] [(.ref ar)])) _
          refine own_f_iload X52.here hx (hb hby d_prog_8_2_121) rfl (rfl : _ = 123) ?_
          refine own_f_iinc X52.here hx (hb hby d_prog_8_2_123) rfl (rfl : storeLocals _ _ _ = some #[.val (.ref a1), .val (.double dx), .second, .val (.double hi1), .second, .val (.int (1 : Int32)), .val (.int (2 : Int32)), .val (.double (own_snd hi0 q1)), .second, .val (.double hi1), .second, .val (.double lo1), .second]) (rfl : _ = 126) ?_
          refine own_f_dloadN X52.here hx (hb hby d_prog_8_2_126) rfl (rfl : _ = 127) ?_
          refine st54 _ ?_
          show Steps p.tables e below (T54.setTop (mkF m 128 #[.val (.ref a1), .val (.double dx), .second, .val (.double hi1), .second, .val (.int (1 : Int32)), .val (.int (2 : Int32)), .val (.double (own_snd hi0 q1)), .second, .val (.double hi1), .second, .val (.double lo1), .second] [])) _
          refine own_f_aloadN X54.here hx (hb hby d_prog_8_2_128) rfl rfl (rfl : _ = 129) ?_
          refine own_f_iload X54.here hx (hb hby d_prog_8_2_129) rfl (rfl : _ = 131) ?_
          refine st55 _ ?_
          show Steps p.tables e below (T55.setTop (mkF m 134 #[.val (.ref a1), .val (.double dx), .second, .val (.double hi1), .second, .val (.int (1 : Int32)), .val (.int (2 : Int32)), .val (.double (own_snd hi0 q1)), .second, .val (.double hi1), .second, .val (.double lo1), .second] [])) _
          exact X55.returnOut hx Bd.returns (hb hby d_prog_8_2_134) hr
        · show Q2 Z a1 dx _ ar kc q0 q1 q2 q3 _ h0 n0 _ T55.heap _
          rw [e55]
          exact ⟨(1 : Int32), hi1, q1, q2, q3, rfl, N55, KK, Fp, Fs, Va, own_res (M := [hi1]) (by rw [own_ins_d hlo0 hhi0 hz0, own_ins_d hlo1 hhi1 hz1]; rfl) (by show Int32.toInt 1 = ((1 : Nat) : Int); decide) rfl⟩
      · obtain ⟨T56, X56, e56, st56⟩ := getF X45 hx hZ hown (host := "") (Or.inl (hw _ (List.mem_of_getElem? (i := 10) rfl))) Via.refl e45 Fp (g := (mkF m 72 #[.val (.ref a1), .val (.double dx), .second, .val (.double (own_fst hi0 q1)), .second, .val (.int (0 : Int32)), .val (.int (1 : Int32)), .val (.double (own_snd hi0 q1)), .second, .val (.double hi1), .second, .val (.double lo1), .second] [(.ref a1)])) rfl rfl (hb hby d_prog_8_2_72)
        obtain ⟨cl57, Ar57, q57, Sz57, Ng57, Hs57, Gs57⟩ := Va
        have hin57 : ¬ ((0 : Int32) < 0 ∨ cl57.slots.size ≤ ((0 : Int32)).toNatClampNeg) := inb_of Sz57 ⟨by decide, by decide⟩
        obtain ⟨T58, h58, X58, e58, W58, st58⟩ := stD X56 hx hZ e56 Ar57 (j := (0 : Int32)) hin57 (g := (mkF m 82 #[.val (.ref a1), .val (.double dx), .second, .val (.double (own_fst hi0 q1)), .second, .val (.int (1 : Int32)), .val (.int (1 : Int32)), .val (.double (own_snd hi0 q1)), .second, .val (.double hi1), .second, .val (.double lo1), .second] [(.double lo1), (.int (0 : Int32)), (.ref ar)])) rfl rfl (hb hby d_prog_8_2_82)
        replace Ea := Ea.wr W58
        replace Fp := Fp.other W58 (Or.inl hne)
        replace Fs := Fs.other W58 (Or.inl hne)
        have Zs58 := Nat.le_trans Z0 (Keep.of_wr W58).1
        replace KK := KK.wr W58 (Or.inl (by simp))
        have Va : Arv Z h58 ar kc .double (4 : Int32) [(.double lo1), (.double q1), (.double q2), (.double q3)] (.double (0 : UInt64)) := Arv.set Ar57 q57 Sz57 Ng57 Hs57 Gs57 rfl W58 0 rfl (Nat.le_of_ble_eq_true rfl)
        have N58 := Fr.snoc X58 N0 g_ar
        obtain ⟨T59, X59, e59, st59⟩ := getF X58 hx hZ hown (host := "") (Or.inl (hw _ (List.mem_of_getElem? (i := 17) rfl))) Via.refl e58 Fs (g := (mkF m 11 #[.val (.ref a1), .val (.double dx), .second, .val (.double hi1), .second, .val (.int (1 : Int32)), .val (.int (2 : Int32)), .val (.double (own_snd hi0 q1)), .second, .val (.double hi1), .second, .val (.double lo1), .second] [(.ref a1), (.int (2 : Int32))])) rfl rfl (hb hby d_prog_8_2_11)
        obtain ⟨T60, X60, e60, st60⟩ := getF X59 hx hZ hown (host := "") (Or.inl (hw _ (List.mem_of_getElem? (i := 10) rfl))) Via.refl e59 Fp (g := (mkF m 95 #[.val (.ref a1), .val (.double dx), .second, .val (.double hi1), .second, .val (.int (1 : Int32)), .val (.int (2 : Int32)), .val (.double (own_snd hi0 q1)), .second, .val (.double hi1), .second, .val (.double lo1), .second] [(.ref a1), (.int (1 : Int32))])) rfl rfl (hb hby d_prog_8_2_95)
        obtain ⟨cl61, Ar61, -, Sz61, Ng61, -, -⟩ := id Va
        obtain ⟨T62, X62, e62, st62⟩ := getF X60 hx hZ hown (host := "") (Or.inl (hw _ (List.mem_of_getElem? (i := 10) rfl))) Via.refl e60 Fp (g := (mkF m 118 #[.val (.ref a1), .val (.double dx), .second, .val (.double hi1), .second, .val (.int (1 : Int32)), .val (.int (2 : Int32)), .val (.double (own_snd hi0 q1)), .second, .val (.double hi1), .second, .val (.double lo1), .second] [(.ref a1)])) rfl rfl (hb hby d_prog_8_2_118)
        obtain ⟨cl63, Ar63, q63, Sz63, Ng63, Hs63, Gs63⟩ := Va
        have hin63 : ¬ ((1 : Int32) < 0 ∨ cl63.slots.size ≤ ((1 : Int32)).toNatClampNeg) := inb_of Sz63 ⟨by decide, by decide⟩
        obtain ⟨T64, h64, X64, e64, W64, st64⟩ := stD X62 hx hZ e62 Ar63 (j := (1 : Int32)) hin63 (g := (mkF m 127 #[.val (.ref a1), .val (.double dx), .second, .val (.double hi1), .second, .val (.int (2 : Int32)), .val (.int (2 : Int32)), .val (.double (own_snd hi0 q1)), .second, .val (.double hi1), .second, .val (.double lo1), .second] [(.double hi1), (.int (1 : Int32)), (.ref ar)])) rfl rfl (hb hby d_prog_8_2_127)
        replace Ea := Ea.wr W64
        replace Fp := Fp.other W64 (Or.inl hne)
        replace Fs := Fs.other W64 (Or.inl hne)
        have Zs64 := Nat.le_trans Zs58 (Keep.of_wr W64).1
        replace KK := KK.wr W64 (Or.inl (by simp))
        have Va : Arv Z h64 ar kc .double (4 : Int32) [(.double lo1), (.double hi1), (.double q2), (.double q3)] (.double (0 : UInt64)) := Arv.set Ar63 q63 Sz63 Ng63 Hs63 Gs63 rfl W64 1 rfl (Nat.le_of_ble_eq_true rfl)
        have N64 := Fr.snoc X64 N58 g_ar
        obtain ⟨T65, h65, X65, e65, W65, st65⟩ := putF X64 hx hZ hown (host := "") (Or.inl (hw _ (List.mem_of_getElem? (i := 17) rfl))) Via.refl e64 Fs Ea (Or.inl (hw _ (List.mem_of_getElem? (i := 18) rfl))) (hw _ (List.mem_of_getElem? (i := 1) rfl)) (ty := .int) (by decide) rfl rfl (g := (mkF m 131 #[.val (.ref a1), .val (.double dx), .second, .val (.double hi1), .second, .val (.int (2 : Int32)), .val (.int (2 : Int32)), .val (.double (own_snd hi0 q1)), .second, .val (.double hi1), .second, .val (.double lo1), .second] [(.int (2 : Int32)), (.ref a1)])) rfl rfl (hb hby d_prog_8_2_131)
        replace Ea := Ea.wr W65
        replace Fp := Fp.other W65 (Or.inr (slot_ne (Or.inl (hw _ (List.mem_of_getElem? (i := 11) rfl))) (Or.inl (hw _ (List.mem_of_getElem? (i := 18) rfl))) (by decide) (t := (.array .double)) (t' := .int) (by decide) (by decide)))
        replace Va := Va.other W65 (Ne.symm hne)
        have Zs65 := Nat.le_trans Zs64 (Keep.of_wr W65).1
        replace KK := KK.wr W65 (Or.inl (by simp))
        replace Fs := Fs.same W65
        have N65 := Fr.snoc X65 N64 g_a1
        obtain ⟨fs, hr, hrun, hended, hW, hsame⟩ := X65.leave (v := none) (fun _ => rfl) hlk
        refine ⟨_, _, ?_, hrun, hended, _, _, rfl, ?_, ⟨_, rfl⟩, hW, hsame.mono (by decide) (by decide)⟩
        · refine hA0 _ ?_
          refine k48 _ ?_
          refine own_f_ifNo X45.here hx (hb hby d_prog_8_2_68) ((if0 _ _).trans (feq (hz1)).1) (rfl : _ = 71) ?_
          refine own_f_aloadN X45.here hx (hb hby d_prog_8_2_71) rfl rfl (rfl : _ = 72) ?_
          refine st56 _ ?_
          show Steps p.tables e below (T56.setTop (mkF m 75 #[.val (.ref a1), .val (.double dx), .second, .val (.double (own_fst hi0 q1)), .second, .val (.int (0 : Int32)), .val (.int (1 : Int32)), .val (.double (own_snd hi0 q1)), .second, .val (.double hi1), .second, .val (.double lo1), .second] [(.ref ar)])) _
          refine own_f_iload X56.here hx (hb hby d_prog_8_2_75) rfl (rfl : _ = 77) ?_
          refine own_f_iinc X56.here hx (hb hby d_prog_8_2_77) rfl (rfl : storeLocals _ _ _ = some #[.val (.ref a1), .val (.double dx), .second, .val (.double (own_fst hi0 q1)), .second, .val (.int (1 : Int32)), .val (.int (1 : Int32)), .val (.double (own_snd hi0 q1)), .second, .val (.double hi1), .second, .val (.double lo1), .second]) (rfl : _ = 80) ?_
          refine own_f_dload X56.here hx (hb hby d_prog_8_2_80) rfl (rfl : _ = 82) ?_
          refine st58 _ ?_
          show Steps p.tables e below (T58.setTop (mkF m 83 #[.val (.ref a1), .val (.double dx), .second, .val (.double (own_fst hi0 q1)), .second, .val (.int (1 : Int32)), .val (.int (1 : Int32)), .val (.double (own_snd hi0 q1)), .second, .val (.double hi1), .second, .val (.double lo1), .second] [])) _
          refine own_f_dload X58.here hx (hb hby d_prog_8_2_83) rfl (rfl : _ = 85) ?_
          refine own_f_dstoreN X58.here hx (hb hby d_prog_8_2_85) (rfl : storeLocals _ _ _ = some #[.val (.ref a1), .val (.double dx), .second, .val (.double hi1), .second, .val (.int (1 : Int32)), .val (.int (1 : Int32)), .val (.double (own_snd hi0 q1)), .second, .val (.double hi1), .second, .val (.double lo1), .second]) (rfl : _ = 86) ?_
          refine own_f_iinc X58.here hx (hb hby d_prog_8_2_86) rfl (rfl : storeLocals _ _ _ = some #[.val (.ref a1), .val (.double dx), .second, .val (.double hi1), .second, .val (.int (1 : Int32)), .val (.int (2 : Int32)), .val (.double (own_snd hi0 q1)), .second, .val (.double hi1), .second, .val (.double lo1), .second]) (rfl : _ = 89) ?_
          refine own_f_goto X58.here hx (hb hby d_prog_8_2_89) (by decide) (by decide : _ = 8) ?_
          refine own_f_iload X58.here hx (hb hby d_prog_8_2_8) rfl (rfl : _ = 10) ?_
          refine own_f_aloadN X58.here hx (hb hby d_prog_8_2_10) rfl rfl (rfl : _ = 11) ?_
          refine st59 _ ?_
          show Steps p.tables e below (T59.setTop (mkF m 14 #[.val (.ref a1), .val (.double dx), .second, .val (.double hi1), .second, .val (.int (1 : Int32)), .val (.int (2 : Int32)), .val (.double (own_snd hi0 q1)), .second, .val (.double hi1), .second, .val (.double lo1), .second] [(.int (2 : Int32)), (.int (2 : Int32))])) _
          refine own_f_icmpYes X59.here hx (hb hby d_prog_8_2_14) (flt (by decide)).2.1 (by decide) (by decide : _ = 92) ?_
          refine own_f_iload X59.here hx (hb hby d_prog_8_2_92) rfl (rfl : _ = 94) ?_
          refine own_f_aloadN X59.here hx (hb hby d_prog_8_2_94) rfl rfl (rfl : _ = 95) ?_
          refine st60 _ ?_
          show Steps p.tables e below (T60.setTop (mkF m 98 #[.val (.ref a1), .val (.double dx), .second, .val (.double hi1), .second, .val (.int (1 : Int32)), .val (.int (2 : Int32)), .val (.double (own_snd hi0 q1)), .second, .val (.double hi1), .second, .val (.double lo1), .second] [(.ref ar), (.int (1 : Int32))])) _
          refine X60.arraylength hx (by rw [e60]; exact Ar61.1) (State.isArrayOf_alike hZ.alike Ar61.2.1) (g := (mkF m 98 #[.val (.ref a1), .val (.double dx), .second, .val (.double hi1), .second, .val (.int (1 : Int32)), .val (.int (2 : Int32)), .val (.double (own_snd hi0 q1)), .second, .val (.double hi1), .second, .val (.double lo1), .second] [(.ref ar), (.int (1 : Int32))])) rfl rfl (hb hby d_prog_8_2_98) _ ?_
          rw [len_of Sz61 Ng61]
          show Steps p.tables e below (T60.setTop (mkF m 99 #[.val (.ref a1), .val (.double dx), .second, .val (.double hi1), .second, .val (.int (1 : Int32)), .val (.int (2 : Int32)), .val (.double (own_snd hi0 q1)), .second, .val (.double hi1), .second, .val (.double lo1), .second] [(.int (4 : Int32)), (.int (1 : Int32))])) _
          refine own_f_icmpYes X60.here hx (hb hby d_prog_8_2_99) (feq (by decide)).2 (by decide) (by decide : _ = 117) ?_
          refine own_f_aloadN X60.here hx (hb hby d_prog_8_2_117) rfl rfl (rfl : _ = 118) ?_
          refine st62 _ ?_
          show Steps p.tables e below (T62.setTop (mkF m 121 #[.val (.ref a1), .val (.double dx), .second, .val (.double hi1), .second, .val (.int (1 : Int32)), .val (.int (2 : Int32)), .val (.double (own_snd hi0 q1)), .second, .val (.double hi1), .second, .val (.double lo1), .second] [(.ref ar)])) _
          refine own_f_iload X62.here hx (hb hby d_prog_8_2_121) rfl (rfl : _ = 123) ?_
          refine own_f_iinc X62.here hx (hb hby d_prog_8_2_123) rfl (rfl : storeLocals _ _ _ = some #[.val (.ref a1), .val (.double dx), .second, .val (.double hi1), .second, .val (.int (2 : Int32)), .val (.int (2 : Int32)), .val (.double (own_snd hi0 q1)), .second, .val (.double hi1), .second, .val (.double lo1), .second]) (rfl : _ = 126) ?_
          refine own_f_dloadN X62.here hx (hb hby d_prog_8_2_126) rfl (rfl : _ = 127) ?_
          refine st64 _ ?_
          show Steps p.tables e below (T64.setTop (mkF m 128 #[.val (.ref a1), .val (.double dx), .second, .val (.double hi1), .second, .val (.int (2 : Int32)), .val (.int (2 : Int32)), .val (.double (own_snd hi0 q1)), .second, .val (.double hi1), .second, .val (.double lo1), .second] [])) _
          refine own_f_aloadN X64.here hx (hb hby d_prog_8_2_128) rfl rfl (rfl : _ = 129) ?_
          refine own_f_iload X64.here hx (hb hby d_prog_8_2_129) rfl (rfl : _ = 131) ?_
          refine st65 _ ?_
          show Steps p.tables e below (T65.setTop (mkF m 134 #[.val (.ref a1), .val (.double dx), .second, .val (.double hi1), .second, .val (.int (2 : Int32)), .val (.int (2 : Int32)), .val (.double (own_snd hi0 q1)), .second, .val (.double hi1), .second, .val (.double lo1), .second] [])) _
          exact X65.returnOut hx Bd.returns (hb hby d_prog_8_2_134) hr
        · show Q2 Z a1 dx _ ar kc q0 q1 q2 q3 _ h0 n0 _ T65.heap _
          rw [e65]
          exact ⟨(2 : Int32), lo1, hi1, q2, q3, rfl, N65, KK, Fp, Fs, Va, own_res (M := [lo1, hi1]) (by rw [own_ins_d hlo0 hhi0 hz0, own_ins_c hlo1 hhi1 hz1]; rfl) (by show Int32.toInt 2 = ((2 : Nat) : Int); decide) rfl⟩
    · obtain ⟨T66, X66, e66, st66⟩ := getF X37 hx hZ hown (host := "") (Or.inl (hw _ (List.mem_of_getElem? (i := 10) rfl))) Via.refl e37 Fp (g := (mkF m 72 #[.val (.ref a1), .val (.double dx), .second, .val (.double (own_fst dx q0)), .second, .val (.int (0 : Int32)), .val (.int (0 : Int32)), .val (.double (own_snd dx q0)), .second, .val (.double hi0), .second, .val (.double lo0), .second] [(.ref a1)])) rfl rfl (hb hby d_prog_8_2_72)
      obtain ⟨cl67, Ar67, q67, Sz67, Ng67, Hs67, Gs67⟩ := Va
      have hin67 : ¬ ((0 : Int32) < 0 ∨ cl67.slots.size ≤ ((0 : Int32)).toNatClampNeg) := inb_of Sz67 ⟨by decide, by decide⟩
      obtain ⟨T68, h68, X68, e68, W68, st68⟩ := stD X66 hx hZ e66 Ar67 (j := (0 : Int32)) hin67 (g := (mkF m 82 #[.val (.ref a1), .val (.double dx), .second, .val (.double (own_fst dx q0)), .second, .val (.int (1 : Int32)), .val (.int (0 : Int32)), .val (.double (own_snd dx q0)), .second, .val (.double hi0), .second, .val (.double lo0), .second] [(.double lo0), (.int (0 : Int32)), (.ref ar)])) rfl rfl (hb hby d_prog_8_2_82)
      replace Ea := Ea.wr W68
      replace Fp := Fp.other W68 (Or.inl hne)
      replace Fs := Fs.other W68 (Or.inl hne)
      have Zs68 := Nat.le_trans Z0 (Keep.of_wr W68).1
      replace KK := KK.wr W68 (Or.inl (by simp))
      have Va : Arv Z h68 ar kc .double (4 : Int32) [(.double lo0), (.double q1), (.double q2), (.double q3)] (.double (0 : UInt64)) := Arv.set Ar67 q67 Sz67 Ng67 Hs67 Gs67 rfl W68 0 rfl (Nat.le_of_ble_eq_true rfl)
      have N68 := Fr.snoc X68 N0 g_ar
      obtain ⟨T69, X69, e69, st69⟩ := getF X68 hx hZ hown (host := "") (Or.inl (hw _ (List.mem_of_getElem? (i := 17) rfl))) Via.refl e68 Fs (g := (mkF m 11 #[.val (.ref a1), .val (.double dx), .second, .val (.double hi0), .second, .val (.int (1 : Int32)), .val (.int (1 : Int32)), .val (.double (own_snd dx q0)), .second, .val (.double hi0), .second, .val (.double lo0), .second] [(.ref a1), (.int (1 : Int32))])) rfl rfl (hb hby d_prog_8_2_11)
      obtain ⟨T70, X70, e70, st70⟩ := getF X69 hx hZ hown (host := "") (Or.inl (hw _ (List.mem_of_getElem? (i := 10) rfl))) Via.refl e69 Fp (g := (mkF m 18 #[.val (.ref a1), .val (.double dx), .second, .val (.double hi0), .second, .val (.int (1 : Int32)), .val (.int (1 : Int32)), .val (.double (own_snd dx q0)), .second, .val (.double hi0), .second, .val (.double lo0), .second] [(.ref a1)])) rfl rfl (hb hby d_prog_8_2_18)
      obtain ⟨cl71, Ar71, -, Sz71, Ng71, Hs71, -⟩ := id Va
      have hin71 : ¬ ((1 : Int32) < 0 ∨ cl71.slots.size ≤ ((1 : Int32)).toNatClampNeg) := inb_of Sz71 ⟨by decide, by decide⟩
      have hat71 : cl71.slots[((1 : Int32)).toNatClampNeg]? = some (.double q1) := Hs71 _ (Nat.lt_of_not_le fun q => hin71 (Or.inr q))
      obtain ⟨⟨nx1, nq1⟩, na1, nb1, nc1, -⟩ := own_nn hnn
      obtain ⟨T72, X72, e72, st72⟩ := natS X70 hx hZ hown (hw _ (List.mem_of_getElem? (i := 19) rfl)) (hw _ (List.mem_of_getElem? (i := 20) rfl)) (hw _ (List.mem_of_getElem? (i := 21) rfl)) (hw _ (List.mem_of_getElem? (i := 22) rfl)) (by decide) e70 (W := 0) (val' := (.double (hi0 &&& 0x7fffffffffffffff))) (fun c => Jvm.Free.Fl.Abs.absD_pays hi0 c (by decide) (by decide)) (g := (mkF m 27 #[.val (.ref a1), .val (.double dx), .second, .val (.double hi0), .second, .val (.int (1 : Int32)), .val (.int (1 : Int32)), .val (.double q1), .second, .val (.double hi0), .second, .val (.double lo0), .second] [(.double hi0)])) rfl (by rw [hml]; rfl) (argsL := [(.double hi0)]) (rest := []) (lenOf pd_0 rfl) rfl (by show 2 * 0 + _ ≤ _; exact Nat.le_of_eq rfl) (hb hby d_prog_8_2_27) (by decide) (by decide) ⟨rfl, nx1⟩ rfl
      obtain ⟨T73, X73, e73, st73⟩ := natS X72 hx hZ hown (hw _ (List.mem_of_getElem? (i := 19) rfl)) (hw _ (List.mem_of_getElem? (i := 20) rfl)) (hw _ (List.mem_of_getElem? (i := 21) rfl)) (hw _ (List.mem_of_getElem? (i := 22) rfl)) (by decide) e72 (W := 2) (val' := (.double (q1 &&& 0x7fffffffffffffff))) (fun c => Jvm.Free.Fl.Abs.absD_pays q1 c (by decide) (by decide)) (g := (mkF m 32 #[.val (.ref a1), .val (.double dx), .second, .val (.double hi0), .second, .val (.int (1 : Int32)), .val (.int (1 : Int32)), .val (.double q1), .second, .val (.double hi0), .second, .val (.double lo0), .second] [(.double q1), (.double (hi0 &&& 0x7fffffffffffffff))])) rfl (by rw [hml]; rfl) (argsL := [(.double q1)]) (rest := [(.double (hi0 &&& 0x7fffffffffffffff))]) (lenOf pd_0 rfl) rfl (by show 2 * 0 + _ ≤ _; exact Nat.le_of_eq rfl) (hb hby d_prog_8_2_32) (by decide) (by decide) ⟨rfl, nq1⟩ rfl
      have k74 : ∀ t_, Steps p.tables e below (T73.setTop (mkF m 36 #[.val (.ref a1), .val (.double dx), .second, .val (.double hi0), .second, .val (.int (1 : Int32)), .val (.int (1 : Int32)), .val (.double q1), .second, .val (.double hi0), .second, .val (.double lo0), .second] [(.int (cmpValue (FP.dcmp (hi0 &&& 0x7fffffffffffffff) (q1 &&& 0x7fffffffffffffff)) .g))])) t_ → Steps p.tables e below A t_ := by
        intro t_ ht_
        refine k40 t_ ?_
        refine own_f_ifNo X37.here hx (hb hby d_prog_8_2_68) ((if0 _ _).trans (feq (hz0)).1) (rfl : _ = 71) ?_
        refine own_f_aloadN X37.here hx (hb hby d_prog_8_2_71) rfl rfl (rfl : _ = 72) ?_
        refine st66 _ ?_
        show Steps p.tables e below (T66.setTop (mkF m 75 #[.val (.ref a1), .val (.double dx), .second, .val (.double (own_fst dx q0)), .second, .val (.int (0 : Int32)), .val (.int (0 : Int32)), .val (.double (own_snd dx q0)), .second, .val (.double hi0), .second, .val (.double lo0), .second] [(.ref ar)])) t_
        refine own_f_iload X66.here hx (hb hby d_prog_8_2_75) rfl (rfl : _ = 77) ?_
        refine own_f_iinc X66.here hx (hb hby d_prog_8_2_77) rfl (rfl : storeLocals _ _ _ = some #[.val (.ref a1), .val (.double dx), .second, .val (.double (own_fst dx q0)), .second, .val (.int (1 : Int32)), .val (.int (0 : Int32)), .val (.double (own_snd dx q0)), .second, .val (.double hi0), .second, .val (.double lo0), .second]) (rfl : _ = 80) ?_
        refine own_f_dload X66.here hx (hb hby d_prog_8_2_80) rfl (rfl : _ = 82) ?_
        refine st68 _ ?_
        show Steps p.tables e below (T68.setTop (mkF m 83 #[.val (.ref a1), .val (.double dx), .second, .val (.double (own_fst dx q0)), .second, .val (.int (1 : Int32)), .val (.int (0 : Int32)), .val (.double (own_snd dx q0)), .second, .val (.double hi0), .second, .val (.double lo0), .second] [])) t_
        refine own_f_dload X68.here hx (hb hby d_prog_8_2_83) rfl (rfl : _ = 85) ?_
        refine own_f_dstoreN X68.here hx (hb hby d_prog_8_2_85) (rfl : storeLocals _ _ _ = some #[.val (.ref a1), .val (.double dx), .second, .val (.double hi0), .second, .val (.int (1 : Int32)), .val (.int (0 : Int32)), .val (.double (own_snd dx q0)), .second, .val (.double hi0), .second, .val (.double lo0), .second]) (rfl : _ = 86) ?_
        refine own_f_iinc X68.here hx (hb hby d_prog_8_2_86) rfl (rfl : storeLocals _ _ _ = some #[.val (.ref a1), .val (.double dx), .second, .val (.double hi0), .second, .val (.int (1 : Int32)), .val (.int (1 : Int32)), .val (.double (own_snd dx q0)), .second, .val (.double hi0), .second, .val (.double lo0), .second]) (rfl : _ = 89) ?_
        refine own_f_goto X68.here hx (hb hby d_prog_8_2_89) (by decide) (by decide : _ = 8) ?_
        refine own_f_iload X68.here hx (hb hby d_prog_8_2_8) rfl (rfl : _ = 10) ?_
        refine own_f_aloadN X68.here hx (hb hby d_prog_8_2_10) rfl rfl (rfl : _ = 11) ?_
        refine st69 _ ?_
        show Steps p.tables e below (T69.setTop (mkF m 14 #[.val (.ref a1), .val (.double dx), .second, .val (.double hi0), .second, .val (.int (1 : Int32)), .val (.int (1 : Int32)), .val (.double (own_snd dx q0)), .second, .val (.double hi0), .second, .val (.double lo0), .second] [(.int (2 : Int32)), (.int (1 : Int32))])) t_
        refine own_f_icmpNo X69.here hx (hb hby d_prog_8_2_14) (tlt (by decide)).2.1 (rfl : _ = 17) ?_
        refine own_f_aloadN X69.here hx (hb hby d_prog_8_2_17) rfl rfl (rfl : _ = 18) ?_
        refine st70 _ ?_
        show Steps p.tables e below (T70.setTop (mkF m 21 #[.val (.ref a1), .val (.double dx), .second, .val (.double hi0), .second, .val (.int (1 : Int32)), .val (.int (1 : Int32)), .val (.double (own_snd dx q0)), .second, .val (.double hi0), .second, .val (.double lo0), .second] [(.ref ar)])) t_
        refine own_f_iload X70.here hx (hb hby d_prog_8_2_21) rfl (rfl : _ = 23) ?_
        refine X70.daload hx (j := (1 : Int32)) (v := (.double q1)) (by rw [e70]; exact Ar71.1) (State.isArrayOf_alike hZ.alike Ar71.2.1) Ar71.2.2 hin71 hat71 (g := (mkF m 23 #[.val (.ref a1), .val (.double dx), .second, .val (.double hi0), .second, .val (.int (1 : Int32)), .val (.int (1 : Int32)), .val (.double (own_snd dx q0)), .second, .val (.double hi0), .second, .val (.double lo0), .second] [(.int (1 : Int32)), (.ref ar)])) rfl rfl (hb hby d_prog_8_2_23) _ ?_
        show Steps p.tables e below (T70.setTop (mkF m 24 #[.val (.ref a1), .val (.double dx), .second, .val (.double hi0), .second, .val (.int (1 : Int32)), .val (.int (1 : Int32)), .val (.double (own_snd dx q0)), .second, .val (.double hi0), .second, .val (.double lo0), .second] [(.double q1)])) t_
        refine own_f_dstore X70.here hx (hb hby d_prog_8_2_24) (rfl : storeLocals _ _ _ = some #[.val (.ref a1), .val (.double dx), .second, .val (.double hi0), .second, .val (.int (1 : Int32)), .val (.int (1 : Int32)), .val (.double q1), .second, .val (.double hi0), .second, .val (.double lo0), .second]) (rfl : _ = 26) ?_
        refine own_f_dloadN X70.here hx (hb hby d_prog_8_2_26) rfl (rfl : _ = 27) ?_
        refine st72 _ ?_
        show Steps p.tables e below (T72.setTop (mkF m 30 #[.val (.ref a1), .val (.double dx), .second, .val (.double hi0), .second, .val (.int (1 : Int32)), .val (.int (1 : Int32)), .val (.double q1), .second, .val (.double hi0), .second, .val (.double lo0), .second] [(.double (hi0 &&& 0x7fffffffffffffff))])) t_
        refine own_f_dload X72.here hx (hb hby d_prog_8_2_30) rfl (rfl : _ = 32) ?_
        refine st73 _ ?_
        show Steps p.tables e below (T73.setTop (mkF m 35 #[.val (.ref a1), .val (.double dx), .second, .val (.double hi0), .second, .val (.int (1 : Int32)), .val (.int (1 : Int32)), .val (.double q1), .second, .val (.double hi0), .second, .val (.double lo0), .second] [(.double (q1 &&& 0x7fffffffffffffff)), (.double (hi0 &&& 0x7fffffffffffffff))])) t_
        refine own_f_dcmp X73.here hx (hb hby d_prog_8_2_35) rfl (rfl : _ = 36) ?_
        exact ht_
      have k75 : ∀ t_, Steps p.tables e below (T73.setTop (mkF m 64 #[.val (.ref a1), .val (.double dx), .second, .val (.double (own_fst hi0 q1)), .second, .val (.int (1 : Int32)), .val (.int (1 : Int32)), .val (.double (own_snd hi0 q1)), .second, .val (.double (FP.dadd (own_fst hi0 q1) (own_snd hi0 q1))), .second, .val (.double (own_lo (own_fst hi0 q1) (own_snd hi0 q1))), .second] [])) t_ → Steps p.tables e below A t_ := by
        intro t_ ht_
        refine k74 t_ ?_
        by_cases hsw : own_lt hi0 q1
        · have e1 : own_fst hi0 q1 = q1 := if_pos hsw
          have e2 : own_snd hi0 q1 = hi0 := if_pos hsw
          rw [e1, e2] at ht_ na1 nb1 nc1
          have hs_ : (cmpValue (FP.dcmp (hi0 &&& 0x7fffffffffffffff) (q1 &&& 0x7fffffffffffffff)) .g) < (0 : Int32) := hsw
          refine own_f_ifNo X73.here hx (hb hby d_prog_8_2_36) ((if0 _ _).trans (tlt (hs_)).2.1) (rfl : _ = 39) ?_
          refine own_f_dload X73.here hx (hb hby d_prog_8_2_39) rfl (rfl : _ = 41) ?_
          refine own_f_dstore X73.here hx (hb hby d_prog_8_2_41) (rfl : storeLocals _ _ _ = some #[.val (.ref a1), .val (.double dx), .second, .val (.double hi0), .second, .val (.int (1 : Int32)), .val (.int (1 : Int32)), .val (.double q1), .second, .val (.double q1), .second, .val (.double lo0), .second]) (rfl : _ = 43) ?_
          refine own_f_dloadN X73.here hx (hb hby d_prog_8_2_43) rfl (rfl : _ = 44) ?_
          refine own_f_dstore X73.here hx (hb hby d_prog_8_2_44) (rfl : storeLocals _ _ _ = some #[.val (.ref a1), .val (.double dx), .second, .val (.double hi0), .second, .val (.int (1 : Int32)), .val (.int (1 : Int32)), .val (.double hi0), .second, .val (.double q1), .second, .val (.double lo0), .second]) (rfl : _ = 46) ?_
          refine own_f_dload X73.here hx (hb hby d_prog_8_2_46) rfl (rfl : _ = 48) ?_
          refine own_f_dstoreN X73.here hx (hb hby d_prog_8_2_48) (rfl : storeLocals _ _ _ = some #[.val (.ref a1), .val (.double dx), .second, .val (.double q1), .second, .val (.int (1 : Int32)), .val (.int (1 : Int32)), .val (.double hi0), .second, .val (.double q1), .second, .val (.double lo0), .second]) (rfl : _ = 49) ?_
          refine own_f_dloadN X73.here hx (hb hby d_prog_8_2_49) rfl (rfl : _ = 50) ?_
          refine own_f_dload X73.here hx (hb hby d_prog_8_2_50) rfl (rfl : _ = 52) ?_
          refine own_f_dadd X73.here hx (hb hby d_prog_8_2_52) (na1) rfl (rfl : _ = 53) ?_
          refine own_f_dstore X73.here hx (hb hby d_prog_8_2_53) (rfl : storeLocals _ _ _ = some #[.val (.ref a1), .val (.double dx), .second, .val (.double q1), .second, .val (.int (1 : Int32)), .val (.int (1 : Int32)), .val (.double hi0), .second, .val (.double (FP.dadd q1 hi0)), .second, .val (.double lo0), .second]) (rfl : _ = 55) ?_
          refine own_f_dload X73.here hx (hb hby d_prog_8_2_55) rfl (rfl : _ = 57) ?_
          refine own_f_dload X73.here hx (hb hby d_prog_8_2_57) rfl (rfl : _ = 59) ?_
          refine own_f_dloadN X73.here hx (hb hby d_prog_8_2_59) rfl (rfl : _ = 60) ?_
          refine own_f_dsub X73.here hx (hb hby d_prog_8_2_60) (nb1) rfl (rfl : _ = 61) ?_
          refine own_f_dsub X73.here hx (hb hby d_prog_8_2_61) (nc1) rfl (rfl : _ = 62) ?_
          refine own_f_dstore X73.here hx (hb hby d_prog_8_2_62) (rfl : storeLocals _ _ _ = some #[.val (.ref a1), .val (.double dx), .second, .val (.double q1), .second, .val (.int (1 : Int32)), .val (.int (1 : Int32)), .val (.double hi0), .second, .val (.double (FP.dadd q1 hi0)), .second, .val (.double (FP.dsub hi0 (FP.dsub (FP.dadd q1 hi0) q1))), .second]) (rfl : _ = 64) ?_
          exact ht_
        · have e1 : own_fst hi0 q1 = hi0 := if_neg hsw
          have e2 : own_snd hi0 q1 = q1 := if_neg hsw
          rw [e1, e2] at ht_ na1 nb1 nc1
          have hs_ : ¬ ((cmpValue (FP.dcmp (hi0 &&& 0x7fffffffffffffff) (q1 &&& 0x7fffffffffffffff)) .g) < (0 : Int32)) := hsw
          refine own_f_ifYes X73.here hx (hb hby d_prog_8_2_36) ((if0 _ _).trans (flt (hs_)).2.1) (by decide) (by decide : _ = 49) ?_
          refine own_f_dloadN X73.here hx (hb hby d_prog_8_2_49) rfl (rfl : _ = 50) ?_
          refine own_f_dload X73.here hx (hb hby d_prog_8_2_50) rfl (rfl : _ = 52) ?_
          refine own_f_dadd X73.here hx (hb hby d_prog_8_2_52) (na1) rfl (rfl : _ = 53) ?_
          refine own_f_dstore X73.here hx (hb hby d_prog_8_2_53) (rfl : storeLocals _ _ _ = some #[.val (.ref a1), .val (.double dx), .second, .val (.double hi0), .second, .val (.int (1 : Int32)), .val (.int (1 : Int32)), .val (.double q1), .second, .val (.double (FP.dadd hi0 q1)), .second, .val (.double lo0), .second]) (rfl : _ = 55) ?_
          refine own_f_dload X73.here hx (hb hby d_prog_8_2_55) rfl (rfl : _ = 57) ?_
          refine own_f_dload X73.here hx (hb hby d_prog_8_2_57) rfl (rfl : _ = 59) ?_
          refine own_f_dloadN X73.here hx (hb hby d_prog_8_2_59) rfl (rfl : _ = 60) ?_
          refine own_f_dsub X73.here hx (hb hby d_prog_8_2_60) (nb1) rfl (rfl : _ = 61) ?_
          refine own_f_dsub X73.here hx (hb hby d_prog_8_2_61) (nc1) rfl (rfl : _ = 62) ?_
          refine own_f_dstore X73.here hx (hb hby d_prog_8_2_62) (rfl : storeLocals _ _ _ = some #[.val (.ref a1), .val (.double dx), .second, .val (.double hi0), .second, .val (.int (1 : Int32)), .val (.int (1 : Int32)), .val (.double q1), .second, .val (.double (FP.dadd hi0 q1)), .second, .val (.double (FP.dsub q1 (FP.dsub (FP.dadd hi0 q1) hi0))), .second]) (rfl : _ = 64) ?_
          exact ht_
      obtain ⟨hi1, hhi1⟩ : ∃ z : UInt64, z = (FP.dadd (own_fst hi0 q1) (own_snd hi0 q1)) := ⟨_, rfl⟩
      rw [← hhi1] at k75
      obtain ⟨lo1, hlo1⟩ : ∃ z : UInt64, z = (own_lo (own_fst hi0 q1) (own_snd hi0 q1)) := ⟨_, rfl⟩
      rw [← hlo1] at k75
      replace hnn := own_nn' hhi1 hnn
      have k76 : ∀ t_, Steps p.tables e below (T73.setTop (mkF m 68 #[.val (.ref a1), .val (.double dx), .second, .val (.double (own_fst hi0 q1)), .second, .val (.int (1 : Int32)), .val (.int (1 : Int32)), .val (.double (own_snd hi0 q1)), .second, .val (.double hi1), .second, .val (.double lo1), .second] [(.int (cmpValue (FP.dcmp lo1 (0 : UInt64)) .l))])) t_ → Steps p.tables e below A t_ := by
        intro t_ ht_
        refine k75 t_ ?_
        refine own_f_dload X73.here hx (hb hby d_prog_8_2_64) rfl (rfl : _ = 66) ?_
        refine own_f_dconst0 X73.here hx (hb hby d_prog_8_2_66) (rfl : _ = (0 : UInt64)) (rfl : _ = 67) ?_
        refine own_f_dcmp X73.here hx (hb hby d_prog_8_2_67) rfl (rfl : _ = 68) ?_
        exact ht_
      by_cases hz1 : (cmpValue (FP.dcmp lo1 (0 : UInt64)) .l) = (0 : Int32)
      · obtain ⟨T77, X77, e77, st77⟩ := getF X73 hx hZ hown (host := "") (Or.inl (hw _ (List.mem_of_getElem? (i := 17) rfl))) Via.refl e73 Fs (g := (mkF m 11 #[.val (.ref a1), .val (.double dx), .second, .val (.double hi1), .second, .val (.int (1 : Int32)), .val (.int (2 : Int32)), .val (.double (own_snd hi0 q1)), .second, .val (.double hi1), .second, .val (.double lo1), .second] [(.ref a1), (.int (2 : Int32))])) rfl rfl (hb hby d_prog_8_2_11)
        obtain ⟨T78, X78, e78, st78⟩ := getF X77 hx hZ hown (host := "") (Or.inl (hw _ (List.mem_of_getElem? (i := 10) rfl))) Via.refl e77 Fp (g := (mkF m 95 #[.val (.ref a1), .val (.double dx), .second, .val (.double hi1), .second, .val (.int (1 : Int32)), .val (.int (2 : Int32)), .val (.double (own_snd hi0 q1)), .second, .val (.double hi1), .second, .val (.double lo1), .second] [(.ref a1), (.int (1 : Int32))])) rfl rfl (hb hby d_prog_8_2_95)
        obtain ⟨cl79, Ar79, -, Sz79, Ng79, -, -⟩ := id Va
        obtain ⟨T80, X80, e80, st80⟩ := getF X78 hx hZ hown (host := "") (Or.inl (hw _ (List.mem_of_getElem? (i := 10) rfl))) Via.refl e78 Fp (g := (mkF m 118 #[.val (.ref a1), .val (.double dx), .second, .val (.double hi1), .second, .val (.int (1 : Int32)), .val (.int (2 : Int32)), .val (.double (own_snd hi0 q1)), .second, .val (.double hi1), .second, .val (.double lo1), .second] [(.ref a1)])) rfl rfl (hb hby d_prog_8_2_118)
        obtain ⟨cl81, Ar81, q81, Sz81, Ng81, Hs81, Gs81⟩ := Va
        have hin81 : ¬ ((1 : Int32) < 0 ∨ cl81.slots.size ≤ ((1 : Int32)).toNatClampNeg) := inb_of Sz81 ⟨by decide, by decide⟩
        obtain ⟨T82, h82, X82, e82, W82, st82⟩ := stD X80 hx hZ e80 Ar81 (j := (1 : Int32)) hin81 (g := (mkF m 127 #[.val (.ref a1), .val (.double dx), .second, .val (.double hi1), .second, .val (.int (2 : Int32)), .val (.int (2 : Int32)), .val (.double (own_snd hi0 q1)), .second, .val (.double hi1), .second, .val (.double lo1), .second] [(.double hi1), (.int (1 : Int32)), (.ref ar)])) rfl rfl (hb hby d_prog_8_2_127)
        replace Ea := Ea.wr W82
        replace Fp := Fp.other W82 (Or.inl hne)
        replace Fs := Fs.other W82 (Or.inl hne)
        have Zs82 := Nat.le_trans Zs68 (Keep.of_wr W82).1
        replace KK := KK.wr W82 (Or.inl (by simp))
        have Va : Arv Z h82 ar kc .double (4 : Int32) [(.double lo0), (.double hi1), (.double q2), (.double q3)] (.double (0 : UInt64)) := Arv.set Ar81 q81 Sz81 Ng81 Hs81 Gs81 rfl W82 1 rfl (Nat.le_of_ble_eq_true rfl)
        have N82 := Fr.snoc X82 N68 g_ar
        obtain ⟨T83, h83, X83, e83, W83, st83⟩ := putF X82 hx hZ hown (host := "") (Or.inl (hw _ (List.mem_of_getElem? (i := 17) rfl))) Via.refl e82 Fs Ea (Or.inl (hw _ (List.mem_of_getElem? (i := 18) rfl))) (hw _ (List.mem_of_getElem? (i := 1) rfl)) (ty := .int) (by decide) rfl rfl (g := (mkF m 131 #[.val (.ref a1), .val (.double dx), .second, .val (.double hi1), .second, .val (.int (2 : Int32)), .val (.int (2 : Int32)), .val (.double (own_snd hi0 q1)), .second, .val (.double hi1), .second, .val (.double lo1), .second] [(.int (2 : Int32)), (.ref a1)])) rfl rfl (hb hby d_prog_8_2_131)
        replace Ea := Ea.wr W83
        replace Fp := Fp.other W83 (Or.inr (slot_ne (Or.inl (hw _ (List.mem_of_getElem? (i := 11) rfl))) (Or.inl (hw _ (List.mem_of_getElem? (i := 18) rfl))) (by decide) (t := (.array .double)) (t' := .int) (by decide) (by decide)))
        replace Va := Va.other W83 (Ne.symm hne)
        have Zs83 := Nat.le_trans Zs82 (Keep.of_wr W83).1
        replace KK := KK.wr W83 (Or.inl (by simp))
        replace Fs := Fs.same W83
        have N83 := Fr.snoc X83 N82 g_a1
        obtain ⟨fs, hr, hrun, hended, hW, hsame⟩ := X83.leave (v := none) (fun _ => rfl) hlk
        refine ⟨_, _, ?_, hrun, hended, _, _, rfl, ?_, ⟨_, rfl⟩, hW, hsame.mono (by decide) (by decide)⟩
        · refine hA0 _ ?_
          refine k76 _ ?_
          refine own_f_ifYes X73.here hx (hb hby d_prog_8_2_68) ((if0 _ _).trans (teq (hz1)).1) (by decide) (by decide : _ = 83) ?_
          refine own_f_dload X73.here hx (hb hby d_prog_8_2_83) rfl (rfl : _ = 85) ?_
          refine own_f_dstoreN X73.here hx (hb hby d_prog_8_2_85) (rfl : storeLocals _ _ _ = some #[.val (.ref a1), .val (.double dx), .second, .val (.double hi1), .second, .val (.int (1 : Int32)), .val (.int (1 : Int32)), .val (.double (own_snd hi0 q1)), .second, .val (.double hi1), .second, .val (.double lo1), .second]) (rfl : _ = 86) ?_
          refine own_f_iinc X73.here hx (hb hby d_prog_8_2_86) rfl (rfl : storeLocals _ _ _ = some #[.val (.ref a1), .val (.double dx), .second, .val (.double hi1), .second, .val (.int (1 : Int32)), .val (.int (2 : Int32)), .val (.double (own_snd hi0 q1)), .second, .val (.double hi1), .second, .val (.double lo1), .second]) (rfl : _ = 89) ?_
          refine own_f_goto X73.here hx (hb hby d_prog_8_2_89) (by decide) (by decide : _ = 8) ?_
          refine own_f_iload X73.here hx (hb hby d_prog_8_2_8) rfl (rfl : _ = 10) ?_
          refine own_f_aloadN X73.here hx (hb hby d_prog_8_2_10) rfl rfl (rfl : _ = 11) ?_
          refine st77 _ ?_
          show Steps p.tables e below (T77.setTop (mkF m 14 #[.val (.ref a1), .val (.double dx), .second, .val (.double hi1), .second, .val (.int (1 : Int32)), .val (.int (2 : Int32)), .val (.double (own_snd hi0 q1)), .second, .val (.double hi1), .second, .val (.double lo1), .second] [(.int (2 : Int32)), (.int (2 : Int32))])) _
          refine own_f_icmpYes X77.here hx (hb hby d_prog_8_2_14) (flt (by decide)).2.1 (by decide) (by decide : _ = 92) ?_
          refine own_f_iload X77.here hx (hb hby d_prog_8_2_92) rfl (rfl : _ = 94) ?_
          refine own_f_aloadN X77.here hx (hb hby d_prog_8_2_94) rfl rfl (rfl : _ = 95) ?_
          refine st78 _ ?_
          show Steps p.tables e below (T78.setTop (mkF m 98 #[.val (.ref a1), .val (.double dx), .second, .val (.double hi1), .second, .val (.int (1 : Int32)), .val (.int (2 : Int32)), .val (.double (own_snd hi0 q1)), .second, .val (.double hi1), .second, .val (.double lo1), .second] [(.ref ar), (.int (1 : Int32))])) _
          refine X78.arraylength hx (by rw [e78]; exact Ar79.1) (State.isArrayOf_alike hZ.alike Ar79.2.1) (g := (mkF m 98 #[.val (.ref a1), .val (.double dx), .second, .val (.double hi1), .second, .val (.int (1 : Int32)), .val (.int (2 : Int32)), .val (.double (own_snd hi0 q1)), .second, .val (.double hi1), .second, .val (.double lo1), .second] [(.ref ar), (.int (1 : Int32))])) rfl rfl (hb hby d_prog_8_2_98) _ ?_
          rw [len_of Sz79 Ng79]
          show Steps p.tables e below (T78.setTop (mkF m 99 #[.val (.ref a1), .val (.double dx), .second, .val (.double hi1), .second, .val (.int (1 : Int32)), .val (.int (2 : Int32)), .val (.double (own_snd hi0 q1)), .second, .val (.double hi1), .second, .val (.double lo1), .second] [(.int (4 : Int32)), (.int (1 : Int32))])) _
          refine own_f_icmpYes X78.here hx (hb hby d_prog_8_2_99) (feq (by decide)).2 (by decide) (by decide : _ = 117) ?_
          refine own_f_aloadN X78.here hx (hb hby d_prog_8_2_117) rfl rfl (rfl : _ = 118) ?_
          refine st80 _ ?_
          show Steps p.tables e below (T80.setTop (mkF m 121 #[.val (.ref a1), .val (.double dx), .second, .val (.double hi1), .second, .val (.int (1 : Int32)), .val (.int (2 : Int32)), .val (.double (own_snd hi0 q1)), .second, .val (.double hi1), .second, .val (.double lo1), .second] [(.ref ar)])) _
          refine own_f_iload X80.here hx (hb hby d_prog_8_2_121) rfl (rfl : _ = 123) ?_
          refine own_f_iinc X80.here hx (hb hby d_prog_8_2_123) rfl (rfl : storeLocals _ _ _ = some #[.val (.ref a1), .val (.double dx), .second, .val (.double hi1), .second, .val (.int (2 : Int32)), .val (.int (2 : Int32)), .val (.double (own_snd hi0 q1)), .second, .val (.double hi1), .second, .val (.double lo1), .second]) (rfl : _ = 126) ?_
          refine own_f_dloadN X80.here hx (hb hby d_prog_8_2_126) rfl (rfl : _ = 127) ?_
          refine st82 _ ?_
          show Steps p.tables e below (T82.setTop (mkF m 128 #[.val (.ref a1), .val (.double dx), .second, .val (.double hi1), .second, .val (.int (2 : Int32)), .val (.int (2 : Int32)), .val (.double (own_snd hi0 q1)), .second, .val (.double hi1), .second, .val (.double lo1), .second] [])) _
          refine own_f_aloadN X82.here hx (hb hby d_prog_8_2_128) rfl rfl (rfl : _ = 129) ?_
          refine own_f_iload X82.here hx (hb hby d_prog_8_2_129) rfl (rfl : _ = 131) ?_
          refine st83 _ ?_
          show Steps p.tables e below (T83.setTop (mkF m 134 #[.val (.ref a1), .val (.double dx), .second, .val (.double hi1), .second, .val (.int (2 : Int32)), .val (.int (2 : Int32)), .val (.double (own_snd hi0 q1)), .second, .val (.double hi1), .second, .val (.double lo1), .second] [])) _
          exact X83.returnOut hx Bd.returns (hb hby d_prog_8_2_134) hr
        · show Q2 Z a1 dx _ ar kc q0 q1 q2 q3 _ h0 n0 _ T83.heap _
          rw [e83]
          exact ⟨(2 : Int32), lo0, hi1, q2, q3, rfl, N83, KK, Fp, Fs, Va, own_res (M := [lo0, hi1]) (by rw [own_ins_c hlo0 hhi0 hz0, own_ins_d hlo1 hhi1 hz1]; rfl) (by show Int32.toInt 2 = ((2 : Nat) : Int); decide) rfl⟩
      · obtain ⟨T84, X84, e84, st84⟩ := getF X73 hx hZ hown (host := "") (Or.inl (hw _ (List.mem_of_getElem? (i := 10) rfl))) Via.refl e73 Fp (g := (mkF m 72 #[.val (.ref a1), .val (.double dx), .second, .val (.double (own_fst hi0 q1)), .second, .val (.int (1 : Int32)), .val (.int (1 : Int32)), .val (.double (own_snd hi0 q1)), .second, .val (.double hi1), .second, .val (.double lo1), .second] [(.ref a1)])) rfl rfl (hb hby d_prog_8_2_72)
        obtain ⟨cl85, Ar85, q85, Sz85, Ng85, Hs85, Gs85⟩ := Va
        have hin85 : ¬ ((1 : Int32) < 0 ∨ cl85.slots.size ≤ ((1 : Int32)).toNatClampNeg) := inb_of Sz85 ⟨by decide, by decide⟩
        obtain ⟨T86, h86, X86, e86, W86, st86⟩ := stD X84 hx hZ e84 Ar85 (j := (1 : Int32)) hin85 (g := (mkF m 82 #[.val (.ref a1), .val (.double dx), .second, .val (.double (own_fst hi0 q1)), .second, .val (.int (2 : Int32)), .val (.int (1 : Int32)), .val (.double (own_snd hi0 q1)), .second, .val (.double hi1), .second, .val (.double lo1), .second] [(.double lo1), (.int (1 : Int32)), (.ref ar)])) rfl rfl (hb hby d_prog_8_2_82)
        replace Ea := Ea.wr W86
        replace Fp := Fp.other W86 (Or.inl hne)
        replace Fs := Fs.other W86 (Or.inl hne)
        have Zs86 := Nat.le_trans Zs68 (Keep.of_wr W86).1
        replace KK := KK.wr W86 (Or.inl (by simp))
        have Va : Arv Z h86 ar kc .double (4 : Int32) [(.double lo0), (.double lo1), (.double q2), (.double q3)] (.double (0 : UInt64)) := Arv.set Ar85 q85 Sz85 Ng85 Hs85 Gs85 rfl W86 1 rfl (Nat.le_of_ble_eq_true rfl)
        have N86 := Fr.snoc X86 N68 g_ar
        obtain ⟨T87, X87, e87, st87⟩ := getF X86 hx hZ hown (host := "") (Or.inl (hw _ (List.mem_of_getElem? (i := 17) rfl))) Via.refl e86 Fs (g := (mkF m 11 #[.val (.ref a1), .val (.double dx), .second, .val (.double hi1), .second, .val (.int (2 : Int32)), .val (.int (2 : Int32)), .val (.double (own_snd hi0 q1)), .second, .val (.double hi1), .second, .val (.double lo1), .second] [(.ref a1), (.int (2 : Int32))])) rfl rfl (hb hby d_prog_8_2_11)
        obtain ⟨T88, X88, e88, st88⟩ := getF X87 hx hZ hown (host := "") (Or.inl (hw _ (List.mem_of_getElem? (i := 10) rfl))) Via.refl e87 Fp (g := (mkF m 95 #[.val (.ref a1), .val (.double dx), .second, .val (.double hi1), .second, .val (.int (2 : Int32)), .val (.int (2 : Int32)), .val (.double (own_snd hi0 q1)), .second, .val (.double hi1), .second, .val (.double lo1), .second] [(.ref a1), (.int (2 : Int32))])) rfl rfl (hb hby d_prog_8_2_95)
        obtain ⟨cl89, Ar89, -, Sz89, Ng89, -, -⟩ := id Va
        obtain ⟨T90, X90, e90, st90⟩ := getF X88 hx hZ hown (host := "") (Or.inl (hw _ (List.mem_of_getElem? (i := 10) rfl))) Via.refl e88 Fp (g := (mkF m 118 #[.val (.ref a1), .val (.double dx), .second, .val (.double hi1), .second, .val (.int (2 : Int32)), .val (.int (2 : Int32)), .val (.double (own_snd hi0 q1)), .second, .val (.double hi1), .second, .val (.double lo1), .second] [(.ref a1)])) rfl rfl (hb hby d_prog_8_2_118)
        obtain ⟨cl91, Ar91, q91, Sz91, Ng91, Hs91, Gs91⟩ := Va
        have hin91 : ¬ ((2 : Int32) < 0 ∨ cl91.slots.size ≤ ((2 : Int32)).toNatClampNeg) := inb_of Sz91 ⟨by decide, by decide⟩
        obtain ⟨T92, h92, X92, e92, W92, st92⟩ := stD X90 hx hZ e90 Ar91 (j := (2 : Int32)) hin91 (g := (mkF m 127 #[.val (.ref a1), .val (.double dx), .second, .val (.double hi1), .second, .val (.int (3 : Int32)), .val (.int (2 : Int32)), .val (.double (own_snd hi0 q1)), .second, .val (.double hi1), .second, .val (.double lo1), .second] [(.double hi1), (.int (2 : Int32)), (.ref ar)])) rfl rfl (hb hby d_prog_8_2_127)
        replace Ea := Ea.wr W92
        replace Fp := Fp.other W92 (Or.inl hne)
        replace Fs := Fs.other W92 (Or.inl hne)
        have Zs92 := Nat.le_trans Zs86 (Keep.of_wr W92).1
        replace KK := KK.wr W92 (Or.inl (by simp))
        have Va : Arv Z h92 ar kc .double (4 : Int32) [(.double lo0), (.double lo1), (.double hi1), (.double q3)] (.double (0 : UInt64)) := Arv.set Ar91 q91 Sz91 Ng91 Hs91 Gs91 rfl W92 2 rfl (Nat.le_of_ble_eq_true rfl)
        have N92 := Fr.snoc X92 N86 g_ar
        obtain ⟨T93, h93, X93, e93, W93, st93⟩ := putF X92 hx hZ hown (host := "") (Or.inl (hw _ (List.mem_of_getElem? (i := 17) rfl))) Via.refl e92 Fs Ea (Or.inl (hw _ (List.mem_of_getElem? (i := 18) rfl))) (hw _ (List.mem_of_getElem? (i := 1) rfl)) (ty := .int) (by decide) rfl rfl (g := (mkF m 131 #[.val (.ref a1), .val (.double dx), .second, .val (.double hi1), .second, .val (.int (3 : Int32)), .val (.int (2 : Int32)), .val (.double (own_snd hi0 q1)), .second, .val (.double hi1), .second, .val (.double lo1), .second] [(.int (3 : Int32)), (.ref a1)])) rfl rfl (hb hby d_prog_8_2_131)
        replace Ea := Ea.wr W93
        replace Fp := Fp.other W93 (Or.inr (slot_ne (Or.inl (hw _ (List.mem_of_getElem? (i := 11) rfl))) (Or.inl (hw _ (List.mem_of_getElem? (i := 18) rfl))) (by decide) (t := (.array .double)) (t' := .int) (by decide) (by decide)))
        replace Va := Va.other W93 (Ne.symm hne)
        have Zs93 := Nat.le_trans Zs92 (Keep.of_wr W93).1
        replace KK := KK.wr W93 (Or.inl (by simp))
        replace Fs := Fs.same W93
        have N93 := Fr.snoc X93 N92 g_a1
        obtain ⟨fs, hr, hrun, hended, hW, hsame⟩ := X93.leave (v := none) (fun _ => rfl) hlk
        refine ⟨_, _, ?_, hrun, hended, _, _, rfl, ?_, ⟨_, rfl⟩, hW, hsame.mono (by decide) (by decide)⟩
        · refine hA0 _ ?_
          refine k76 _ ?_
          refine own_f_ifNo X73.here hx (hb hby d_prog_8_2_68) ((if0 _ _).trans (feq (hz1)).1) (rfl : _ = 71) ?_
          refine own_f_aloadN X73.here hx (hb hby d_prog_8_2_71) rfl rfl (rfl : _ = 72) ?_
          refine st84 _ ?_
          show Steps p.tables e below (T84.setTop (mkF m 75 #[.val (.ref a1), .val (.double dx), .second, .val (.double (own_fst hi0 q1)), .second, .val (.int (1 : Int32)), .val (.int (1 : Int32)), .val (.double (own_snd hi0 q1)), .second, .val (.double hi1), .second, .val (.double lo1), .second] [(.ref ar)])) _
          refine own_f_iload X84.here hx (hb hby d_prog_8_2_75) rfl (rfl : _ = 77) ?_
          refine own_f_iinc X84.here hx (hb hby d_prog_8_2_77) rfl (rfl : storeLocals _ _ _ = some #[.val (.ref a1), .val (.double dx), .second, .val (.double (own_fst hi0 q1)), .second, .val (.int (2 : Int32)), .val (.int (1 : Int32)), .val (.double (own_snd hi0 q1)), .second, .val (.double hi1), .second, .val (.double lo1), .second]) (rfl : _ = 80) ?_
          refine own_f_dload X84.here hx (hb hby d_prog_8_2_80) rfl (rfl : _ = 82) ?_
          refine st86 _ ?_
          show Steps p.tables e below (T86.setTop (mkF m 83 #[.val (.ref a1), .val (.double dx), .second, .val (.double (own_fst hi0 q1)), .second, .val (.int (2 : Int32)), .val (.int (1 : Int32)), .val (.double (own_snd hi0 q1)), .second, .val (.double hi1), .second, .val (.double lo1), .second] [])) _
          refine own_f_dload X86.here hx (hb hby d_prog_8_2_83) rfl (rfl : _ = 85) ?_
          refine own_f_dstoreN X86.here hx (hb hby d_prog_8_2_85) (rfl : storeLocals _ _ _ = some #[.val (.ref a1), .val (.double dx), .second, .val (.double hi1), .second, .val (.int (2 : Int32)), .val (.int (1 : Int32)), .val (.double (own_snd hi0 q1)), .second, .val (.double hi1), .second, .val (.double lo1), .second]) (rfl : _ = 86) ?_
          refine own_f_iinc X86.here hx (hb hby d_prog_8_2_86) rfl (rfl : storeLocals _ _ _ = some #[.val (.ref a1), .val (.double dx), .second, .val (.double hi1), .second, .val (.int (2 : Int32)), .val (.int (2 : Int32)), .val (.double (own_snd hi0 q1)), .second, .val (.double hi1), .second, .val (.double lo1), .second]) (rfl : _ = 89) ?_
          refine own_f_goto X86.here hx (hb hby d_prog_8_2_89) (by decide) (by decide : _ = 8) ?_
          refine own_f_iload X86.here hx (hb hby d_prog_8_2_8) rfl (rfl : _ = 10) ?_
          refine own_f_aloadN X86.here hx (hb hby d_prog_8_2_10) rfl rfl (rfl : _ = 11) ?_
          refine st87 _ ?_
          show Steps p.tables e below (T87.setTop (mkF m 14 #[.val (.ref a1), .val (.double dx), .second, .val (.double hi1), .second, .val (.int (2 : Int32)), .val (.int (2 : Int32)), .val (.double (own_snd hi0 q1)), .second, .val (.double hi1), .second, .val (.double lo1), .second] [(.int (2 : Int32)), (.int (2 : Int32))])) _
          refine own_f_icmpYes X87.here hx (hb hby d_prog_8_2_14) (flt (by decide)).2.1 (by decide) (by decide : _ = 92) ?_
          refine own_f_iload X87.here hx (hb hby d_prog_8_2_92) rfl (rfl : _ = 94) ?_
          refine own_f_aloadN X87.here hx (hb hby d_prog_8_2_94) rfl rfl (rfl : _ = 95) ?_
          refine st88 _ ?_
          show Steps p.tables e below (T88.setTop (mkF m 98 #[.val (.ref a1), .val (.double dx), .second, .val (.double hi1), .second, .val (.int (2 : Int32)), .val (.int (2 : Int32)), .val (.double (own_snd hi0 q1)), .second, .val (.double hi1), .second, .val (.double lo1), .second] [(.ref ar), (.int (2 : Int32))])) _
          refine X88.arraylength hx (by rw [e88]; exact Ar89.1) (State.isArrayOf_alike hZ.alike Ar89.2.1) (g := (mkF m 98 #[.val (.ref a1), .val (.double dx), .second, .val (.double hi1), .second, .val (.int (2 : Int32)), .val (.int (2 : Int32)), .val (.double (own_snd hi0 q1)), .second, .val (.double hi1), .second, .val (.double lo1), .second] [(.ref ar), (.int (2 : Int32))])) rfl rfl (hb hby d_prog_8_2_98) _ ?_
          rw [len_of Sz89 Ng89]
          show Steps p.tables e below (T88.setTop (mkF m 99 #[.val (.ref a1), .val (.double dx), .second, .val (.double hi1), .second, .val (.int (2 : Int32)), .val (.int (2 : Int32)), .val (.double (own_snd hi0 q1)), .second, .val (.double hi1), .second, .val (.double lo1), .second] [(.int (4 : Int32)), (.int (2 : Int32))])) _
          refine own_f_icmpYes X88.here hx (hb hby d_prog_8_2_99) (feq (by decide)).2 (by decide) (by decide : _ = 117) ?_
          refine own_f_aloadN X88.here hx (hb hby d_prog_8_2_117) rfl rfl (rfl : _ = 118) ?_
          refine st90 _ ?_
          show Steps p.tables e below (T90.setTop (mkF m 121 #[.val (.ref a1), .val (.double dx), .second, .val (.double hi1), .second, .val (.int (2 : Int32)), .val (.int (2 : Int32)), .val (.double (own_snd hi0 q1)), .second, .val (.double hi1), .second, .val (.double lo1), .second] [(.ref ar)])) _
          refine own_f_iload X90.here hx (hb hby d_prog_8_2_121) rfl (rfl : _ = 123) ?_
          refine own_f_iinc X90.here hx (hb hby d_prog_8_2_123) rfl (rfl : storeLocals _ _ _ = some #[.val (.ref a1), .val (.double dx), .second, .val (.double hi1), .second, .val (.int (3 : Int32)), .val (.int (2 : Int32)), .val (.double (own_snd hi0 q1)), .second, .val (.double hi1), .second, .val (.double lo1), .second]) (rfl : _ = 126) ?_
          refine own_f_dloadN X90.here hx (hb hby d_prog_8_2_126) rfl (rfl : _ = 127) ?_
          refine st92 _ ?_
          show Steps p.tables e below (T92.setTop (mkF m 128 #[.val (.ref a1), .val (.double dx), .second, .val (.double hi1), .second, .val (.int (3 : Int32)), .val (.int (2 : Int32)), .val (.double (own_snd hi0 q1)), .second, .val (.double hi1), .second, .val (.double lo1), .second] [])) _
          refine own_f_aloadN X92.here hx (hb hby d_prog_8_2_128) rfl rfl (rfl : _ = 129) ?_
          refine own_f_iload X92.here hx (hb hby d_prog_8_2_129) rfl (rfl : _ = 131) ?_
          refine st93 _ ?_
          show Steps p.tables e below (T93.setTop (mkF m 134 #[.val (.ref a1), .val (.double dx), .second, .val (.double hi1), .second, .val (.int (3 : Int32)), .val (.int (2 : Int32)), .val (.double (own_snd hi0 q1)), .second, .val (.double hi1), .second, .val (.double lo1), .second] [])) _
          exact X93.returnOut hx Bd.returns (hb hby d_prog_8_2_134) hr
        · show Q2 Z a1 dx _ ar kc q0 q1 q2 q3 _ h0 n0 _ T93.heap _
          rw [e93]
          exact ⟨(3 : Int32), lo0, lo1, hi1, q3, rfl, N93, KK, Fp, Fs, Va, own_res (M := [lo0, lo1, hi1]) (by rw [own_ins_c hlo0 hhi0 hz0, own_ins_c hlo1 hhi1 hz1]; rfl) (by show Int32.toInt 3 = ((3 : Nat) : Int); decide) rfl⟩
  · obtain rfl : qs = [q0, q1, q2] := own_qs hq 3 (by decide)
    obtain ⟨T94, X94, e94, st94⟩ := getF X0 hx hZ hown (host := "") (Or.inl (hw _ (List.mem_of_getElem? (i := 17) rfl))) Via.refl e0 Fs (g := (mkF m 11 #[.val (.ref a1), .val (.double dx), .second, .val (.double dx), .second, .val (.int (0 : Int32)), .val (.int (0 : Int32)), .unset, .unset, .unset, .unset, .unset, .unset] [(.ref a1), (.int (0 : Int32))])) rfl rfl (hb hby d_prog_8_2_11)
    obtain ⟨T95, X95, e95, st95⟩ := getF X94 hx hZ hown (host := "") (Or.inl (hw _ (List.mem_of_getElem? (i := 10) rfl))) Via.refl e94 Fp (g := (mkF m 18 #[.val (.ref a1), .val (.double dx), .second, .val (.double dx), .second, .val (.int (0 : Int32)), .val (.int (0 : Int32)), .unset, .unset, .unset, .unset, .unset, .unset] [(.ref a1)])) rfl rfl (hb hby d_prog_8_2_18)
    obtain ⟨cl96, Ar96, -, Sz96, Ng96, Hs96, -⟩ := id Va
    have hin96 : ¬ ((0 : Int32) < 0 ∨ cl96.slots.size ≤ ((0 : Int32)).toNatClampNeg) := inb_of Sz96 ⟨by decide, by decide⟩
    have hat96 : cl96.slots[((0 : Int32)).toNatClampNeg]? = some (.double q0) := Hs96 _ (Nat.lt_of_not_le fun q => hin96 (Or.inr q))
    obtain ⟨⟨nx0, nq0⟩, na0, nb0, nc0, -⟩ := own_nn hnn
    obtain ⟨T97, X97, e97, st97⟩ := natS X95 hx hZ hown (hw _ (List.mem_of_getElem? (i := 19) rfl)) (hw _ (List.mem_of_getElem? (i := 20) rfl)) (hw _ (List.mem_of_getElem? (i := 21) rfl)) (hw _ (List.mem_of_getElem? (i := 22) rfl)) (by decide) e95 (W := 0) (val' := (.double (dx &&& 0x7fffffffffffffff))) (fun c => Jvm.Free.Fl.Abs.absD_pays dx c (by decide) (by decide)) (g := (mkF m 27 #[.val (.ref a1), .val (.double dx), .second, .val (.double dx), .second, .val (.int (0 : Int32)), .val (.int (0 : Int32)), .val (.double q0), .second, .unset, .unset, .unset, .unset] [(.double dx)])) rfl (by rw [hml]; rfl) (argsL := [(.double dx)]) (rest := []) (lenOf pd_0 rfl) rfl (by show 2 * 0 + _ ≤ _; exact Nat.le_of_eq rfl) (hb hby d_prog_8_2_27) (by decide) (by decide) ⟨rfl, nx0⟩ rfl
    obtain ⟨T98, X98, e98, st98⟩ := natS X97 hx hZ hown (hw _ (List.mem_of_getElem? (i := 19) rfl)) (hw _ (List.mem_of_getElem? (i := 20) rfl)) (hw _ (List.mem_of_getElem? (i := 21) rfl)) (hw _ (List.mem_of_getElem? (i := 22) rfl)) (by decide) e97 (W := 2) (val' := (.double (q0 &&& 0x7fffffffffffffff))) (fun c => Jvm.Free.Fl.Abs.absD_pays q0 c (by decide) (by decide)) (g := (mkF m 32 #[.val (.ref a1), .val (.double dx), .second, .val (.double dx), .second, .val (.int (0 : Int32)), .val (.int (0 : Int32)), .val (.double q0), .second, .unset, .unset, .unset, .unset] [(.double q0), (.double (dx &&& 0x7fffffffffffffff))])) rfl (by rw [hml]; rfl) (argsL := [(.double q0)]) (rest := [(.double (dx &&& 0x7fffffffffffffff))]) (lenOf pd_0 rfl) rfl (by show 2 * 0 + _ ≤ _; exact Nat.le_of_eq rfl) (hb hby d_prog_8_2_32) (by decide) (by decide) ⟨rfl, nq0⟩ rfl
    have k99 : ∀ t_, Steps p.tables e below (T98.setTop (mkF m 36 #[.val (.ref a1), .val (.double dx), .second, .val (.double dx), .second, .val (.int (0 : Int32)), .val (.int (0 : Int32)), .val (.double q0), .second, .unset, .unset, .unset, .unset] [(.int (cmpValue (FP.dcmp (dx &&& 0x7fffffffffffffff) (q0 &&& 0x7fffffffffffffff)) .g))])) t_ → Steps p.tables e below A t_ := by
      intro t_ ht_
      refine k0 t_ ?_
      refine own_f_dloadN X0.here hx (hb hby d_prog_8_2_0) rfl (rfl : _ = 1) ?_
      refine own_f_dstoreN X0.here hx (hb hby d_prog_8_2_1) (rfl : storeLocals _ _ _ = some #[.val (.ref a1), .val (.double dx), .second, .val (.double dx), .second, .unset, .unset, .unset, .unset, .unset, .unset, .unset, .unset]) (rfl : _ = 2) ?_
      refine own_f_iconst X0.here hx (hb hby d_prog_8_2_2) (rfl : _ = (0 : Int32)) (rfl : _ = 3) ?_
      refine own_f_istore X0.here hx (hb hby d_prog_8_2_3) (rfl : storeLocals _ _ _ = some #[.val (.ref a1), .val (.double dx), .second, .val (.double dx), .second, .val (.int (0 : Int32)), .unset, .unset, .unset, .unset, .unset, .unset, .unset]) (rfl : _ = 5) ?_
      refine own_f_iconst X0.here hx (hb hby d_prog_8_2_5) (rfl : _ = (0 : Int32)) (rfl : _ = 6) ?_
      refine own_f_istore X0.here hx (hb hby d_prog_8_2_6) (rfl : storeLocals _ _ _ = some #[.val (.ref a1), .val (.double dx), .second, .val (.double dx), .second, .val (.int (0 : Int32)), .val (.int (0 : Int32)), .unset, .unset, .unset, .unset, .unset, .unset]) (rfl : _ = 8) ?_
      refine own_f_iload X0.here hx (hb hby d_prog_8_2_8) rfl (rfl : _ = 10) ?_
      refine own_f_aloadN X0.here hx (hb hby d_prog_8_2_10) rfl rfl (rfl : _ = 11) ?_
      refine st94 _ ?_
      show Steps p.tables e below (T94.setTop (mkF m 14 #[.val (.ref a1), .val (.double dx), .second, .val (.double dx), .second, .val (.int (0 : Int32)), .val (.int (0 : Int32)), .unset, .unset, .unset, .unset, .unset, .unset] [(.int (3 : Int32)), (.int (0 : Int32))])) t_
      refine own_f_icmpNo X94.here hx (hb hby d_prog_8_2_14) (tlt (by decide)).2.1 (rfl : _ = 17) ?_
      refine own_f_aloadN X94.here hx (hb hby d_prog_8_2_17) rfl rfl (rfl : _ = 18) ?_
      refine st95 _ ?_
      show Steps p.tables e below (T95.setTop (mkF m 21 #[.val (.ref a1), .val (.double dx), .second, .val (.double dx), .second, .val (.int (0 : Int32)), .val (.int (0 : Int32)), .unset, .unset, .unset, .unset, .unset, .unset] [(.ref ar)])) t_
      refine own_f_iload X95.here hx (hb hby d_prog_8_2_21) rfl (rfl : _ = 23) ?_
      refine X95.daload hx (j := (0 : Int32)) (v := (.double q0)) (by rw [e95]; exact Ar96.1) (State.isArrayOf_alike hZ.alike Ar96.2.1) Ar96.2.2 hin96 hat96 (g := (mkF m 23 #[.val (.ref a1), .val (.double dx), .second, .val (.double dx), .second, .val (.int (0 : Int32)), .val (.int (0 : Int32)), .unset, .unset, .unset, .unset, .unset, .unset] [(.int (0 : Int32)), (.ref ar)])) rfl rfl (hb hby d_prog_8_2_23) _ ?_
      show Steps p.tables e below (T95.setTop (mkF m 24 #[.val (.ref a1), .val (.double dx), .second, .val (.double dx), .second, .val (.int (0 : Int32)), .val (.int (0 : Int32)), .unset, .unset, .unset, .unset, .unset, .unset] [(.double q0)])) t_
      refine own_f_dstore X95.here hx (hb hby d_prog_8_2_24) (rfl : storeLocals _ _ _ = some #[.val (.ref a1), .val (.double dx), .second, .val (.double dx), .second, .val (.int (0 : Int32)), .val (.int (0 : Int32)), .val (.double q0), .second, .unset, .unset, .unset, .unset]) (rfl : _ = 26) ?_
      refine own_f_dloadN X95.here hx (hb hby d_prog_8_2_26) rfl (rfl : _ = 27) ?_
      refine st97 _ ?_
      show Steps p.tables e below (T97.setTop (mkF m 30 #[.val (.ref a1), .val (.double dx), .second, .val (.double dx), .second, .val (.int (0 : Int32)), .val (.int (0 : Int32)), .val (.double q0), .second, .unset, .unset, .unset, .unset] [(.double (dx &&& 0x7fffffffffffffff))])) t_
      refine own_f_dload X97.here hx (hb hby d_prog_8_2_30) rfl (rfl : _ = 32) ?_
      refine st98 _ ?_
      show Steps p.tables e below (T98.setTop (mkF m 35 #[.val (.ref a1), .val (.double dx), .second, .val (.double dx), .second, .val (.int (0 : Int32)), .val (.int (0 : Int32)), .val (.double q0), .second, .unset, .unset, .unset, .unset] [(.double (q0 &&& 0x7fffffffffffffff)), (.double (dx &&& 0x7fffffffffffffff))])) t_
      refine own_f_dcmp X98.here hx (hb hby d_prog_8_2_35) rfl (rfl : _ = 36) ?_
      exact ht_
    have k100 : ∀ t_, Steps p.tables e below (T98.setTop (mkF m 64 #[.val (.ref a1), .val (.double dx), .second, .val (.double (own_fst dx q0)), .second, .val (.int (0 : Int32)), .val (.int (0 : Int32)), .val (.double (own_snd dx q0)), .second, .val (.double (FP.dadd (own_fst dx q0) (own_snd dx q0))), .second, .val (.double (own_lo (own_fst dx q0) (own_snd dx q0))), .second] [])) t_ → Steps p.tables e below A t_ := by
      intro t_ ht_
      refine k99 t_ ?_
      by_cases hsw : own_lt dx q0
      · have e1 : own_fst dx q0 = q0 := if_pos hsw
        have e2 : own_snd dx q0 = dx := if_pos hsw
        rw [e1, e2] at ht_ na0 nb0 nc0
        have hs_ : (cmpValue (FP.dcmp (dx &&& 0x7fffffffffffffff) (q0 &&& 0x7fffffffffffffff)) .g) < (0 : Int32) := hsw
        refine own_f_ifNo X98.here hx (hb hby d_prog_8_2_36) ((if0 _ _).trans (tlt (hs_)).2.1) (rfl : _ = 39) ?_
        refine own_f_dload X98.here hx (hb hby d_prog_8_2_39) rfl (rfl : _ = 41) ?_
        refine own_f_dstore X98.here hx (hb hby d_prog_8_2_41) (rfl : storeLocals _ _ _ = some #[.val (.ref a1), .val (.double dx), .second, .val (.double dx), .second, .val (.int (0 : Int32)), .val (.int (0 : Int32)), .val (.double q0), .second, .val (.double q0), .second, .unset, .unset]) (rfl : _ = 43) ?_
        refine own_f_dloadN X98.here hx (hb hby d_prog_8_2_43) rfl (rfl : _ = 44) ?_
        refine own_f_dstore X98.here hx (hb hby d_prog_8_2_44) (rfl : storeLocals _ _ _ = some #[.val (.ref a1), .val (.double dx), .second, .val (.double dx), .second, .val (.int (0 : Int32)), .val (.int (0 : Int32)), .val (.double dx), .second, .val (.double q0), .second, .unset, .unset]) (rfl : _ = 46) ?_
        refine own_f_dload X98.here hx (hb hby d_prog_8_2_46) rfl (rfl : _ = 48) ?_
        refine own_f_dstoreN X98.here hx (hb hby d_prog_8_2_48) (rfl : storeLocals _ _ _ = some #[.val (.ref a1), .val (.double dx), .second, .val (.double q0), .second, .val (.int (0 : Int32)), .val (.int (0 : Int32)), .val (.double dx), .second, .val (.double q0), .second, .unset, .unset]) (rfl : _ = 49) ?_
        refine own_f_dloadN X98.here hx (hb hby d_prog_8_2_49) rfl (rfl : _ = 50) ?_
        refine own_f_dload X98.here hx (hb hby d_prog_8_2_50) rfl (rfl : _ = 52) ?_
        refine own_f_dadd X98.here hx (hb hby d_prog_8_2_52) (na0) rfl (rfl : _ = 53) ?_
        refine own_f_dstore X98.here hx (hb hby d_prog_8_2_53) (rfl : storeLocals _ _ _ = some #[.val (.ref a1), .val (.double dx), .second, .val (.double q0), .second, .val (.int (0 : Int32)), .val (.int (0 : Int32)), .val (.double dx), .second, .val (.double (FP.dadd q0 dx)), .second, .unset, .unset]) (rfl : _ = 55) ?_
        refine own_f_dload X98.here hx (hb hby d_prog_8_2_55) rfl (rfl : _ = 57) ?_
        refine own_f_dload X98.here hx (hb hby d_prog_8_2_57) rfl (rfl : _ = 59) ?_
        refine own_f_dloadN X98.here hx (hb hby d_prog_8_2_59) rfl (rfl : _ = 60) ?_
        refine own_f_dsub X98.here hx (hb hby d_prog_8_2_60) (nb0) rfl (rfl : _ = 61) ?_
        refine own_f_dsub X98.here hx (hb hby d_prog_8_2_61) (nc0) rfl (rfl : _ = 62) ?_
        refine own_f_dstore X98.here hx (hb hby d_prog_8_2_62) (rfl : storeLocals _ _ _ = some #[.val (.ref a1), .val (.double dx), .second, .val (.double q0), .second, .val (.int (0 : Int32)), .val (.int (0 : Int32)), .val (.double dx), .second, .val (.double (FP.dadd q0 dx)), .second, .val (.double (FP.dsub dx (FP.dsub (FP.dadd q0 dx) q0))), .second]) (rfl : _ = 64) ?_
        exact ht_
      · have e1 : own_fst dx q0 = dx := if_neg hsw
        have e2 : own_snd dx q0 = q0 := if_neg hsw
        rw [e1, e2] at ht_ na0 nb0 nc0
        have hs_ : ¬ ((cmpValue (FP.dcmp (dx &&& 0x7fffffffffffffff) (q0 &&& 0x7fffffffffffffff)) .g) < (0 : Int32)) := hsw
        refine own_f_ifYes X98.here hx (hb hby d_prog_8_2_36) ((if0 _ _).trans (flt (hs_)).2.1) (by decide) (by decide : _ = 49) ?_
        refine own_f_dloadN X98.here hx (hb hby d_prog_8_2_49) rfl (rfl : _ = 50) ?_
        refine own_f_dload X98.here hx (hb hby d_prog_8_2_50) rfl (rfl : _ = 52) ?_
        refine own_f_dadd X98.here hx (hb hby d_prog_8_2_52) (na0) rfl (rfl : _ = 53) ?_
        refine own_f_dstore X98.here hx (hb hby d_prog_8_2_53) (rfl : storeLocals _ _ _ = some #[.val (.ref a1), .val (.double dx), .second, .val (.double dx), .second, .val (.int (0 : Int32)), .val (.int (0 : Int32)), .val (.double q0), .second, .val (.double (FP.dadd dx q0)), .second, .unset, .unset]) (rfl : _ = 55) ?_
        refine own_f_dload X98.here hx (hb hby d_prog_8_2_55) rfl (rfl : _ = 57) ?_
        refine own_f_dload X98.here hx (hb hby d_prog_8_2_57) rfl (rfl : _ = 59) ?_
        refine own_f_dloadN X98.here hx (hb hby d_prog_8_2_59) rfl (rfl : _ = 60) ?_
        refine own_f_dsub X98.here hx (hb hby d_prog_8_2_60) (nb0) rfl (rfl : _ = 61) ?_
        refine own_f_dsub X98.here hx (hb hby d_prog_8_2_61) (nc0) rfl (rfl : _ = 62) ?_
        refine own_f_dstore X98.here hx (hb hby d_prog_8_2_62) (rfl : storeLocals _ _ _ = some #[.val (.ref a1), .val (.double dx), .second, .val (.double dx), .second, .val (.int (0 : Int32)), .val (.int (0 : Int32)), .val (.double q0), .second, .val (.double (FP.dadd dx q0)), .second, .val (.double (FP.dsub q0 (FP.dsub (FP.dadd dx q0) dx))), .second]) (rfl : _ = 64) ?_
        exact ht_
    obtain ⟨hi0, hhi0⟩ : ∃ z : UInt64, z = (FP.dadd (own_fst dx q0) (own_snd dx q0)) := ⟨_, rfl⟩
    rw [← hhi0] at k100
    obtain ⟨lo0, hlo0⟩ : ∃ z : UInt64, z = (own_lo (own_fst dx q0) (own_snd dx q0)) := ⟨_, rfl⟩
    rw [← hlo0] at k100
    replace hnn := own_nn' hhi0 hnn
    have k101 : ∀ t_, Steps p.tables e below (T98.setTop (mkF m 68 #[.val (.ref a1), .val (.double dx), .second, .val (.double (own_fst dx q0)), .second, .val (.int (0 : Int32)), .val (.int (0 : Int32)), .val (.double (own_snd dx q0)), .second, .val (.double hi0), .second, .val (.double lo0), .second] [(.int (cmpValue (FP.dcmp lo0 (0 : UInt64)) .l))])) t_ → Steps p.tables e below A t_ := by
      intro t_ ht_
      refine k100 t_ ?_
      refine own_f_dload X98.here hx (hb hby d_prog_8_2_64) rfl (rfl : _ = 66) ?_
      refine own_f_dconst0 X98.here hx (hb hby d_prog_8_2_66) (rfl : _ = (0 : UInt64)) (rfl : _ = 67) ?_
      refine own_f_dcmp X98.here hx (hb hby d_prog_8_2_67) rfl (rfl : _ = 68) ?_
      exact ht_
    by_cases hz0 : (cmpValue (FP.dcmp lo0 (0 : UInt64)) .l) = (0 : Int32)
    · obtain ⟨T102, X102, e102, st102⟩ := getF X98 hx hZ hown (host := "") (Or.inl (hw _ (List.mem_of_getElem? (i := 17) rfl))) Via.refl e98 Fs (g := (mkF m 11 #[.val (.ref a1), .val (.double dx), .second, .val (.double hi0), .second, .val (.int (0 : Int32)), .val (.int (1 : Int32)), .val (.double (own_snd dx q0)), .second, .val (.double hi0), .second, .val (.double lo0), .second] [(.ref a1), (.int (1 : Int32))])) rfl rfl (hb hby d_prog_8_2_11)
      obtain ⟨T103, X103, e103, st103⟩ := getF X102 hx hZ hown (host := "") (Or.inl (hw _ (List.mem_of_getElem? (i := 10) rfl))) Via.refl e102 Fp (g := (mkF m 18 #[.val (.ref a1), .val (.double dx), .second, .val (.double hi0), .second, .val (.int (0 : Int32)), .val (.int (1 : Int32)), .val (.double (own_snd dx q0)), .second, .val (.double hi0), .second, .val (.double lo0), .second] [(.ref a1)])) rfl rfl (hb hby d_prog_8_2_18)
      obtain ⟨cl104, Ar104, -, Sz104, Ng104, Hs104, -⟩ := id Va
      have hin104 : ¬ ((1 : Int32) < 0 ∨ cl104.slots.size ≤ ((1 : Int32)).toNatClampNeg) := inb_of Sz104 ⟨by decide, by decide⟩
      have hat104 : cl104.slots[((1 : Int32)).toNatClampNeg]? = some (.double q1) := Hs104 _ (Nat.lt_of_not_le fun q => hin104 (Or.inr q))
      obtain ⟨⟨nx1, nq1⟩, na1, nb1, nc1, -⟩ := own_nn hnn
      obtain ⟨T105, X105, e105, st105⟩ := natS X103 hx hZ hown (hw _ (List.mem_of_getElem? (i := 19) rfl)) (hw _ (List.mem_of_getElem? (i := 20) rfl)) (hw _ (List.mem_of_getElem? (i := 21) rfl)) (hw _ (List.mem_of_getElem? (i := 22) rfl)) (by decide) e103 (W := 0) (val' := (.double (hi0 &&& 0x7fffffffffffffff))) (fun c => Jvm.Free.Fl.Abs.absD_pays hi0 c (by decide) (by decide)) (g := (mkF m 27 #[.val (.ref a1), .val (.double dx), .second, .val (.double hi0), .second, .val (.int (0 : Int32)), .val (.int (1 : Int32)), .val (.double q1), .second, .val (.double hi0), .second, .val (.double lo0), .second] [(.double hi0)])) rfl (by rw [hml]; rfl) (argsL := [(.double hi0)]) (rest := []) (lenOf pd_0 rfl) rfl (by show 2 * 0 + _ ≤ _; exact Nat.le_of_eq rfl) (hb hby d_prog_8_2_27) (by decide) (by decide) ⟨rfl, nx1⟩ rfl
      obtain ⟨T106, X106, e106, st106⟩ := natS X105 hx hZ hown (hw _ (List.mem_of_getElem? (i := 19) rfl)) (hw _ (List.mem_of_getElem? (i := 20) rfl)) (hw _ (List.mem_of_getElem? (i := 21) rfl)) (hw _ (List.mem_of_getElem? (i := 22) rfl)) (by decide) e105 (W := 2) (val' := (.double (q1 &&& 0x7fffffffffffffff))) (fun c => Jvm.Free.Fl.Abs.absD_pays q1 c (by decide) (by decide)) (g := (mkF m 32 #[.val (.ref a1), .val (.double dx), .second, .val (.double hi0), .second, .val (.int (0 : Int32)), .val (.int (1 : Int32)), .val (.double q1), .second, .val (.double hi0), .second, .val (.double lo0), .second] [(.double q1), (.double (hi0 &&& 0x7fffffffffffffff))])) rfl (by rw [hml]; rfl) (argsL := [(.double q1)]) (rest := [(.double (hi0 &&& 0x7fffffffffffffff))]) (lenOf pd_0 rfl) rfl (by show 2 * 0 + _ ≤ _; exact Nat.le_of_eq rfl) (hb hby d_prog_8_2_32) (by decide) (by decide) ⟨rfl, nq1⟩ rfl
      have k107 : ∀ t_, Steps p.tables e below (T106.setTop (mkF m 36 #[.val (.ref a1), .val (.double dx), .second, .val (.double hi0), .second, .val (.int (0 : Int32)), .val (.int (1 : Int32)), .val (.double q1), .second, .val (.double hi0), .second, .val (.double lo0), .second] [(.int (cmpValue (FP.dcmp (hi0 &&& 0x7fffffffffffffff) (q1 &&& 0x7fffffffffffffff)) .g))])) t_ → Steps p.tables e below A t_ := by
        intro t_ ht_
        refine k101 t_ ?_
        refine own_f_ifYes X98.here hx (hb hby d_prog_8_2_68) ((if0 _ _).trans (teq (hz0)).1) (by decide) (by decide : _ = 83) ?_
        refine own_f_dload X98.here hx (hb hby d_prog_8_2_83) rfl (rfl : _ = 85) ?_
        refine own_f_dstoreN X98.here hx (hb hby d_prog_8_2_85) (rfl : storeLocals _ _ _ = some #[.val (.ref a1), .val (.double dx), .second, .val (.double hi0), .second, .val (.int (0 : Int32)), .val (.int (0 : Int32)), .val (.double (own_snd dx q0)), .second, .val (.double hi0), .second, .val (.double lo0), .second]) (rfl : _ = 86) ?_
        refine own_f_iinc X98.here hx (hb hby d_prog_8_2_86) rfl (rfl : storeLocals _ _ _ = some #[.val (.ref a1), .val (.double dx), .second, .val (.double hi0), .second, .val (.int (0 : Int32)), .val (.int (1 : Int32)), .val (.double (own_snd dx q0)), .second, .val (.double hi0), .second, .val (.double lo0), .second]) (rfl : _ = 89) ?_
        refine own_f_goto X98.here hx (hb hby d_prog_8_2_89) (by decide) (by decide : _ = 8) ?_
        refine own_f_iload X98.here hx (hb hby d_prog_8_2_8) rfl (rfl : _ = 10) ?_
        refine own_f_aloadN X98.here hx (hb hby d_prog_8_2_10) rfl rfl (rfl : _ = 11) ?_
        refine st102 _ ?_
        show Steps p.tables e below (T102.setTop (mkF m 14 #[.val (.ref a1), .val (.double dx), .second, .val (.double hi0), .second, .val (.int (0 : Int32)), .val (.int (1 : Int32)), .val (.double (own_snd dx q0)), .second, .val (.double hi0), .second, .val (.double lo0), .second] [(.int (3 : Int32)), (.int (1 : Int32))])) t_
        refine own_f_icmpNo X102.here hx (hb hby d_prog_8_2_14) (tlt (by decide)).2.1 (rfl : _ = 17) ?_
        refine own_f_aloadN X102.here hx (hb hby d_prog_8_2_17) rfl rfl (rfl : _ = 18) ?_
        refine st103 _ ?_
        show Steps p.tables e below (T103.setTop (mkF m 21 #[.val (.ref a1), .val (.double dx), .second, .val (.double hi0), .second, .val (.int (0 : Int32)), .val (.int (1 : Int32)), .val (.double (own_snd dx q0)), .second, .val (.double hi0), .second, .val (.double lo0), .second] [(.ref ar)])) t_
        refine own_f_iload X103.here hx (hb hby d_prog_8_2_21) rfl (rfl : _ = 23) ?_
        refine X103.daload hx (j := (1 : Int32)) (v := (.double q1)) (by rw [e103]; exact Ar104.1) (State.isArrayOf_alike hZ.alike Ar104.2.1) Ar104.2.2 hin104 hat104 (g := (mkF m 23 #[.val (.ref a1), .val (.double dx), .second, .val (.double hi0), .second, .val (.int (0 : Int32)), .val (.int (1 : Int32)), .val (.double (own_snd dx q0)), .second, .val (.double hi0), .second, .val (.double lo0), .second] [(.int (1 : Int32)), (.ref ar)])) rfl rfl (hb hby d_prog_8_2_23) _ ?_
        show Steps p.tables e below (T103.setTop (mkF m 24 #[.val (.ref a1), .val (.double dx), .second, .val (.double hi0), .second, .val (.int (0 : Int32)), .val (.int (1 : Int32)), .val (.double (own_snd dx q0)), .second, .val (.double hi0), .second, .val (.double lo0), .second] [(.double q1)])) t_
        refine own_f_dstore X103.here hx (hb hby d_prog_8_2_24) (rfl : storeLocals _ _ _ = some #[.val (.ref a1), .val (.double dx), .second, .val (.double hi0), .second, .val (.int (0 : Int32)), .val (.int (1 : Int32)), .val (.double q1), .second, .val (.double hi0), .second, .val (.double lo0), .second]) (rfl : _ = 26) ?_
        refine own_f_dloadN X103.here hx (hb hby d_prog_8_2_26) rfl (rfl : _ = 27) ?_
        refine st105 _ ?_
        show Steps p.tables e below (T105.setTop (mkF m 30 #[.val (.ref a1), .val (.double dx), .second, .val (.double hi0), .second, .val (.int (0 : Int32)), .val (.int (1 : Int32)), .val (.double q1), .second, .val (.double hi0), .second, .val (.double lo0), .second] [(.double (hi0 &&& 0x7fffffffffffffff))])) t_
        refine own_f_dload X105.here hx (hb hby d_prog_8_2_30) rfl (rfl : _ = 32) ?_
        refine st106 _ ?_
        show Steps p.tables e below (T106.setTop (mkF m 35 #[.val (.ref a1), .val (.double dx), .second, .val (.double hi0), .second, .val (.int (0 : Int32)), .val (.int (1 : Int32)), .val (.double q1), .second, .val (.double hi0), .second, .val (.double lo0), .second] [(.double (q1 &&& 0x7fffffffffffffff)), (.double (hi0 &&& 0x7fffffffffffffff))])) t_
        refine own_f_dcmp X106.here hx (hb hby d_prog_8_2_35) rfl (rfl : _ = 36) ?_
        exact ht_
      have k108 : ∀ t_, Steps p.tables e below (T106.setTop (mkF m 64 #[.val (.ref a1), .val (.double dx), .second, .val (.double (own_fst hi0 q1)), .second, .val (.int (0 : Int32)), .val (.int (1 : Int32)), .val (.double (own_snd hi0 q1)), .second, .val (.double (FP.dadd (own_fst hi0 q1) (own_snd hi0 q1))), .second, .val (.double (own_lo (own_fst hi0 q1) (own_snd hi0 q1))), .second] [])) t_ → Steps p.tables e below A t_ := by
        intro t_ ht_
        refine k107 t_ ?_
        by_cases hsw : own_lt hi0 q1
        · have e1 : own_fst hi0 q1 = q1 := if_pos hsw
          have e2 : own_snd hi0 q1 = hi0 := if_pos hsw
          rw [e1, e2] at ht_ na1 nb1 nc1
          have hs_ : (cmpValue (FP.dcmp (hi0 &&& 0x7fffffffffffffff) (q1 &&& 0x7fffffffffffffff)) .g) < (0 : Int32) := hsw
          refine own_f_ifNo X106.here hx (hb hby d_prog_8_2_36) ((if0 _ _).trans (tlt (hs_)).2.1) (rfl : _ = 39) ?_
          refine own_f_dload X106.here hx (hb hby d_prog_8_2_39) rfl (rfl : _ = 41) ?_
          refine own_f_dstore X106.here hx (hb hby d_prog_8_2_41) (rfl : storeLocals _ _ _ = some #[.val (.ref a1), .val (.double dx), .second, .val (.double hi0), .second, .val (.int (0 : Int32)), .val (.int (1 : Int32)), .val (.double q1), .second, .val (.double q1), .second, .val (.double lo0), .second]) (rfl : _ = 43) ?_
          refine own_f_dloadN X106.here hx (hb hby d_prog_8_2_43) rfl (rfl : _ = 44) ?_
          refine own_f_dstore X106.here hx (hb hby d_prog_8_2_44) (rfl : storeLocals _ _ _ = some #[.val (.ref a1), .val (.double dx), .second, .val (.double hi0), .second, .val (.int (0 : Int32)), .val (.int (1 : Int32)), .val (.double hi0), .second, .val (.double q1), .second, .val (.double lo0), .second]) (rfl : _ = 46) ?_
          refine own_f_dload X106.here hx (hb hby d_prog_8_2_46) rfl (rfl : _ = 48) ?_
          refine own_f_dstoreN X106.here hx (hb hby d_prog_8_2_48) (rfl : storeLocals _ _ _ = some #[.val (.ref a1), .val (.double dx), .second, .val (.double q1), .second, .val (.int (0 : Int32)), .val (.int (1 : Int32)), .val (.double hi0), .second, .val (.double q1), .second, .val (.double lo0), .second]) (rfl : _ = 49) ?_
          refine own_f_dloadN X106.here hx (hb hby d_prog_8_2_49) rfl (rfl : _ = 50) ?_
          refine own_f_dload X106.here hx (hb hby d_prog_8_2_50) rfl (rfl : _ = 52) ?_
          refine own_f_dadd X106.here hx (hb hby d_prog_8_2_52) (na1) rfl (rfl : _ = 53) ?_
          refine own_f_dstore X106.here hx (hb hby d_prog_8_2_53) (rfl : storeLocals _ _ _ = some #[.val (.ref a1), .val (.double dx), .second, .val (.double q1), .second, .val (.int (0 : Int32)), .val (.int (1 : Int32)), .val (.double hi0), .second, .val (.double (FP.dadd q1 hi0)), .second, .val (.double lo0), .second]) (rfl : _ = 55) ?_
          refine own_f_dload X106.here hx (hb hby d_prog_8_2_55) rfl (rfl : _ = 57) ?_
          refine own_f_dload X106.here hx (hb hby d_prog_8_2_57) rfl (rfl : _ = 59) ?_
          refine own_f_dloadN X106.here hx (hb hby d_prog_8_2_59) rfl (rfl : _ = 60) ?_
          refine own_f_dsub X106.here hx (hb hby d_prog_8_2_60) (nb1) rfl (rfl : _ = 61) ?_
          refine own_f_dsub X106.here hx (hb hby d_prog_8_2_61) (nc1) rfl (rfl : _ = 62) ?_
          refine own_f_dstore X106.here hx (hb hby d_prog_8_2_62) (rfl : storeLocals _ _ _ = some #[.val (.ref a1), .val (.double dx), .second, .val (.double q1), .second, .val (.int (0 : Int32)), .val (.int (1 : Int32)), .val (.double hi0), .second, .val (.double (FP.dadd q1 hi0)), .second, .val (.double (FP.dsub hi0 (FP.dsub (FP.dadd q1 hi0) q1))), .second]) (rfl : _ = 64) ?_
          exact ht_
        · have e1 : own_fst hi0 q1 = hi0 := if_neg hsw
          have e2 : own_snd hi0 q1 = q1 := if_neg hsw
          rw [e1, e2] at ht_ na1 nb1 nc1
          have hs_ : ¬ ((cmpValue (FP.dcmp (hi0 &&& 0x7fffffffffffffff) (q1 &&& 0x7fffffffffffffff)) .g) < (0 : Int32)) := hsw
          refine own_f_ifYes X106.here hx (hb hby d_prog_8_2_36) ((if0 _ _).trans (flt (hs_)).2.1) (by decide) (by decide : _ = 49) ?_
          refine own_f_dloadN X106.here hx (hb hby d_prog_8_2_49) rfl (rfl : _ = 50) ?_
          refine own_f_dload X106.here hx (hb hby d_prog_8_2_50) rfl (rfl : _ = 52) ?_
          refine own_f_dadd X106.here hx (hb hby d_prog_8_2_52) (na1) rfl (rfl : _ = 53) ?_
          refine own_f_dstore X106.here hx (hb hby d_prog_8_2_53) (rfl : storeLocals _ _ _ = some #[.val (.ref a1), .val (.double dx), .second, .val (.double hi0), .second, .val (.int (0 : Int32)), .val (.int (1 : Int32)), .val (.double q1), .second, .val (.double (FP.dadd hi0 q1)), .second, .val (.double lo0), .second]) (rfl : _ = 55) ?_
          refine own_f_dload X106.here hx (hb hby d_prog_8_2_55) rfl (rfl : _ = 57) ?_
          refine own_f_dload X106.here hx (hb hby d_prog_8_2_57) rfl (rfl : _ = 59) ?_
          refine own_f_dloadN X106.here hx (hb hby d_prog_8_2_59) rfl (rfl : _ = 60) ?_
          refine own_f_dsub X106.here hx (hb hby d_prog_8_2_60) (nb1) rfl (rfl : _ = 61) ?_
          refine own_f_dsub X106.here hx (hb hby d_prog_8_2_61) (nc1) rfl (rfl : _ = 62) ?_
          refine own_f_dstore X106.here hx (hb hby d_prog_8_2_62) (rfl : storeLocals _ _ _ = some #[.val (.ref a1), .val (.double dx), .second, .val (.double hi0), .second, .val (.int (0 : Int32)), .val (.int (1 : Int32)), .val (.double q1), .second, .val (.double (FP.dadd hi0 q1)), .second, .val (.double (FP.dsub q1 (FP.dsub (FP.dadd hi0 q1) hi0))), .second]) (rfl : _ = 64) ?_
          exact ht_
      obtain ⟨hi1, hhi1⟩ : ∃ z : UInt64, z = (FP.dadd (own_fst hi0 q1) (own_snd hi0 q1)) := ⟨_, rfl⟩
      rw [← hhi1] at k108
      obtain ⟨lo1, hlo1⟩ : ∃ z : UInt64, z = (own_lo (own_fst hi0 q1) (own_snd hi0 q1)) := ⟨_, rfl⟩
      rw [← hlo1] at k108
      replace hnn := own_nn' hhi1 hnn
      have k109 : ∀ t_, Steps p.tables e below (T106.setTop (mkF m 68 #[.val (.ref a1), .val (.double dx), .second, .val (.double (own_fst hi0 q1)), .second, .val (.int (0 : Int32)), .val (.int (1 : Int32)), .val (.double (own_snd hi0 q1)), .second, .val (.double hi1), .second, .val (.double lo1), .second] [(.int (cmpValue (FP.dcmp lo1 (0 : UInt64)) .l))])) t_ → Steps p.tables e below A t_ := by
        intro t_ ht_
        refine k108 t_ ?_
        refine own_f_dload X106.here hx (hb hby d_prog_8_2_64) rfl (rfl : _ = 66) ?_
        refine own_f_dconst0 X106.here hx (hb hby d_prog_8_2_66) (rfl : _ = (0 : UInt64)) (rfl : _ = 67) ?_
        refine own_f_dcmp X106.here hx (hb hby d_prog_8_2_67) rfl (rfl : _ = 68) ?_
        exact ht_
      by_cases hz1 : (cmpValue (FP.dcmp lo1 (0 : UInt64)) .l) = (0 : Int32)
      · obtain ⟨T110, X110, e110, st110⟩ := getF X106 hx hZ hown (host := "") (Or.inl (hw _ (List.mem_of_getElem? (i := 17) rfl))) Via.refl e106 Fs (g := (mkF m 11 #[.val (.ref a1), .val (.double dx), .second, .val (.double hi1), .second, .val (.int (0 : Int32)), .val (.int (2 : Int32)), .val (.double (own_snd hi0 q1)), .second, .val (.double hi1), .second, .val (.double lo1), .second] [(.ref a1), (.int (2 : Int32))])) rfl rfl (hb hby d_prog_8_2_11)
        obtain ⟨T111, X111, e111, st111⟩ := getF X110 hx hZ hown (host := "") (Or.inl (hw _ (List.mem_of_getElem? (i := 10) rfl))) Via.refl e110 Fp (g := (mkF m 18 #[.val (.ref a1), .val (.double dx), .second, .val (.double hi1), .second, .val (.int (0 : Int32)), .val (.int (2 : Int32)), .val (.double (own_snd hi0 q1)), .second, .val (.double hi1), .second, .val (.double lo1), .second] [(.ref a1)])) rfl rfl (hb hby d_prog_8_2_18)
        obtain ⟨cl112, Ar112, -, Sz112, Ng112, Hs112, -⟩ := id Va
        have hin112 : ¬ ((2 : Int32) < 0 ∨ cl112.slots.size ≤ ((2 : Int32)).toNatClampNeg) := inb_of Sz112 ⟨by decide, by decide⟩
        have hat112 : cl112.slots[((2 : Int32)).toNatClampNeg]? = some (.double q2) := Hs112 _ (Nat.lt_of_not_le fun q => hin112 (Or.inr q))
        obtain ⟨⟨nx2, nq2⟩, na2, nb2, nc2, -⟩ := own_nn hnn
        obtain ⟨T113, X113, e113, st113⟩ := natS X111 hx hZ hown (hw _ (List.mem_of_getElem? (i := 19) rfl)) (hw _ (List.mem_of_getElem? (i := 20) rfl)) (hw _ (List.mem_of_getElem? (i := 21) rfl)) (hw _ (List.mem_of_getElem? (i := 22) rfl)) (by decide) e111 (W := 0) (val' := (.double (hi1 &&& 0x7fffffffffffffff))) (fun c => Jvm.Free.Fl.Abs.absD_pays hi1 c (by decide) (by decide)) (g := (mkF m 27 #[.val (.ref a1), .val (.double dx), .second, .val (.double hi1), .second, .val (.int (0 : Int32)), .val (.int (2 : Int32)), .val (.double q2), .second, .val (.double hi1), .second, .val (.double lo1), .second] [(.double hi1)])) rfl (by rw [hml]; rfl) (argsL := [(.double hi1)]) (rest := []) (lenOf pd_0 rfl) rfl (by show 2 * 0 + _ ≤ _; exact Nat.le_of_eq rfl) (hb hby d_prog_8_2_27) (by decide) (by decide) ⟨rfl, nx2⟩ rfl
        obtain ⟨T114, X114, e114, st114⟩ := natS X113 hx hZ hown (hw _ (List.mem_of_getElem? (i := 19) rfl)) (hw _ (List.mem_of_getElem? (i := 20) rfl)) (hw _ (List.mem_of_getElem? (i := 21) rfl)) (hw _ (List.mem_of_getElem? (i := 22) rfl)) (by decide) e113 (W := 2) (val' := (.double (q2 &&& 0x7fffffffffffffff))) (fun c => Jvm.Free.Fl.Abs.absD_pays q2 c (by decide) (by decide)) (g := (mkF m 32 #[.val (.ref a1), .val (.double dx), .second, .val (.double hi1), .second, .val (.int (0 : Int32)), .val (.int (2 : Int32)), .val (.double q2), .second, .val (.double hi1), .second, .val (.double lo1), .second] [(.double q2), (.double (hi1 &&& 0x7fffffffffffffff))])) rfl (by rw [hml]; rfl) (argsL := [(.double q2)]) (rest := [(.double (hi1 &&& 0x7fffffffffffffff))]) (lenOf pd_0 rfl) rfl (by show 2 * 0 + _ ≤ _; exact Nat.le_of_eq rfl) (hb hby d_prog_8_2_32) (by decide) (by decide) ⟨rfl, nq2⟩ rfl
        have k115 : ∀ t_, Steps p.tables e below (T114.setTop (mkF m 36 #[.val (.ref a1), .val (.double dx), .second, .val (.double hi1), .second, .val (.int (0 : Int32)), .val (.int (2 : Int32)), .val (.double q2), .second, .val (.double hi1), .second, .val (.double lo1), .second] [(.int (cmpValue (FP.dcmp (hi1 &&& 0x7fffffffffffffff) (q2 &&& 0x7fffffffffffffff)) .g))])) t_ → Steps p.tables e below A t_ := by
          intro t_ ht_
          refine k109 t_ ?_
          refine own_f_ifYes X106.here hx (hb hby d_prog_8_2_68) ((if0 _ _).trans (teq (hz1)).1) (by decide) (by decide : _ = 83) ?_
          refine own_f_dload X106.here hx (hb hby d_prog_8_2_83) rfl (rfl : _ = 85) ?_
          refine own_f_dstoreN X106.here hx (hb hby d_prog_8_2_85) (rfl : storeLocals _ _ _ = some #[.val (.ref a1), .val (.double dx), .second, .val (.double hi1), .second, .val (.int (0 : Int32)), .val (.int (1 : Int32)), .val (.double (own_snd hi0 q1)), .second, .val (.double hi1), .second, .val (.double lo1), .second]) (rfl : _ = 86) ?_
          refine own_f_iinc X106.here hx (hb hby d_prog_8_2_86) rfl (rfl : storeLocals _ _ _ = some #[.val (.ref a1), .val (.double dx), .second, .val (.double hi1), .second, .val (.int (0 : Int32)), .val (.int (2 : Int32)), .val (.double (own_snd hi0 q1)), .second, .val (.double hi1), .second, .val (.double lo1), .second]) (rfl : _ = 89) ?_
          refine own_f_goto X106.here hx (hb hby d_prog_8_2_89) (by decide) (by decide : _ = 8) ?_
          refine own_f_iload X106.here hx (hb hby d_prog_8_2_8) rfl (rfl : _ = 10) ?_
          refine own_f_aloadN X106.here hx (hb hby d_prog_8_2_10) rfl rfl (rfl : _ = 11) ?_
          refine st110 _ ?_
          show Steps p.tables e below (T110.setTop (mkF m 14 #[.val (.ref a1), .val (.double dx), .second, .val (.double hi1), .second, .val (.int (0 : Int32)), .val (.int (2 : Int32)), .val (.double (own_snd hi0 q1)), .second, .val (.double hi1), .second, .val (.double lo1), .second] [(.int (3 : Int32)), (.int (2 : Int32))])) t_
          refine own_f_icmpNo X110.here hx (hb hby d_prog_8_2_14) (tlt (by decide)).2.1 (rfl : _ = 17) ?_
          refine own_f_aloadN X110.here hx (hb hby d_prog_8_2_17) rfl rfl (rfl : _ = 18) ?_
          refine st111 _ ?_
          show Steps p.tables e below (T111.setTop (mkF m 21 #[.val (.ref a1), .val (.double dx), .second, .val (.double hi1), .second, .val (.int (0 : Int32)), .val (.int (2 : Int32)), .val (.double (own_snd hi0 q1)), .second, .val (.double hi1), .second, .val (.double lo1), .second] [(.ref ar)])) t_
          refine own_f_iload X111.here hx (hb hby d_prog_8_2_21) rfl (rfl : _ = 23) ?_
          refine X111.daload hx (j := (2 : Int32)) (v := (.double q2)) (by rw [e111]; exact Ar112.1) (State.isArrayOf_alike hZ.alike Ar112.2.1) Ar112.2.2 hin112 hat112 (g := (mkF m 23 #[.val (.ref a1), .val (.double dx), .second, .val (.double hi1), .second, .val (.int (0 : Int32)), .val (.int (2 : Int32)), .val (.double (own_snd hi0 q1)), .second, .val (.double hi1), .second, .val (.double lo1), .second] [(.int (2 : Int32)), (.ref ar)])) rfl rfl (hb hby d_prog_8_2_23) _ ?_
          show Steps p.tables e below (T111.setTop (mkF m 24 #[.val (.ref a1), .val (.double dx), .second, .val (.double hi1), .second, .val (.int (0 : Int32)), .val (.int (2 : Int32)), .val (.double (own_snd hi0 q1)), .second, .val (.double hi1), .second, .val (.double lo1), .second] [(.double q2)])) t_
          refine own_f_dstore X111.here hx (hb hby d_prog_8_2_24) (rfl : storeLocals _ _ _ = some #[.val (.ref a1), .val (.double dx), .second, .val (.double hi1), .second, .val (.int (0 : Int32)), .val (.int (2 : Int32)), .val (.double q2), .second, .val (.double hi1), .second, .val (.double lo1), .second]) (rfl : _ = 26) ?_
          refine own_f_dloadN X111.here hx (hb hby d_prog_8_2_26) rfl (rfl : _ = 27) ?_
          refine st113 _ ?_
          show Steps p.tables e below (T113.setTop (mkF m 30 #[.val (.ref a1), .val (.double dx), .second, .val (.double hi1), .second, .val (.int (0 : Int32)), .val (.int (2 : Int32)), .val (.double q2), .second, .val (.double hi1), .second, .val (.double lo1), .second] [(.double (hi1 &&& 0x7fffffffffffffff))])) t_
          refine own_f_dload X113.here hx (hb hby d_prog_8_2_30) rfl (rfl : _ = 32) ?_
          refine st114 _ ?_
          show Steps p.tables e below (T114.setTop (mkF m 35 #[.val (.ref a1), .val (.double dx), .second, .val (.double hi1), .second, .val (.int (0 : Int32)), .val (.int (2 : Int32)), .val (.double q2), .second, .val (.double hi1), .second, .val (.double lo1), .second] [(.double (q2 &&& 0x7fffffffffffffff)), (.double (hi1 &&& 0x7fffffffffffffff))])) t_
          refine own_f_dcmp X114.here hx (hb hby d_prog_8_2_35) rfl (rfl : _ = 36) ?_
          exact ht_
        have k116 : ∀ t_, Steps p.tables e below (T114.setTop (mkF m 64 #[.val (.ref a1), .val (.double dx), .second, .val (.double (own_fst hi1 q2)), .second, .val (.int (0 : Int32)), .val (.int (2 : Int32)), .val (.double (own_snd hi1 q2)), .second, .val (.double (FP.dadd (own_fst hi1 q2) (own_snd hi1 q2))), .second, .val (.double (own_lo (own_fst hi1 q2) (own_snd hi1 q2))), .second] [])) t_ → Steps p.tables e below A t_ := by
          intro t_ ht_
          refine k115 t_ ?_
          by_cases hsw : own_lt hi1 q2
          · have e1 : own_fst hi1 q2 = q2 := if_pos hsw
            have e2 : own_snd hi1 q2 = hi1 := if_pos hsw
            rw [e1, e2] at ht_ na2 nb2 nc2
            have hs_ : (cmpValue (FP.dcmp (hi1 &&& 0x7fffffffffffffff) (q2 &&& 0x7fffffffffffffff)) .g) < (0 : Int32) := hsw
            refine own_f_ifNo X114.here hx (hb hby d_prog_8_2_36) ((if0 _ _).trans (tlt (hs_)).2.1) (rfl : _ = 39) ?_
            refine own_f_dload X114.here hx (hb hby d_prog_8_2_39) rfl (rfl : _ = 41) ?_
            refine own_f_dstore X114.here hx (hb hby d_prog_8_2_41) (rfl : storeLocals _ _ _ = some #[.val (.ref a1), .val (.double dx), .second, .val (.double hi1), .second, .val (.int (0 : Int32)), .val (.int (2 : Int32)), .val (.double q2), .second, .val (.double q2), .second, .val (.double lo1), .second]) (rfl : _ = 43) ?_
            refine own_f_dloadN X114.here hx (hb hby d_prog_8_2_43) rfl (rfl : _ = 44) ?_
            refine own_f_dstore X114.here hx (hb hby d_prog_8_2_44) (rfl : storeLocals _ _ _ = some #[.val (.ref a1), .val (.double dx), .second, .val (.double hi1), .second, .val (.int (0 : Int32)), .val (.int (2 : Int32)), .val (.double hi1), .second, .val (.double q2), .second, .val (.double lo1), .second]) (rfl : _ = 46) ?_
            refine own_f_dload X114.here hx (hb hby d_prog_8_2_46) rfl (rfl : _ = 48) ?_
            refine own_f_dstoreN X114.here hx (hb hby d_prog_8_2_48) (rfl : storeLocals _ _ _ = some #[.val (.ref a1), .val (.double dx), .second, .val (.double q2), .second, .val (.int (0 : Int32)), .val (.int (2 : Int32)), .val (.double hi1), .second, .val (.double q2), .second, .val (.double lo1), .second]) (rfl : _ = 49) ?_
            refine own_f_dloadN X114.here hx (hb hby d_prog_8_2_49) rfl (rfl : _ = 50) ?_
            refine own_f_dload X114.here hx (hb hby d_prog_8_2_50) rfl (rfl : _ = 52) ?_
            refine own_f_dadd X114.here hx (hb hby d_prog_8_2_52) (na2) rfl (rfl : _ = 53) ?_
            refine own_f_dstore X114.here hx (hb hby d_prog_8_2_53) (rfl : storeLocals _ _ _ = some #[.val (.ref a1), .val (.double dx), .second, .val (.double q2), .second, .val (.int (0 : Int32)), .val (.int (2 : Int32)), .val (.double hi1), .second, .val (.double (FP.dadd q2 hi1)), .second, .val (.double lo1), .second]) (rfl : _ = 55) ?_
            refine own_f_dload X114.here hx (hb hby d_prog_8_2_55) rfl (rfl : _ = 57) ?_
            refine own_f_dload X114.here hx (hb hby d_prog_8_2_57) rfl (rfl : _ = 59) ?_
            refine own_f_dloadN X114.here hx (hb hby d_prog_8_2_59) rfl (rfl : _ = 60) ?_
            refine own_f_dsub X114.here hx (hb hby d_prog_8_2_60) (nb2) rfl (rfl : _ = 61) ?_
            refine own_f_dsub X114.here hx (hb hby d_prog_8_2_61) (nc2) rfl (rfl : _ = 62) ?_
            refine own_f_dstore X114.here hx (hb hby d_prog_8_2_62) (rfl : storeLocals _ _ _ = some #[.val (.ref a1), .val (.double dx), .second, .val (.double q2), .second, .val (.int (0 : Int32)), .val (.int (2 : Int32)), .val (.double hi1), .second, .val (.double (FP.dadd q2 hi1)), .second, .val (.double (FP.dsub hi1 (FP.dsub (FP.dadd q2 hi1) q2))), .second]) (rfl : _ = 64) ?_
            exact ht_
          · have e1 : own_fst hi1 q2 = hi1 := if_neg hsw
            have e2 : own_snd hi1 q2 = q2 := if_neg hsw
            rw [e1, e2] at ht_ na2 nb2 nc2
            have hs_ : ¬ ((cmpValue (FP.dcmp (hi1 &&& 0x7fffffffffffffff) (q2 &&& 0x7fffffffffffffff)) .g) < (0 : Int32)) := hsw
            refine own_f_ifYes X114.here hx (hb hby d_prog_8_2_36) ((if0 _ _).trans (flt (hs_)).2.1) (by decide) (by decide : _ = 49) ?_
            refine own_f_dloadN X114.here hx (hb hby d_prog_8_2_49) rfl (rfl : _ = 50) ?_
            refine own_f_dload X114.here hx (hb hby d_prog_8_2_50) rfl (rfl : _ = 52) ?_
            refine own_f_dadd X114.here hx (hb hby d_prog_8_2_52) (na2) rfl (rfl : _ = 53) ?_
            refine own_f_dstore X114.here hx (hb hby d_prog_8_2_53) (rfl : storeLocals _ _ _ = some #[.val (.ref a1), .val (.double dx), .second, .val (.double hi1), .second, .val (.int (0 : Int32)), .val (.int (2 : Int32)), .val (.double q2), .second, .val (.double (FP.dadd hi1 q2)), .second, .val (.double lo1), .second]) (rfl : _ = 55) ?_
            refine own_f_dload X114.here hx (hb hby d_prog_8_2_55) rfl (rfl : _ = 57) ?_
            refine own_f_dload X114.here hx (hb hby d_prog_8_2_57) rfl (rfl : _ = 59) ?_
            refine own_f_dloadN X114.here hx (hb hby d_prog_8_2_59) rfl (rfl : _ = 60) ?_
            refine own_f_dsub X114.here hx (hb hby d_prog_8_2_60) (nb2) rfl (rfl : _ = 61) ?_
            refine own_f_dsub X114.here hx (hb hby d_prog_8_2_61) (nc2) rfl (rfl : _ = 62) ?_
            refine own_f_dstore X114.here hx (hb hby d_prog_8_2_62) (rfl : storeLocals _ _ _ = some #[.val (.ref a1), .val (.double dx), .second, .val (.double hi1), .second, .val (.int (0 : Int32)), .val (.int (2 : Int32)), .val (.double q2), .second, .val (.double (FP.dadd hi1 q2)), .second, .val (.double (FP.dsub q2 (FP.dsub (FP.dadd hi1 q2) hi1))), .second]) (rfl : _ = 64) ?_
            exact ht_
        obtain ⟨hi2, hhi2⟩ : ∃ z : UInt64, z = (FP.dadd (own_fst hi1 q2) (own_snd hi1 q2)) := ⟨_, rfl⟩
        rw [← hhi2] at k116
        obtain ⟨lo2, hlo2⟩ : ∃ z : UInt64, z = (own_lo (own_fst hi1 q2) (own_snd hi1 q2)) := ⟨_, rfl⟩
        rw [← hlo2] at k116
        replace hnn := own_nn' hhi2 hnn
        have k117 : ∀ t_, Steps p.tables e below (T114.setTop (mkF m 68 #[.val (.ref a1), .val (.double dx), .second, .val (.double (own_fst hi1 q2)), .second, .val (.int (0 : Int32)), .val (.int (2 : Int32)), .val (.double (own_snd hi1 q2)), .second, .val (.double hi2), .second, .val (.double lo2), .second] [(.int (cmpValue (FP.dcmp lo2 (0 : UInt64)) .l))])) t_ → Steps p.tables e below A t_ := by
          intro t_ ht_
          refine k116 t_ ?_
          refine own_f_dload X114.here hx (hb hby d_prog_8_2_64) rfl (rfl : _ = 66) ?_
          refine own_f_dconst0 X114.here hx (hb hby d_prog_8_2_66) (rfl : _ = (0 : UInt64)) (rfl : _ = 67) ?_
          refine own_f_dcmp X114.here hx (hb hby d_prog_8_2_67) rfl (rfl : _ = 68) ?_
          exact ht_
        by_cases hz2 : (cmpValue (FP.dcmp lo2 (0 : UInt64)) .l) = (0 : Int32)
        · obtain ⟨T118, X118, e118, st118⟩ := getF X114 hx hZ hown (host := "") (Or.inl (hw _ (List.mem_of_getElem? (i := 17) rfl))) Via.refl e114 Fs (g := (mkF m 11 #[.val (.ref a1), .val (.double dx), .second, .val (.double hi2), .second, .val (.int (0 : Int32)), .val (.int (3 : Int32)), .val (.double (own_snd hi1 q2)), .second, .val (.double hi2), .second, .val (.double lo2), .second] [(.ref a1), (.int (3 : Int32))])) rfl rfl (hb hby d_prog_8_2_11)
          obtain ⟨T119, X119, e119, st119⟩ := getF X118 hx hZ hown (host := "") (Or.inl (hw _ (List.mem_of_getElem? (i := 10) rfl))) Via.refl e118 Fp (g := (mkF m 95 #[.val (.ref a1), .val (.double dx), .second, .val (.double hi2), .second, .val (.int (0 : Int32)), .val (.int (3 : Int32)), .val (.double (own_snd hi1 q2)), .second, .val (.double hi2), .second, .val (.double lo2), .second] [(.ref a1), (.int (0 : Int32))])) rfl rfl (hb hby d_prog_8_2_95)
          obtain ⟨cl120, Ar120, -, Sz120, Ng120, -, -⟩ := id Va
          obtain ⟨T121, X121, e121, st121⟩ := getF X119 hx hZ hown (host := "") (Or.inl (hw _ (List.mem_of_getElem? (i := 10) rfl))) Via.refl e119 Fp (g := (mkF m 118 #[.val (.ref a1), .val (.double dx), .second, .val (.double hi2), .second, .val (.int (0 : Int32)), .val (.int (3 : Int32)), .val (.double (own_snd hi1 q2)), .second, .val (.double hi2), .second, .val (.double lo2), .second] [(.ref a1)])) rfl rfl (hb hby d_prog_8_2_118)
          obtain ⟨cl122, Ar122, q122, Sz122, Ng122, Hs122, Gs122⟩ := Va
          have hin122 : ¬ ((0 : Int32) < 0 ∨ cl122.slots.size ≤ ((0 : Int32)).toNatClampNeg) := inb_of Sz122 ⟨by decide, by decide⟩
          obtain ⟨T123, h123, X123, e123, W123, st123⟩ := stD X121 hx hZ e121 Ar122 (j := (0 : Int32)) hin122 (g := (mkF m 127 #[.val (.ref a1), .val (.double dx), .second, .val (.double hi2), .second, .val (.int (1 : Int32)), .val (.int (3 : Int32)), .val (.double (own_snd hi1 q2)), .second, .val (.double hi2), .second, .val (.double lo2), .second] [(.double hi2), (.int (0 : Int32)), (.ref ar)])) rfl rfl (hb hby d_prog_8_2_127)
          replace Ea := Ea.wr W123
          replace Fp := Fp.other W123 (Or.inl hne)
          replace Fs := Fs.other W123 (Or.inl hne)
          have Zs123 := Nat.le_trans Z0 (Keep.of_wr W123).1
          replace KK := KK.wr W123 (Or.inl (by simp))
          have Va : Arv Z h123 ar kc .double (4 : Int32) [(.double hi2), (.double q1), (.double q2), (.double q3)] (.double (0 : UInt64)) := Arv.set Ar122 q122 Sz122 Ng122 Hs122 Gs122 rfl W123 0 rfl (Nat.le_of_ble_eq_true rfl)
          have N123 := Fr.snoc X123 N0 g_ar
          obtain ⟨T124, h124, X124, e124, W124, st124⟩ := putF X123 hx hZ hown (host := "") (Or.inl (hw _ (List.mem_of_getElem? (i := 17) rfl))) Via.refl e123 Fs Ea (Or.inl (hw _ (List.mem_of_getElem? (i := 18) rfl))) (hw _ (List.mem_of_getElem? (i := 1) rfl)) (ty := .int) (by decide) rfl rfl (g := (mkF m 131 #[.val (.ref a1), .val (.double dx), .second, .val (.double hi2), .second, .val (.int (1 : Int32)), .val (.int (3 : Int32)), .val (.double (own_snd hi1 q2)), .second, .val (.double hi2), .second, .val (.double lo2), .second] [(.int (1 : Int32)), (.ref a1)])) rfl rfl (hb hby d_prog_8_2_131)
          replace Ea := Ea.wr W124
          replace Fp := Fp.other W124 (Or.inr (slot_ne (Or.inl (hw _ (List.mem_of_getElem? (i := 11) rfl))) (Or.inl (hw _ (List.mem_of_getElem? (i := 18) rfl))) (by decide) (t := (.array .double)) (t' := .int) (by decide) (by decide)))
          replace Va := Va.other W124 (Ne.symm hne)
          have Zs124 := Nat.le_trans Zs123 (Keep.of_wr W124).1
          replace KK := KK.wr W124 (Or.inl (by simp))
          replace Fs := Fs.same W124
          have N124 := Fr.snoc X124 N123 g_a1
          obtain ⟨fs, hr, hrun, hended, hW, hsame⟩ := X124.leave (v := none) (fun _ => rfl) hlk
          refine ⟨_, _, ?_, hrun, hended, _, _, rfl, ?_, ⟨_, rfl⟩, hW, hsame.mono (by decide) (by decide)⟩
          · refine hA0 _ ?_
            refine k117 _ ?_
            refine own_f_ifYes X114.here hx (hb hby d_prog_8_2_68) ((if0 _ _).trans (teq (hz2)).1) (by decide) (by decide : _ = 83) ?_
            refine own_f_dload X114.here hx (hb hby d_prog_8_2_83) rfl (rfl : _ = 85) ?_
            refine own_f_dstoreN X114.here hx (hb hby d_prog_8_2_85) (rfl : storeLocals _ _ _ = some #[.val (.ref a1), .val (.double dx), .second, .val (.double hi2), .second, .val (.int (0 : Int32)), .val (.int (2 : Int32)), .val (.double (own_snd hi1 q2)), .second, .val (.double hi2), .second, .val (.double lo2), .second]) (rfl : _ = 86) ?_
            refine own_f_iinc X114.here hx (hb hby d_prog_8_2_86) rfl (rfl : storeLocals _ _ _ = some #[.val (.ref a1), .val (.double dx), .second, .val (.double hi2), .second, .val (.int (0 : Int32)), .val (.int (3 : Int32)), .val (.double (own_snd hi1 q2)), .second, .val (.double hi2), .second, .val (.double lo2), .second]) (rfl : _ = 89) ?_
            refine own_f_goto X114.here hx (hb hby d_prog_8_2_89) (by decide) (by decide : _ = 8) ?_
            refine own_f_iload X114.here hx (hb hby d_prog_8_2_8) rfl (rfl : _ = 10) ?_
            refine own_f_aloadN X114.here hx (hb hby d_prog_8_2_10) rfl rfl (rfl : _ = 11) ?_
            refine st118 _ ?_
            show Steps p.tables e below (T118.setTop (mkF m 14 #[.val (.ref a1), .val (.double dx), .second, .val (.double hi2), .second, .val (.int (0 : Int32)), .val (.int (3 : Int32)), .val (.double (own_snd hi1 q2)), .second, .val (.double hi2), .second, .val (.double lo2), .second] [(.int (3 : Int32)), (.int (3 : Int32))])) _
            refine own_f_icmpYes X118.here hx (hb hby d_prog_8_2_14) (flt (by decide)).2.1 (by decide) (by decide : _ = 92) ?_
            refine own_f_iload X118.here hx (hb hby d_prog_8_2_92) rfl (rfl : _ = 94) ?_
            refine own_f_aloadN X118.here hx (hb hby d_prog_8_2_94) rfl rfl (rfl : _ = 95) ?_
            refine st119 _ ?_
            show Steps p.tables e below (T119.setTop (mkF m 98 #[.val (.ref a1), .val (.double dx), .second, .val (.double hi2), .second, .val (.int (0 : Int32)), .val (.int (3 : Int32)), .val (.double (own_snd hi1 q2)), .second, .val (.double hi2), .second, .val (.double lo2), .second] [(.ref ar), (.int (0 : Int32))])) _
            refine X119.arraylength hx (by rw [e119]; exact Ar120.1) (State.isArrayOf_alike hZ.alike Ar120.2.1) (g := (mkF m 98 #[.val (.ref a1), .val (.double dx), .second, .val (.double hi2), .second, .val (.int (0 : Int32)), .val (.int (3 : Int32)), .val (.double (own_snd hi1 q2)), .second, .val (.double hi2), .second, .val (.double lo2), .second] [(.ref ar), (.int (0 : Int32))])) rfl rfl (hb hby d_prog_8_2_98) _ ?_
            rw [len_of Sz120 Ng120]
            show Steps p.tables e below (T119.setTop (mkF m 99 #[.val (.ref a1), .val (.double dx), .second, .val (.double hi2), .second, .val (.int (0 : Int32)), .val (.int (3 : Int32)), .val (.double (own_snd hi1 q2)), .second, .val (.double hi2), .second, .val (.double lo2), .second] [(.int (4 : Int32)), (.int (0 : Int32))])) _
            refine own_f_icmpYes X119.here hx (hb hby d_prog_8_2_99) (feq (by decide)).2 (by decide) (by decide : _ = 117) ?_
            refine own_f_aloadN X119.here hx (hb hby d_prog_8_2_117) rfl rfl (rfl : _ = 118) ?_
            refine st121 _ ?_
            show Steps p.tables e below (T121.setTop (mkF m 121 #[.val (.ref a1), .val (.double dx), .second, .val (.double hi2), .second, .val (.int (0 : Int32)), .val (.int (3 : Int32)), .val (.double (own_snd hi1 q2)), .second, .val (.double hi2), .second, .val (.double lo2), .second] [(.ref ar)])) _
            refine own_f_iload X121.here hx (hb hby d_prog_8_2_121) rfl (rfl : _ = 123) ?_
            refine own_f_iinc X121.here hx (hb hby d_prog_8_2_123) rfl (rfl : storeLocals _ _ _ = some #[.val (.ref a1), .val (.double dx), .second, .val (.double hi2), .second, .val (.int (1 : Int32)), .val (.int (3 : Int32)), .val (.double (own_snd hi1 q2)), .second, .val (.double hi2), .second, .val (.double lo2), .second]) (rfl : _ = 126) ?_
            refine own_f_dloadN X121.here hx (hb hby d_prog_8_2_126) rfl (rfl : _ = 127) ?_
            refine st123 _ ?_
            show Steps p.tables e below (T123.setTop (mkF m 128 #[.val (.ref a1), .val (.double dx), .second, .val (.double hi2), .second, .val (.int (1 : Int32)), .val (.int (3 : Int32)), .val (.double (own_snd hi1 q2)), .second, .val (.double hi2), .second, .val (.double lo2), .second] [])) _
            refine own_f_aloadN X123.here hx (hb hby d_prog_8_2_128) rfl rfl (rfl : _ = 129) ?_
            refine own_f_iload X123.here hx (hb hby d_prog_8_2_129) rfl (rfl : _ = 131) ?_
            refine st124 _ ?_
            show Steps p.tables e below (T124.setTop (mkF m 134 #[.val (.ref a1), .val (.double dx), .second, .val (.double hi2), .second, .val (.int (1 : Int32)), .val (.int (3 : Int32)), .val (.double (own_snd hi1 q2)), .second, .val (.double hi2), .second, .val (.double lo2), .second] [])) _
            exact X124.returnOut hx Bd.returns (hb hby d_prog_8_2_134) hr
          · show Q2 Z a1 dx _ ar kc q0 q1 q2 q3 _ h0 n0 _ T124.heap _
            rw [e124]
            exact ⟨(1 : Int32), hi2, q1, q2, q3, rfl, N124, KK, Fp, Fs, Va, own_res (M := [hi2]) (by rw [own_ins_d hlo0 hhi0 hz0, own_ins_d hlo1 hhi1 hz1, own_ins_d hlo2 hhi2 hz2]; rfl) (by show Int32.toInt 1 = ((1 : Nat) : Int); decide) rfl⟩
        · obtain ⟨T125, X125, e125, st125⟩ := getF X114 hx hZ hown (host := "") (Or.inl (hw _ (List.mem_of_getElem? (i := 10) rfl))) Via.refl e114 Fp (g := (mkF m 72 #[.val (.ref a1), .val (.double dx), .second, .val (.double (own_fst hi1 q2)), .second, .val (.int (0 : Int32)), .val (.int (2 : Int32)), .val (.double (own_snd hi1 q2)), .second, .val (.double hi2), .second, .val (.double lo2), .second] [(.ref a1)])) rfl rfl (hb hby d_prog_8_2_72)
          obtain ⟨cl126, Ar126, q126, Sz126, Ng126, Hs126, Gs126⟩ := Va
          have hin126 : ¬ ((0 : Int32) < 0 ∨ cl126.slots.size ≤ ((0 : Int32)).toNatClampNeg) := inb_of Sz126 ⟨by decide, by decide⟩
          obtain ⟨T127, h127, X127, e127, W127, st127⟩ := stD X125 hx hZ e125 Ar126 (j := (0 : Int32)) hin126 (g := (mkF m 82 #[.val (.ref a1), .val (.double dx), .second, .val (.double (own_fst hi1 q2)), .second, .val (.int (1 : Int32)), .val (.int (2 : Int32)), .val (.double (own_snd hi1 q2)), .second, .val (.double hi2), .second, .val (.double lo2), .second] [(.double lo2), (.int (0 : Int32)), (.ref ar)])) rfl rfl (hb hby d_prog_8_2_82)
          replace Ea := Ea.wr W127
          replace Fp := Fp.other W127 (Or.inl hne)
          replace Fs := Fs.other W127 (Or.inl hne)
          have Zs127 := Nat.le_trans Z0 (Keep.of_wr W127).1
          replace KK := KK.wr W127 (Or.inl (by simp))
          have Va : Arv Z h127 ar kc .double (4 : Int32) [(.double lo2), (.double q1), (.double q2), (.double q3)] (.double (0 : UInt64)) := Arv.set Ar126 q126 Sz126 Ng126 Hs126 Gs126 rfl W127 0 rfl (Nat.le_of_ble_eq_true rfl)
          have N127 := Fr.snoc X127 N0 g_ar
          obtain ⟨T128, X128, e128, st128⟩ := getF X127 hx hZ hown (host := "") (Or.inl (hw _ (List.mem_of_getElem? (i := 17) rfl))) Via.refl e127 Fs (g := (mkF m 11 #[.val (.ref a1), .val (.double dx), .second, .val (.double hi2), .second, .val (.int (1 : Int32)), .val (.int (3 : Int32)), .val (.double (own_snd hi1 q2)), .second, .val (.double hi2), .second, .val (.double lo2), .second] [(.ref a1), (.int (3 : Int32))])) rfl rfl (hb hby d_prog_8_2_11)
          obtain ⟨T129, X129, e129, st129⟩ := getF X128 hx hZ hown (host := "") (Or.inl (hw _ (List.mem_of_getElem? (i := 10) rfl))) Via.refl e128 Fp (g := (mkF m 95 #[.val (.ref a1), .val (.double dx), .second, .val (.double hi2), .second, .val (.int (1 : Int32)), .val (.int (3 : Int32)), .val (.double (own_snd hi1 q2)), .second, .val (.double hi2), .second, .val (.double lo2), .second] [(.ref a1), (.int (1 : Int32))])) rfl rfl (hb hby d_prog_8_2_95)
          obtain ⟨cl130, Ar130, -, Sz130, Ng130, -, -⟩ := id Va
          obtain ⟨T131, X131, e131, st131⟩ := getF X129 hx hZ hown (host := "") (Or.inl (hw _ (List.mem_of_getElem? (i := 10) rfl))) Via.refl e129 Fp (g := (mkF m 118 #[.val (.ref a1), .val (.double dx), .second, .val (.double hi2), .second, .val (.int (1 : Int32)), .val (.int (3 : Int32)), .val (.double (own_snd hi1 q2)), .second, .val (.double hi2), .second, .val (.double lo2), .second] [(.ref a1)])) rfl rfl (hb hby d_prog_8_2_118)
          obtain ⟨cl132, Ar132, q132, Sz132, Ng132, Hs132, Gs132⟩ := Va
          have hin132 : ¬ ((1 : Int32) < 0 ∨ cl132.slots.size ≤ ((1 : Int32)).toNatClampNeg) := inb_of Sz132 ⟨by decide, by decide⟩
          obtain ⟨T133, h133, X133, e133, W133, st133⟩ := stD X131 hx hZ e131 Ar132 (j := (1 : Int32)) hin132 (g := (mkF m 127 #[.val (.ref a1), .val (.double dx), .second, .val (.double hi2), .second, .val (.int (2 : Int32)), .val (.int (3 : Int32)), .val (.double (own_snd hi1 q2)), .second, .val (.double hi2), .second, .val (.double lo2), .second] [(.double hi2), (.int (1 : Int32)), (.ref ar)])) rfl rfl (hb hby d_prog_8_2_127)
          replace Ea := Ea.wr W133
          replace Fp := Fp.other W133 (Or.inl hne)
          replace Fs := Fs.other W133 (Or.inl hne)
          have Zs133 := Nat.le_trans Zs127 (Keep.of_wr W133).1
          replace KK := KK.wr W133 (Or.inl (by simp))
          have Va : Arv Z h133 ar kc .double (4 : Int32) [(.double lo2), (.double hi2), (.double q2), (.double q3)] (.double (0 : UInt64)) := Arv.set Ar132 q132 Sz132 Ng132 Hs132 Gs132 rfl W133 1 rfl (Nat.le_of_ble_eq_true rfl)
          have N133 := Fr.snoc X133 N127 g_ar
          obtain ⟨T134, h134, X134, e134, W134, st134⟩ := putF X133 hx hZ hown (host := "") (Or.inl (hw _ (List.mem_of_getElem? (i := 17) rfl))) Via.refl e133 Fs Ea (Or.inl (hw _ (List.mem_of_getElem? (i := 18) rfl))) (hw _ (List.mem_of_getElem? (i := 1) rfl)) (ty := .int) (by decide) rfl rfl (g := (mkF m 131 #[.val (.ref a1), .val (.double dx), .second, .val (.double hi2), .second, .val (.int (2 : Int32)), .val (.int (3 : Int32)), .val (.double (own_snd hi1 q2)), .second, .val (.double hi2), .second, .val (.double lo2), .second] [(.int (2 : Int32)), (.ref a1)])) rfl rfl (hb hby d_prog_8_2_131)
          replace Ea := Ea.wr W134
          replace Fp := Fp.other W134 (Or.inr (slot_ne (Or.inl (hw _ (List.mem_of_getElem? (i := 11) rfl))) (Or.inl (hw _ (List.mem_of_getElem? (i := 18) rfl))) (by decide) (t := (.array .double)) (t' := .int) (by decide) (by decide)))
          replace Va := Va.other W134 (Ne.symm hne)
          have Zs134 := Nat.le_trans Zs133 (Keep.of_wr W134).1
          replace KK := KK.wr W134 (Or.inl (by simp))
          replace Fs := Fs.same W134
          have N134 := Fr.snoc X134 N133 g_a1
          obtain ⟨fs, hr, hrun, hended, hW, hsame⟩ := X134.leave (v := none) (fun _ => rfl) hlk
          refine ⟨_, _, ?_, hrun, hended, _, _, rfl, ?_, ⟨_, rfl⟩, hW, hsame.mono (by decide) (by decide)⟩
          · refine hA0 _ ?_
            refine k117 _ ?_
            refine own_f_ifNo X114.here hx (hb hby d_prog_8_2_68) ((if0 _ _).trans (feq (hz2)).1) (rfl : _ = 71) ?_
            refine own_f_aloadN X114.here hx (hb hby d_prog_8_2_71) rfl rfl (rfl : _ = 72) ?_
            refine st125 _ ?_
            show Steps p.tables e below (T125.setTop (mkF m 75 #[.val (.ref a1), .val (.double dx), .second, .val (.double (own_fst hi1 q2)), .second, .val (.int (0 : Int32)), .val (.int (2 : Int32)), .val (.double (own_snd hi1 q2)), .second, .val (.double hi2), .second, .val (.double lo2), .second] [(.ref ar)])) _
            refine own_f_iload X125.here hx (hb hby d_prog_8_2_75) rfl (rfl : _ = 77) ?_
            refine own_f_iinc X125.here hx (hb hby d_prog_8_2_77) rfl (rfl : storeLocals _ _ _ = some #[.val (.ref a1), .val (.double dx), .second, .val (.double (own_fst hi1 q2)), .second, .val (.int (1 : Int32)), .val (.int (2 : Int32)), .val (.double (own_snd hi1 q2)), .second, .val (.double hi2), .second, .val (.double lo2), .second]) (rfl : _ = 80) ?_
            refine own_f_dload X125.here hx (hb hby d_prog_8_2_80) rfl (rfl : _ = 82) ?_
            refine st127 _ ?_
            show Steps p.tables e below (T127.setTop (mkF m 83 #[.val (.ref a1), .val (.double dx), .second, .val (.double (own_fst hi1 q2)), .second, .val (.int (1 : Int32)), .val (.int (2 : Int32)), .val (.double (own_snd hi1 q2)), .second, .val (.double hi2), .second, .val (.double lo2), .second] [])) _
            refine own_f_dload X127.here hx (hb hby d_prog_8_2_83) rfl (rfl : _ = 85) ?_
            refine own_f_dstoreN X127.here hx (hb hby d_prog_8_2_85) (rfl : storeLocals _ _ _ = some #[.val (.ref a1), .val (.double dx), .second, .val (.double hi2), .second, .val (.int (1 : Int32)), .val (.int (2 : Int32)), .val (.double (own_snd hi1 q2)), .second, .val (.double hi2), .second, .val (.double lo2), .second]) (rfl : _ = 86) ?_
            refine own_f_iinc X127.here hx (hb hby d_prog_8_2_86) rfl (rfl : storeLocals _ _ _ = some #[.val (.ref a1), .val (.double dx), .second, .val (.double hi2), .second, .val (.int (1 : Int32)), .val (.int (3 : Int32)), .val (.double (own_snd hi1 q2)), .second, .val (.double hi2), .second, .val (.double lo2), .second]) (rfl : _ = 89) ?_
            refine own_f_goto X127.here hx (hb hby d_prog_8_2_89) (by decide) (by decide : _ = 8) ?_
            refine own_f_iload X127.here hx (hb hby d_prog_8_2_8) rfl (rfl : _ = 10) ?_
            refine own_f_aloadN X127.here hx (hb hby d_prog_8_2_10) rfl rfl (rfl : _ = 11) ?_
            refine st128 _ ?_
            show Steps p.tables e below (T128.setTop (mkF m 14 #[.val (.ref a1), .val (.double dx), .second, .val (.double hi2), .second, .val (.int (1 : Int32)), .val (.int (3 : Int32)), .val (.double (own_snd hi1 q2)), .second, .val (.double hi2), .second, .val (.double lo2), .second] [(.int (3 : Int32)), (.int (3 : Int32))])) _
            refine own_f_icmpYes X128.here hx (hb hby d_prog_8_2_14) (flt (by decide)).2.1 (by decide) (by decide : _ = 92) ?_
            refine own_f_iload X128.here hx (hb hby d_prog_8_2_92) rfl (rfl : _ = 94) ?_
            refine own_f_aloadN X128.here hx (hb hby d_prog_8_2_94) rfl rfl (rfl : _ = 95) ?_
            refine st129 _ ?_
            show Steps p.tables e below (T129.setTop (mkF m 98 #[.val (.ref a1), .val (.double dx), .second, .val (.double hi2), .second, .val (.int (1 : Int32)), .val (.int (3 : Int32)), .val (.double (own_snd hi1 q2)), .second, .val (.double hi2), .second, .val (.double lo2), .second] [(.ref ar), (.int (1 : Int32))])) _
            refine X129.arraylength hx (by rw [e129]; exact Ar130.1) (State.isArrayOf_alike hZ.alike Ar130.2.1) (g := (mkF m 98 #[.val (.ref a1), .val (.double dx), .second, .val (.double hi2), .second, .val (.int (1 : Int32)), .val (.int (3 : Int32)), .val (.double (own_snd hi1 q2)), .second, .val (.double hi2), .second, .val (.double lo2), .second] [(.ref ar), (.int (1 : Int32))])) rfl rfl (hb hby d_prog_8_2_98) _ ?_
            rw [len_of Sz130 Ng130]
            show Steps p.tables e below (T129.setTop (mkF m 99 #[.val (.ref a1), .val (.double dx), .second, .val (.double hi2), .second, .val (.int (1 : Int32)), .val (.int (3 : Int32)), .val (.double (own_snd hi1 q2)), .second, .val (.double hi2), .second, .val (.double lo2), .second] [(.int (4 : Int32)), (.int (1 : Int32))])) _
            refine own_f_icmpYes X129.here hx (hb hby d_prog_8_2_99) (feq (by decide)).2 (by decide) (by decide : _ = 117) ?_
            refine own_f_aloadN X129.here hx (hb hby d_prog_8_2_117) rfl rfl (rfl : _ = 118) ?_
            refine st131 _ ?_
            show Steps p.tables e below (T131.setTop (mkF m 121 #[.val (.ref a1), .val (.double dx), .second, .val (.double hi2), .second, .val (.int (1 : Int32)), .val (.int (3 : Int32)), .val (.double (own_snd hi1 q2)), .second, .val (.double hi2), .second, .val (.double lo2), .second] [(.ref ar)])) _
            refine own_f_iload X131.here hx (hb hby d_prog_8_2_121) rfl (rfl : _ = 123) ?_
            refine own_f_iinc X131.here hx (hb hby d_prog_8_2_123) rfl (rfl : storeLocals _ _ _ = some #[.val (.ref a1), .val (.double dx), .second, .val (.double hi2), .second, .val (.int (2 : Int32)), .val (.int (3 : Int32)), .val (.double (own_snd hi1 q2)), .second, .val (.double hi2), .second, .val (.double lo2), .second]) (rfl : _ = 126) ?_
            refine own_f_dloadN X131.here hx (hb hby d_prog_8_2_126) rfl (rfl : _ = 127) ?_
            refine st133 _ ?_
            show Steps p.tables e below (T133.setTop (mkF m 128 #[.val (.ref a1), .val (.double dx), .second, .val (.double hi2), .second, .val (.int (2 : Int32)), .val (.int (3 : Int32)), .val (.double (own_snd hi1 q2)), .second, .val (.double hi2), .second, .val (.double lo2), .second] [])) _
            refine own_f_aloadN X133.here hx (hb hby d_prog_8_2_128) rfl rfl (rfl : _ = 129) ?_
            refine own_f_iload X133.here hx (hb hby d_prog_8_2_129) rfl (rfl : _ = 131) ?_
            refine st134 _ ?_
            show Steps p.tables e below (T134.setTop (mkF m 134 #[.val (.ref a1), .val (.double dx), .second, .val (.double hi2), .second, .val (.int (2 : Int32)), .val (.int (3 : Int32)), .val (.double (own_snd hi1 q2)), .second, .val (.double hi2), .second, .val (.double lo2), .second] [])) _
            exact X134.returnOut hx Bd.returns (hb hby d_prog_8_2_134) hr
          · show Q2 Z a1 dx _ ar kc q0 q1 q2 q3 _ h0 n0 _ T134.heap _
            rw [e134]
            exact ⟨(2 : Int32), lo2, hi2, q2, q3, rfl, N134, KK, Fp, Fs, Va, own_res (M := [lo2, hi2]) (by rw [own_ins_d hlo0 hhi0 hz0, own_ins_d hlo1 hhi1 hz1, own_ins_c hlo2 hhi2 hz2]; rfl) (by show Int32.toInt 2 = ((2 : Nat) : Int); decide) rfl⟩
      · obtain ⟨T135, X135, e135, st135⟩ := getF X106 hx hZ hown (host := "") (Or.inl (hw _ (List.mem_of_getElem? (i := 10) rfl))) Via.refl e106 Fp (g := (mkF m 72 #[.val (.ref a1), .val (.double dx), .second, .val (.double (own_fst hi0 q1)), .second, .val (.int (0 : Int32)), .val (.int (1 : Int32)), .val (.double (own_snd hi0 q1)), .second, .val (.double hi1), .second, .val (.double lo1), .second] [(.ref a1)])) rfl rfl (hb hby d_prog_8_2_72)
        obtain ⟨cl136, Ar136, q136, Sz136, Ng136, Hs136, Gs136⟩ := Va
        have hin136 : ¬ ((0 : Int32) < 0 ∨ cl136.slots.size ≤ ((0 : Int32)).toNatClampNeg) := inb_of Sz136 ⟨by decide, by decide⟩
        obtain ⟨T137, h137, X137, e137, W137, st137⟩ := stD X135 hx hZ e135 Ar136 (j := (0 : Int32)) hin136 (g := (mkF m 82 #[.val (.ref a1), .val (.double dx), .second, .val (.double (own_fst hi0 q1)), .second, .val (.int (1 : Int32)), .val (.int (1 : Int32)), .val (.double (own_snd hi0 q1)), .second, .val (.double hi1), .second, .val (.double lo1), .second] [(.double lo1), (.int (0 : Int32)), (.ref ar)])) rfl rfl (hb hby d_prog_8_2_82)
        replace Ea := Ea.wr W137
        replace Fp := Fp.other W137 (Or.inl hne)
        replace Fs := Fs.other W137 (Or.inl hne)
        have Zs137 := Nat.le_trans Z0 (Keep.of_wr W137).1
        replace KK := KK.wr W137 (Or.inl (by simp))
        have Va : Arv Z h137 ar kc .double (4 : Int32) [(.double lo1), (.double q1), (.double q2), (.double q3)] (.double (0 : UInt64)) := Arv.set Ar136 q136 Sz136 Ng136 Hs136 Gs136 rfl W137 0 rfl (Nat.le_of_ble_eq_true rfl)
        have N137 := Fr.snoc X137 N0 g_ar
        obtain ⟨T138, X138, e138, st138⟩ := getF X137 hx hZ hown (host := "") (Or.inl (hw _ (List.mem_of_getElem? (i := 17) rfl))) Via.refl e137 Fs (g := (mkF m 11 #[.val (.ref a1), .val (.double dx), .second, .val (.double hi1), .second, .val (.int (1 : Int32)), .val (.int (2 : Int32)), .val (.double (own_snd hi0 q1)), .second, .val (.double hi1), .second, .val (.double lo1), .second] [(.ref a1), (.int (2 : Int32))])) rfl rfl (hb hby d_prog_8_2_11)
        obtain ⟨T139, X139, e139, st139⟩ := getF X138 hx hZ hown (host := "") (Or.inl (hw _ (List.mem_of_getElem? (i := 10) rfl))) Via.refl e138 Fp (g := (mkF m 18 #[.val (.ref a1), .val (.double dx), .second, .val (.double hi1), .second, .val (.int (1 : Int32)), .val (.int (2 : Int32)), .val (.double (own_snd hi0 q1)), .second, .val (.double hi1), .second, .val (.double lo1), .second] [(.ref a1)])) rfl rfl (hb hby d_prog_8_2_18)
        obtain ⟨cl140, Ar140, -, Sz140, Ng140, Hs140, -⟩ := id Va
        have hin140 : ¬ ((2 : Int32) < 0 ∨ cl140.slots.size ≤ ((2 : Int32)).toNatClampNeg) := inb_of Sz140 ⟨by decide, by decide⟩
        have hat140 : cl140.slots[((2 : Int32)).toNatClampNeg]? = some (.double q2) := Hs140 _ (Nat.lt_of_not_le fun q => hin140 (Or.inr q))
        obtain ⟨⟨nx2, nq2⟩, na2, nb2, nc2, -⟩ := own_nn hnn
        obtain ⟨T141, X141, e141, st141⟩ := natS X139 hx hZ hown (hw _ (List.mem_of_getElem? (i := 19) rfl)) (hw _ (List.mem_of_getElem? (i := 20) rfl)) (hw _ (List.mem_of_getElem? (i := 21) rfl)) (hw _ (List.mem_of_getElem? (i := 22) rfl)) (by decide) e139 (W := 0) (val' := (.double (hi1 &&& 0x7fffffffffffffff))) (fun c => Jvm.Free.Fl.Abs.absD_pays hi1 c (by decide) (by decide)) (g := (mkF m 27 #[.val (.ref a1), .val (.double dx), .second, .val (.double hi1), .second, .val (.int (1 : Int32)), .val (.int (2 : Int32)), .val (.double q2), .second, .val (.double hi1), .second, .val (.double lo1), .second] [(.double hi1)])) rfl (by rw [hml]; rfl) (argsL := [(.double hi1)]) (rest := []) (lenOf pd_0 rfl) rfl (by show 2 * 0 + _ ≤ _; exact Nat.le_of_eq rfl) (hb hby d_prog_8_2_27) (by decide) (by decide) ⟨rfl, nx2⟩ rfl
        obtain ⟨T142, X142, e142, st142⟩ := natS X141 hx hZ hown (hw _ (List.mem_of_getElem? (i := 19) rfl)) (hw _ (List.mem_of_getElem? (i := 20) rfl)) (hw _ (List.mem_of_getElem? (i := 21) rfl)) (hw _ (List.mem_of_getElem? (i := 22) rfl)) (by decide) e141 (W := 2) (val' := (.double (q2 &&& 0x7fffffffffffffff))) (fun c => Jvm.Free.Fl.Abs.absD_pays q2 c (by decide) (by decide)) (g := (mkF m 32 #[.val (.ref a1), .val (.double dx), .second, .val (.double hi1), .second, .val (.int (1 : Int32)), .val (.int (2 : Int32)), .val (.double q2), .second, .val (.double hi1), .second, .val (.double lo1), .second] [(.double q2), (.double (hi1 &&& 0x7fffffffffffffff))])) rfl (by rw [hml]; rfl) (argsL := [(.double q2)]) (rest := [(.double (hi1 &&& 0x7fffffffffffffff))]) (lenOf pd_0 rfl) rfl (by show 2 * 0 + _ ≤ _; exact Nat.le_of_eq rfl) (hb hby d_prog_8_2_32) (by decide) (by decide) ⟨rfl, nq2⟩ rfl
        have k143 : ∀ t_, Steps p.tables e below (T142.setTop (mkF m 36 #[.val (.ref a1), .val (.double dx), .second, .val (.double hi1), .second, .val (.int (1 : Int32)), .val (.int (2 : Int32)), .val (.double q2), .second, .val (.double hi1), .second, .val (.double lo1), .second] [(.int (cmpValue (FP.dcmp (hi1 &&& 0x7fffffffffffffff) (q2 &&& 0x7fffffffffffffff)) .g))])) t_ → Steps p.tables e below A t_ := by
          intro t_ ht_
          refine k109 t_ ?_
          refine own_f_ifNo X106.here hx (hb hby d_prog_8_2_68) ((if0 _ _).trans (feq (hz1)).1) (rfl : _ = 71) ?_
          refine own_f_aloadN X106.here hx (hb hby d_prog_8_2_71) rfl rfl (rfl : _ = 72) ?_
          refine st135 _ ?_
          show Steps p.tables e below (T135.setTop (mkF m 75 #[.val (.ref a1), .val (.double dx), .second, .val (.double (own_fst hi0 q1)), .second, .val (.int (0 : Int32)), .val (.int (1 : Int32)), .val (.double (own_snd hi0 q1)), .second, .val (.double hi1), .second, .val (.double lo1), .second] [(.ref ar)])) t_
          refine own_f_iload X135.here hx (hb hby d_prog_8_2_75) rfl (rfl : _ = 77) ?_
          refine own_f_iinc X135.here hx (hb hby d_prog_8_2_77) rfl (rfl : storeLocals _ _ _ = some #[.val (.ref a1), .val (.double dx), .second, .val (.double (own_fst hi0 q1)), .second, .val (.int (1 : Int32)), .val (.int (1 : Int32)), .val (.double (own_snd hi0 q1)), .second, .val (.double hi1), .second, .val (.double lo1), .second]) (rfl : _ = 80) ?_
          refine own_f_dload X135.here hx (hb hby d_prog_8_2_80) rfl (rfl : _ = 82) ?_
          refine st137 _ ?_
          show Steps p.tables e below (T137.setTop (mkF m 83 #[.val (.ref a1), .val (.double dx), .second, .val (.double (own_fst hi0 q1)), .second, .val (.int (1 : Int32)), .val (.int (1 : Int32)), .val (.double (own_snd hi0 q1)), .second, .val (.double hi1), .second, .val (.double lo1), .second] [])) t_
          refine own_f_dload X137.here hx (hb hby d_prog_8_2_83) rfl (rfl : _ = 85) ?_
          refine own_f_dstoreN X137.here hx (hb hby d_prog_8_2_85) (rfl : storeLocals _ _ _ = some #[.val (.ref a1), .val (.double dx), .second, .val (.double hi1), .second, .val (.int (1 : Int32)), .val (.int (1 : Int32)), .val (.double (own_snd hi0 q1)), .second, .val (.double hi1), .second, .val (.double lo1), .second]) (rfl : _ = 86) ?_
          refine own_f_iinc X137.here hx (hb hby d_prog_8_2_86) rfl (rfl : storeLocals _ _ _ = some #[.val (.ref a1), .val (.double dx), .second, .val (.double hi1), .second, .val (.int (1 : Int32)), .val (.int (2 : Int32)), .val (.double (own_snd hi0 q1)), .second, .val (.double hi1), .second, .val (.double lo1), .second]) (rfl : _ = 89) ?_
          refine own_f_goto X137.here hx (hb hby d_prog_8_2_89) (by decide) (by decide : _ = 8) ?_
          refine own_f_iload X137.here hx (hb hby d_prog_8_2_8) rfl (rfl : _ = 10) ?_
          refine own_f_aloadN X137.here hx (hb hby d_prog_8_2_10) rfl rfl (rfl : _ = 11) ?_
          refine st138 _ ?_
          show Steps p.tables e below (T138.setTop (mkF m 14 #[.val (.ref a1), .val (.double dx), .second, .val (.double hi1), .second, .val (.int (1 : Int32)), .val (.int (2 : Int32)), .val (.double (own_snd hi0 q1)), .second, .val (.double hi1), .second, .val (.double lo1), .second] [(.int (3 : Int32)), (.int (2 : Int32))])) t_
          refine own_f_icmpNo X138.here hx (hb hby d_prog_8_2_14) (tlt (by decide)).2.1 (rfl : _ = 17) ?_
          refine own_f_aloadN X138.here hx (hb hby d_prog_8_2_17) rfl rfl (rfl : _ = 18) ?_
          refine st139 _ ?_
          show Steps p.tables e below (T139.setTop (mkF m 21 #[.val (.ref a1), .val (.double dx), .second, .val (.double hi1), .second, .val (.int (1 : Int32)), .val (.int (2 : Int32)), .val (.double (own_snd hi0 q1)), .second, .val (.double hi1), .second, .val (.double lo1), .second] [(.ref ar)])) t_
          refine own_f_iload X139.here hx (hb hby d_prog_8_2_21) rfl (rfl : _ = 23) ?_
          refine X139.daload hx (j := (2 : Int32)) (v := (.double q2)) (by rw [e139]; exact Ar140.1) (State.isArrayOf_alike hZ.alike Ar140.2.1) Ar140.2.2 hin140 hat140 (g := (mkF m 23 #[.val (.ref a1), .val (.double dx), .second, .val (.double hi1), .second, .val (.int (1 : Int32)), .val (.int (2 : Int32)), .val (.double (own_snd hi0 q1)), .second, .val (.double hi1), .second, .val (.double lo1), .second] [(.int (2 : Int32)), (.ref ar)])) rfl rfl (hb hby d_prog_8_2_23) _ ?_
          show Steps p.tables e below (T139.setTop (mkF m 24 #[.val (.ref a1), .val (.double dx), .second, .val (.double hi1), .second, .val (.int (1 : Int32)), .val (.int (2 : Int32)), .val (.double (own_snd hi0 q1)), .second, .val (.double hi1), .second, .val (.double lo1), .second] [(.double q2)])) t_
          refine own_f_dstore X139.here hx (hb hby d_prog_8_2_24) (rfl : storeLocals _ _ _ = some #[.val (.ref a1), .val (.double dx), .second, .val (.double hi1), .second, .val (.int (1 : Int32)), .val (.int (2 : Int32)), .val (.double q2), .second, .val (.double hi1), .second, .val (.double lo1), .second]) (rfl : _ = 26) ?_
          refine own_f_dloadN X139.here hx (hb hby d_prog_8_2_26) rfl (rfl : _ = 27) ?_
          refine st141 _ ?_
          show Steps p.tables e below (T141.setTop (mkF m 30 #[.val (.ref a1), .val (.double dx), .second, .val (.double hi1), .second, .val (.int (1 : Int32)), .val (.int (2 : Int32)), .val (.double q2), .second, .val (.double hi1), .second, .val (.double lo1), .second] [(.double (hi1 &&& 0x7fffffffffffffff))])) t_
          refine own_f_dload X141.here hx (hb hby d_prog_8_2_30) rfl (rfl : _ = 32) ?_
          refine st142 _ ?_
          show Steps p.tables e below (T142.setTop (mkF m 35 #[.val (.ref a1), .val (.double dx), .second, .val (.double hi1), .second, .val (.int (1 : Int32)), .val (.int (2 : Int32)), .val (.double q2), .second, .val (.double hi1), .second, .val (.double lo1), .second] [(.double (q2 &&& 0x7fffffffffffffff)), (.double (hi1 &&& 0x7fffffffffffffff))])) t_
          refine own_f_dcmp X142.here hx (hb hby d_prog_8_2_35) rfl (rfl : _ = 36) ?_
          exact ht_
        have k144 : ∀ t_, Steps p.tables e below (T142.setTop (mkF m 64 #[.val (.ref a1), .val (.double dx), .second, .val (.double (own_fst hi1 q2)), .second, .val (.int (1 : Int32)), .val (.int (2 : Int32)), .val (.double (own_snd hi1 q2)), .second, .val (.double (FP.dadd (own_fst hi1 q2) (own_snd hi1 q2))), .second, .val (.double (own_lo (own_fst hi1 q2) (own_snd hi1 q2))), .second] [])) t_ → Steps p.tables e below A t_ := by
          intro t_ ht_
          refine k143 t_ ?_
          by_cases hsw : own_lt hi1 q2
          · have e1 : own_fst hi1 q2 = q2 := if_pos hsw
            have e2 : own_snd hi1 q2 = hi1 := if_pos hsw
            rw [e1, e2] at ht_ na2 nb2 nc2
            have hs_ : (cmpValue (FP.dcmp (hi1 &&& 0x7fffffffffffffff) (q2 &&& 0x7fffffffffffffff)) .g) < (0 : Int32) := hsw
            refine own_f_ifNo X142.here hx (hb hby d_prog_8_2_36) ((if0 _ _).trans (tlt (hs_)).2.1) (rfl : _ = 39) ?_
            refine own_f_dload X142.here hx (hb hby d_prog_8_2_39) rfl (rfl : _ = 41) ?_
            refine own_f_dstore X142.here hx (hb hby d_prog_8_2_41) (rfl : storeLocals _ _ _ = some #[.val (.ref a1), .val (.double dx), .second, .val (.double hi1), .second, .val (.int (1 : Int32)), .val (.int (2 : Int32)), .val (.double q2), .second, .val (.double q2), .second, .val (.double lo1), .second]) (rfl : _ = 43) ?_
            refine own_f_dloadN X142.here hx (hb hby d_prog_8_2_43) rfl (rfl : _ = 44) ?_
            refine own_f_dstore X142.here hx (hb hby d_prog_8_2_44) (rfl : storeLocals _ _ _ = some #[.val (.ref a1), .val (.double dx), .second, .val (.double hi1), .second, .val (.int (1 : Int32)), .val (.int (2 : Int32)), .val (.double hi1), .second, .val (.double q2), .second, .val (.double lo1), .second]) (rfl : _ = 46) ?_
            refine own_f_dload X142.here hx (hb hby d_prog_8_2_46) rfl (rfl : _ = 48) ?_
            refine own_f_dstoreN X142.here hx (hb hby d_prog_8_2_48) (rfl : storeLocals _ _ _ = some #[.val (.ref a1), .val (.double dx), .second, .val (.double q2), .second, .val (.int (1 : Int32)), .val (.int (2 : Int32)), .val (.double hi1), .second, .val (.double q2), .second, .val (.double lo1), .second]) (rfl : _ = 49) ?_
            refine own_f_dloadN X142.here hx (hb hby d_prog_8_2_49) rfl (rfl : _ = 50) ?_
            refine own_f_dload X142.here hx (hb hby d_prog_8_2_50) rfl (rfl : _ = 52) ?_
            refine own_f_dadd X142.here hx (hb hby d_prog_8_2_52) (na2) rfl (rfl : _ = 53) ?_
            refine own_f_dstore X142.here hx (hb hby d_prog_8_2_53) (rfl : storeLocals _ _ _ = some #[.val (.ref a1), .val (.double dx), .second, .val (.double q2), .second, .val (.int (1 : Int32)), .val (.int (2 : Int32)), .val (.double hi1), .second, .val (.double (FP.dadd q2 hi1)), .second, .val (.double lo1), .second]) (rfl : _ = 55) ?_
            refine own_f_dload X142.here hx (hb hby d_prog_8_2_55) rfl (rfl : _ = 57) ?_
            refine own_f_dload X142.here hx (hb hby d_prog_8_2_57) rfl (rfl : _ = 59) ?_
            refine own_f_dloadN X142.here hx (hb hby d_prog_8_2_59) rfl (rfl : _ = 60) ?_
            refine own_f_dsub X142.here hx (hb hby d_prog_8_2_60) (nb2) rfl (rfl : _ = 61) ?_
            refine own_f_dsub X142.here hx (hb hby d_prog_8_2_61) (nc2) rfl (rfl : _ = 62) ?_
            refine own_f_dstore X142.here hx (hb hby d_prog_8_2_62) (rfl : storeLocals _ _ _ = some #[.val (.ref a1), .val (.double dx), .second, .val (.double q2), .second, .val (.int (1 : Int32)), .val (.int (2 : Int32)), .val (.double hi1), .second, .val (.double (FP.dadd q2 hi1)), .second, .val (.double (FP.dsub hi1 (FP.dsub (FP.dadd q2 hi1) q2))), .second]) (rfl : _ = 64) ?_
            exact ht_
          · have e1 : own_fst hi1 q2 = hi1 := if_neg hsw
            have e2 : own_snd hi1 q2 = q2 := if_neg hsw
            rw [e1, e2] at ht_ na2 nb2 nc2
            have hs_ : ¬ ((cmpValue (FP.dcmp (hi1 &&& 0x7fffffffffffffff) (q2 &&& 0x7fffffffffffffff)) .g) < (0 : Int32)) := hsw
            refine own_f_ifYes X142.here hx (hb hby d_prog_8_2_36) ((if0 _ _).trans (flt (hs_)).2.1) (by decide) (by decide : _ = 49) ?_
            refine own_f_dloadN X142.here hx (hb hby d_prog_8_2_49) rfl (rfl : _ = 50) ?_
            refine own_f_dload X142.here hx (hb hby d_prog_8_2_50) rfl (rfl : _ = 52) ?_
            refine own_f_dadd X142.here hx (hb hby d_prog_8_2_52) (na2) rfl (rfl : _ = 53) ?_
            refine own_f_dstore X142.here hx (hb hby d_prog_8_2_53) (rfl : storeLocals _ _ _ = some #[.val (.ref a1), .val (.double dx), .second, .val (.double hi1), .second, .val (.int (1 : Int32)), .val (.int (2 : Int32)), .val (.double q2), .second, .val (.double (FP.dadd hi1 q2)), .second, .val (.double lo1), .second]) (rfl : _ = 55) ?_
            refine own_f_dload X142.here hx (hb hby d_prog_8_2_55) rfl (rfl : _ = 57) ?_
            refine own_f_dload X142.here hx (hb hby d_prog_8_2_57) rfl (rfl : _ = 59) ?_
            refine own_f_dloadN X142.here hx (hb hby d_prog_8_2_59) rfl (rfl : _ = 60) ?_
            refine own_f_dsub X142.here hx (hb hby d_prog_8_2_60) (nb2) rfl (rfl : _ = 61) ?_
            refine own_f_dsub X142.here hx (hb hby d_prog_8_2_61) (nc2) rfl (rfl : _ = 62) ?_
            refine own_f_dstore X142.here hx (hb hby d_prog_8_2_62) (rfl : storeLocals _ _ _ = some #[.val (.ref a1), .val (.double dx), .second, .val (.double hi1), .second, .val (.int (1 : Int32)), .val (.int (2 : Int32)), .val (.double q2), .second, .val (.double (FP.dadd hi1 q2)), .second, .val (.double (FP.dsub q2 (FP.dsub (FP.dadd hi1 q2) hi1))), .second]) (rfl : _ = 64) ?_
            exact ht_
        obtain ⟨hi2, hhi2⟩ : ∃ z : UInt64, z = (FP.dadd (own_fst hi1 q2) (own_snd hi1 q2)) := ⟨_, rfl⟩
        rw [← hhi2] at k144
        obtain ⟨lo2, hlo2⟩ : ∃ z : UInt64, z = (own_lo (own_fst hi1 q2) (own_snd hi1 q2)) := ⟨_, rfl⟩
        rw [← hlo2] at k144
        replace hnn := own_nn' hhi2 hnn
        have k145 : ∀ t_, Steps p.tables e below (T142.setTop (mkF m 68 #[.val (.ref a1), .val (.double dx), .second, .val (.double (own_fst hi1 q2)), .second, .val (.int (1 : Int32)), .val (.int (2 : Int32)), .val (.double (own_snd hi1 q2)), .second, .val (.double hi2), .second, .val (.double lo2), .second] [(.int (cmpValue (FP.dcmp lo2 (0 : UInt64)) .l))])) t_ → Steps p.tables e below A t_ := by
          intro t_ ht_
          refine k144 t_ ?_
          refine own_f_dload X142.here hx (hb hby d_prog_8_2_64) rfl (rfl : _ = 66) ?_
          refine own_f_dconst0 X142.here hx (hb hby d_prog_8_2_66) (rfl : _ = (0 : UInt64)) (rfl : _ = 67) ?_
          refine own_f_dcmp X142.here hx (hb hby d_prog_8_2_67) rfl (rfl : _ = 68) ?_
          exact ht_
        by_cases hz2 : (cmpValue (FP.dcmp lo2 (0 : UInt64)) .l) = (0 : Int32)
        · obtain ⟨T146, X146, e146, st146⟩ := getF X142 hx hZ hown (host := "") (Or.inl (hw _ (List.mem_of_getElem? (i := 17) rfl))) Via.refl e142 Fs (g := (mkF m 11 #[.val (.ref a1), .val (.double dx), .second, .val (.double hi2), .second, .val (.int (1 : Int32)), .val (.int (3 : Int32)), .val (.double (own_snd hi1 q2)), .second, .val (.double hi2), .second, .val (.double lo2), .second] [(.ref a1), (.int (3 : Int32))])) rfl rfl (hb hby d_prog_8_2_11)
          obtain ⟨T147, X147, e147, st147⟩ := getF X146 hx hZ hown (host := "") (Or.inl (hw _ (List.mem_of_getElem? (i := 10) rfl))) Via.refl e146 Fp (g := (mkF m 95 #[.val (.ref a1), .val (.double dx), .second, .val (.double hi2), .second, .val (.int (1 : Int32)), .val (.int (3 : Int32)), .val (.double (own_snd hi1 q2)), .second, .val (.double hi2), .second, .val (.double lo2), .second] [(.ref a1), (.int (1 : Int32))])) rfl rfl (hb hby d_prog_8_2_95)
          obtain ⟨cl148, Ar148, -, Sz148, Ng148, -, -⟩ := id Va
          obtain ⟨T149, X149, e149, st149⟩ := getF X147 hx hZ hown (host := "") (Or.inl (hw _ (List.mem_of_getElem? (i := 10) rfl))) Via.refl e147 Fp (g := (mkF m 118 #[.val (.ref a1), .val (.double dx), .second, .val (.double hi2), .second, .val (.int (1 : Int32)), .val (.int (3 : Int32)), .val (.double (own_snd hi1 q2)), .second, .val (.double hi2), .second, .val (.double lo2), .second] [(.ref a1)])) rfl rfl (hb hby d_prog_8_2_118)
          obtain ⟨cl150, Ar150, q150, Sz150, Ng150, Hs150, Gs150⟩ := Va
          have hin150 : ¬ ((1 : Int32) < 0 ∨ cl150.slots.size ≤ ((1 : Int32)).toNatClampNeg) := inb_of Sz150 ⟨by decide, by decide⟩
          obtain ⟨T151, h151, X151, e151, W151, st151⟩ := stD X149 hx hZ e149 Ar150 (j := (1 : Int32)) hin150 (g := (mkF m 127 #[.val (.ref a1), .val (.double dx), .second, .val (.double hi2), .second, .val (.int (2 : Int32)), .val (.int (3 : Int32)), .val (.double (own_snd hi1 q2)), .second, .val (.double hi2), .second, .val (.double lo2), .second] [(.double hi2), (.int (1 : Int32)), (.ref ar)])) rfl rfl (hb hby d_prog_8_2_127)
          replace Ea := Ea.wr W151
          replace Fp := Fp.other W151 (Or.inl hne)
          replace Fs := Fs.other W151 (Or.inl hne)
          have Zs151 := Nat.le_trans Zs137 (Keep.of_wr W151).1
          replace KK := KK.wr W151 (Or.inl (by simp))
          have Va : Arv Z h151 ar kc .double (4 : Int32) [(.double lo1), (.double hi2), (.double q2), (.double q3)] (.double (0 : UInt64)) := Arv.set Ar150 q150 Sz150 Ng150 Hs150 Gs150 rfl W151 1 rfl (Nat.le_of_ble_eq_true rfl)
          have N151 := Fr.snoc X151 N137 g_ar
          obtain ⟨T152, h152, X152, e152, W152, st152⟩ := putF X151 hx hZ hown (host := "") (Or.inl (hw _ (List.mem_of_getElem? (i := 17) rfl))) Via.refl e151 Fs Ea (Or.inl (hw _ (List.mem_of_getElem? (i := 18) rfl))) (hw _ (List.mem_of_getElem? (i := 1) rfl)) (ty := .int) (by decide) rfl rfl (g := (mkF m 131 #[.val (.ref a1), .val (.double dx), .second, .val (.double hi2), .second, .val (.int (2 : Int32)), .val (.int (3 : Int32)), .val (.double (own_snd hi1 q2)), .second, .val (.double hi2), .second, .val (.double lo2), .second] [(.int (2 : Int32)), (.ref a1)])) rfl rfl (hb hby d_prog_8_2_131)
          replace Ea := Ea.wr W152
          replace Fp := Fp.other W152 (Or.inr (slot_ne (Or.inl (hw _ (List.mem_of_getElem? (i := 11) rfl))) (Or.inl (hw _ (List.mem_of_getElem? (i := 18) rfl))) (by decide) (t := (.array .double)) (t' := .int) (by decide) (by decide)))
          replace Va := Va.other W152 (Ne.symm hne)
          have Zs152 := Nat.le_trans Zs151 (Keep.of_wr W152).1
          replace KK := KK.wr W152 (Or.inl (by simp))
          replace Fs := Fs.same W152
          have N152 := Fr.snoc X152 N151 g_a1
          obtain ⟨fs, hr, hrun, hended, hW, hsame⟩ := X152.leave (v := none) (fun _ => rfl) hlk
          refine ⟨_, _, ?_, hrun, hended, _, _, rfl, ?_, ⟨_, rfl⟩, hW, hsame.mono (by decide) (by decide)⟩
          · refine hA0 _ ?_
            refine k145 _ ?_
            refine own_f_ifYes X142.here hx (hb hby d_prog_8_2_68) ((if0 _ _).trans (teq (hz2)).1) (by decide) (by decide : _ = 83) ?_
            refine own_f_dload X142.here hx (hb hby d_prog_8_2_83) rfl (rfl : _ = 85) ?_
            refine own_f_dstoreN X142.here hx (hb hby d_prog_8_2_85) (rfl : storeLocals _ _ _ = some #[.val (.ref a1), .val (.double dx), .second, .val (.double hi2), .second, .val (.int (1 : Int32)), .val (.int (2 : Int32)), .val (.double (own_snd hi1 q2)), .second, .val (.double hi2), .second, .val (.double lo2), .second]) (rfl : _ = 86) ?_
            refine own_f_iinc X142.here hx (hb hby d_prog_8_2_86) rfl (rfl : storeLocals _ _ _ = some #[.val (.ref a1), .val (.double dx), .second, .val (.double hi2), .second, .val (.int (1 : Int32)), .val (.int (3 : Int32)), .val (.double (own_snd hi1 q2)), .second, .val (.double hi2), .second, .val (.double lo2), .second]) (rfl : _ = 89) ?_
            refine own_f_goto X142.here hx (hb hby d_prog_8_2_89) (by decide) (by decide : _ = 8) ?_
            refine own_f_iload X142.here hx (hb hby d_prog_8_2_8) rfl (rfl : _ = 10) ?_
            refine own_f_aloadN X142.here hx (hb hby d_prog_8_2_10) rfl rfl (rfl : _ = 11) ?_
            refine st146 _ ?_
            show Steps p.tables e below (T146.setTop (mkF m 14 #[.val (.ref a1), .val (.double dx), .second, .val (.double hi2), .second, .val (.int (1 : Int32)), .val (.int (3 : Int32)), .val (.double (own_snd hi1 q2)), .second, .val (.double hi2), .second, .val (.double lo2), .second] [(.int (3 : Int32)), (.int (3 : Int32))])) _
            refine own_f_icmpYes X146.here hx (hb hby d_prog_8_2_14) (flt (by decide)).2.1 (by decide) (by decide : _ = 92) ?_
            refine own_f_iload X146.here hx (hb hby d_prog_8_2_92) rfl (rfl : _ = 94) ?_
            refine own_f_aloadN X146.here hx (hb hby d_prog_8_2_94) rfl rfl (rfl : _ = 95) ?_
            refine st147 _ ?_
            show Steps p.tables e below (T147.setTop (mkF m 98 #[.val (.ref a1), .val (.double dx), .second, .val (.double hi2), .second, .val (.int (1 : Int32)), .val (.int (3 : Int32)), .val (.double (own_snd hi1 q2)), .second, .val (.double hi2), .second, .val (.double lo2), .second] [(.ref ar), (.int (1 : Int32))])) _
            refine X147.arraylength hx (by rw [e147]; exact Ar148.1) (State.isArrayOf_alike hZ.alike Ar148.2.1) (g := (mkF m 98 #[.val (.ref a1), .val (.double dx), .second, .val (.double hi2), .second, .val (.int (1 : Int32)), .val (.int (3 : Int32)), .val (.double (own_snd hi1 q2)), .second, .val (.double hi2), .second, .val (.double lo2), .second] [(.ref ar), (.int (1 : Int32))])) rfl rfl (hb hby d_prog_8_2_98) _ ?_
            rw [len_of Sz148 Ng148]
            show Steps p.tables e below (T147.setTop (mkF m 99 #[.val (.ref a1), .val (.double dx), .second, .val (.double hi2), .second, .val (.int (1 : Int32)), .val (.int (3 : Int32)), .val (.double (own_snd hi1 q2)), .second, .val (.double hi2), .second, .val (.double lo2), .second] [(.int (4 : Int32)), (.int (1 : Int32))])) _
            refine own_f_icmpYes X147.here hx (hb hby d_prog_8_2_99) (feq (by decide)).2 (by decide) (by decide : _ = 117) ?_
            refine own_f_aloadN X147.here hx (hb hby d_prog_8_2_117) rfl rfl (rfl : _ = 118) ?_
            refine st149 _ ?_
            show Steps p.tables e below (T149.setTop (mkF m 121 #[.val (.ref a1), .val (.double dx), .second, .val (.double hi2), .second, .val (.int (1 : Int32)), .val (.int (3 : Int32)), .val (.double (own_snd hi1 q2)), .second, .val (.double hi2), .second, .val (.double lo2), .second] [(.ref ar)])) _
            refine own_f_iload X149.here hx (hb hby d_prog_8_2_121) rfl (rfl : _ = 123) ?_
            refine own_f_iinc X149.here hx (hb hby d_prog_8_2_123) rfl (rfl : storeLocals _ _ _ = some #[.val (.ref a1), .val (.double dx), .second, .val (.double hi2), .second, .val (.int (2 : Int32)), .val (.int (3 : Int32)), .val (.double (own_snd hi1 q2)), .second, .val (.double hi2), .second, .val (.double lo2), .second]) (rfl : _ = 126) ?_
            refine own_f_dloadN X149.here hx (hb hby d_prog_8_2_126) rfl (rfl : _ = 127) ?_
            refine st151 _ ?_
            show Steps p.tables e below (T151.setTop (mkF m 128 #[.val (.ref a1), .val (.double dx), .second, .val (.double hi2), .second, .val (.int (2 : Int32)), .val (.int (3 : Int32)), .val (.double (own_snd hi1 q2)), .second, .val (.double hi2), .second, .val (.double lo2), .second] [])) _
            refine own_f_aloadN X151.here hx (hb hby d_prog_8_2_128) rfl rfl (rfl : _ = 129) ?_
            refine own_f_iload X151.here hx (hb hby d_prog_8_2_129) rfl (rfl : _ = 131) ?_
            refine st152 _ ?_
            show Steps p.tables e below (T152.setTop (mkF m 134 #[.val (.ref a1), .val (.double dx), .second, .val (.double hi2), .second, .val (.int (2 : Int32)), .val (.int (3 : Int32)), .val (.double (own_snd hi1 q2)), .second, .val (.double hi2), .second, .val (.double lo2), .second] [])) _
            exact X152.returnOut hx Bd.returns (hb hby d_prog_8_2_134) hr
          · show Q2 Z a1 dx _ ar kc q0 q1 q2 q3 _ h0 n0 _ T152.heap _
            rw [e152]
            exact ⟨(2 : Int32), lo1, hi2, q2, q3, rfl, N152, KK, Fp, Fs, Va, own_res (M := [lo1, hi2]) (by rw [own_ins_d hlo0 hhi0 hz0, own_ins_c hlo1 hhi1 hz1, own_ins_d hlo2 hhi2 hz2]; rfl) (by show Int32.toInt 2 = ((2 : Nat) : Int); decide) rfl⟩
        · obtain ⟨T153, X153, e153, st153⟩ := getF X142 hx hZ hown (host := "") (Or.inl (hw _ (List.mem_of_getElem? (i := 10) rfl))) Via.refl e142 Fp (g := (mkF m 72 #[.val (.ref a1), .val (.double dx), .second, .val (.double (own_fst hi1 q2)), .second, .val (.int (1 : Int32)), .val (.int (2 : Int32)), .val (.double (own_snd hi1 q2)), .second, .val (.double hi2), .second, .val (.double lo2), .second] [(.ref a1)])) rfl rfl (hb hby d_prog_8_2_72)
          obtain ⟨cl154, Ar154, q154, Sz154, Ng154, Hs154, Gs154⟩ := Va
          have hin154 : ¬ ((1 : Int32) < 0 ∨ cl154.slots.size ≤ ((1 : Int32)).toNatClampNeg) := inb_of Sz154 ⟨by decide, by decide⟩
          obtain ⟨T155, h155, X155, e155, W155, st155⟩ := stD X153 hx hZ e153 Ar154 (j := (1 : Int32)) hin154 (g := (mkF m 82 #[.val (.ref a1), .val (.double dx), .second, .val (.double (own_fst hi1 q2)), .second, .val (.int (2 : Int32)), .val (.int (2 : Int32)), .val (.double (own_snd hi1 q2)), .second, .val (.double hi2), .second, .val (.double lo2), .second] [(.double lo2), (.int (1 : Int32)), (.ref ar)])) rfl rfl (hb hby d_prog_8_2_82)
          replace Ea := Ea.wr W155
          replace Fp := Fp.other W155 (Or.inl hne)
          replace Fs := Fs.other W155 (Or.inl hne)
          have Zs155 := Nat.le_trans Zs137 (Keep.of_wr W155).1
          replace KK := KK.wr W155 (Or.inl (by simp))
          have Va : Arv Z h155 ar kc .double (4 : Int32) [(.double lo1), (.double lo2), (.double q2), (.double q3)] (.double (0 : UInt64)) := Arv.set Ar154 q154 Sz154 Ng154 Hs154 Gs154 rfl W155 1 rfl (Nat.le_of_ble_eq_true rfl)
          have N155 := Fr.snoc X155 N137 g_ar
          obtain ⟨T156, X156, e156, st156⟩ := getF X155 hx hZ hown (host := "") (Or.inl (hw _ (List.mem_of_getElem? (i := 17) rfl))) Via.refl e155 Fs (g := (mkF m 11 #[.val (.ref a1), .val (.double dx), .second, .val (.double hi2), .second, .val (.int (2 : Int32)), .val (.int (3 : Int32)), .val (.double (own_snd hi1 q2)), .second, .val (.double hi2), .second, .val (.double lo2), .second] [(.ref a1), (.int (3 : Int32))])) rfl rfl (hb hby d_prog_8_2_11)
          obtain ⟨T157, X157, e157, st157⟩ := getF X156 hx hZ hown (host := "") (Or.inl (hw _ (List.mem_of_getElem? (i := 10) rfl))) Via.refl e156 Fp (g := (mkF m 95 #[.val (.ref a1), .val (.double dx), .second, .val (.double hi2), .second, .val (.int (2 : Int32)), .val (.int (3 : Int32)), .val (.double (own_snd hi1 q2)), .second, .val (.double hi2), .second, .val (.double lo2), .second] [(.ref a1), (.int (2 : Int32))])) rfl rfl (hb hby d_prog_8_2_95)
          obtain ⟨cl158, Ar158, -, Sz158, Ng158, -, -⟩ := id Va
          obtain ⟨T159, X159, e159, st159⟩ := getF X157 hx hZ hown (host := "") (Or.inl (hw _ (List.mem_of_getElem? (i := 10) rfl))) Via.refl e157 Fp (g := (mkF m 118 #[.val (.ref a1), .val (.double dx), .second, .val (.double hi2), .second, .val (.int (2 : Int32)), .val (.int (3 : Int32)), .val (.double (own_snd hi1 q2)), .second, .val (.double hi2), .second, .val (.double lo2), .second] [(.ref a1)])) rfl rfl (hb hby d_prog_8_2_118)
          obtain ⟨cl160, Ar160, q160, Sz160, Ng160, Hs160, Gs160⟩ := Va
          have hin160 : ¬ ((2 : Int32) < 0 ∨ cl160.slots.size ≤ ((2 : Int32)).toNatClampNeg) := inb_of Sz160 ⟨by decide, by decide⟩
          obtain ⟨T161, h161, X161, e161, W161, st161⟩ := stD X159 hx hZ e159 Ar160 (j := (2 : Int32)) hin160 (g := (mkF m 127 #[.val (.ref a1), .val (.double dx), .second, .val (.double hi2), .second, .val (.int (3 : Int32)), .val (.int (3 : Int32)), .val (.double (own_snd hi1 q2)), .second, .val (.double hi2), .second, .val (.double lo2), .second] [(.double hi2), (.int (2 : Int32)), (.ref ar)])) rfl rfl (hb hby d_prog_8_2_127)
          replace Ea := Ea.wr W161
          replace Fp := Fp.other W161 (Or.inl hne)
          replace Fs := Fs.other W161 (Or.inl hne)
          have Zs161 := Nat.le_trans Zs155 (Keep.of_wr W161).1
          replace KK := KK.wr W161 (Or.inl (by simp))
          have Va : Arv Z h161 ar kc .double (4 : Int32) [(.double lo1), (.double lo2), (.double hi2), (.double q3)] (.double (0 : UInt64)) := Arv.set Ar160 q160 Sz160 Ng160 Hs160 Gs160 rfl W161 2 rfl (Nat.le_of_ble_eq_true rfl)
          have N161 := Fr.snoc X161 N155 g_ar
          obtain ⟨T162, h162, X162, e162, W162, st162⟩ := putF X161 hx hZ hown (host := "") (Or.inl (hw _ (List.mem_of_getElem? (i := 17) rfl))) Via.refl e161 Fs Ea (Or.inl (hw _ (List.mem_of_getElem? (i := 18) rfl))) (hw _ (List.mem_of_getElem? (i := 1) rfl)) (ty := .int) (by decide) rfl rfl (g := (mkF m 131 #[.val (.ref a1), .val (.double dx), .second, .val (.double hi2), .second, .val (.int (3 : Int32)), .val (.int (3 : Int32)), .val (.double (own_snd hi1 q2)), .second, .val (.double hi2), .second, .val (.double lo2), .second] [(.int (3 : Int32)), (.ref a1)])) rfl rfl (hb hby d_prog_8_2_131)
          replace Ea := Ea.wr W162
          replace Fp := Fp.other W162 (Or.inr (slot_ne (Or.inl (hw _ (List.mem_of_getElem? (i := 11) rfl))) (Or.inl (hw _ (List.mem_of_getElem? (i := 18) rfl))) (by decide) (t := (.array .double)) (t' := .int) (by decide) (by decide)))
          replace Va := Va.other W162 (Ne.symm hne)
          have Zs162 := Nat.le_trans Zs161 (Keep.of_wr W162).1
          replace KK := KK.wr W162 (Or.inl (by simp))
          replace Fs := Fs.same W162
          have N162 := Fr.snoc X162 N161 g_a1
          obtain ⟨fs, hr, hrun, hended, hW, hsame⟩ := X162.leave (v := none) (fun _ => rfl) hlk
          refine ⟨_, _, ?_, hrun, hended, _, _, rfl, ?_, ⟨_, rfl⟩, hW, hsame.mono (by decide) (by decide)⟩
          · refine hA0 _ ?_
            refine k145 _ ?_
            refine own_f_ifNo X142.here hx (hb hby d_prog_8_2_68) ((if0 _ _).trans (feq (hz2)).1) (rfl : _ = 71) ?_
            refine own_f_aloadN X142.here hx (hb hby d_prog_8_2_71) rfl rfl (rfl : _ = 72) ?_
            refine st153 _ ?_
            show Steps p.tables e below (T153.setTop (mkF m 75 #[.val (.ref a1), .val (.double dx), .second, .val (.double (own_fst hi1 q2)), .second, .val (.int (1 : Int32)), .val (.int (2 : Int32)), .val (.double (own_snd hi1 q2)), .second, .val (.double hi2), .second, .val (.double lo2), .second] [(.ref ar)])) _
            refine own_f_iload X153.here hx (hb hby d_prog_8_2_75) rfl (rfl : _ = 77) ?_
            refine own_f_iinc X153.here hx (hb hby d_prog_8_2_77) rfl (rfl : storeLocals _ _ _ = some #[.val (.ref a1), .val (.double dx), .second, .val (.double (own_fst hi1 q2)), .second, .val (.int (2 : Int32)), .val (.int (2 : Int32)), .val (.double (own_snd hi1 q2)), .second, .val (.double hi2), .second, .val (.double lo2), .second]) (rfl : _ = 80) ?_
            refine own_f_dload X153.here hx (hb hby d_prog_8_2_80) rfl (rfl : _ = 82) ?_
            refine st155 _ ?_
            show Steps p.tables e below (T155.setTop (mkF m 83 #[.val (.ref a1), .val (.double dx), .second, .val (.double (own_fst hi1 q2)), .second, .val (.int (2 : Int32)), .val (.int (2 : Int32)), .val (.double (own_snd hi1 q2)), .second, .val (.double hi2), .second, .val (.double lo2), .second] [])) _
            refine own_f_dload X155.here hx (hb hby d_prog_8_2_83) rfl (rfl : _ = 85) ?_
            refine own_f_dstoreN X155.here hx (hb hby d_prog_8_2_85) (rfl : storeLocals _ _ _ = some #[.val (.ref a1), .val (.double dx), .second, .val (.double hi2), .second, .val (.int (2 : Int32)), .val (.int (2 : Int32)), .val (.double (own_snd hi1 q2)), .second, .val (.double hi2), .second, .val (.double lo2), .second]) (rfl : _ = 86) ?_
            refine own_f_iinc X155.here hx (hb hby d_prog_8_2_86) rfl (rfl : storeLocals _ _ _ = some #[.val (.ref a1), .val (.double dx), .second, .val (.double hi2), .second, .val (.int (2 : Int32)), .val (.int (3 : Int32)), .val (.double (own_snd hi1 q2)), .second, .val (.double hi2), .second, .val (.double lo2), .second]) (rfl : _ = 89) ?_
            refine own_f_goto X155.here hx (hb hby d_prog_8_2_89) (by decide) (by decide : _ = 8) ?_
            refine own_f_iload X155.here hx (hb hby d_prog_8_2_8) rfl (rfl : _ = 10) ?_
            refine own_f_aloadN X155.here hx (hb hby d_prog_8_2_10) rfl rfl (rfl : _ = 11) ?_
            refine st156 _ ?_
            show Steps p.tables e below (T156.setTop (mkF m 14 #[.val (.ref a1), .val (.double dx), .second, .val (.double hi2), .second, .val (.int (2 : Int32)), .val (.int (3 : Int32)), .val (.double (own_snd hi1 q2)), .second, .val (.double hi2), .second, .val (.double lo2), .second] [(.int (3 : Int32)), (.int (3 : Int32))])) _
            refine own_f_icmpYes X156.here hx (hb hby d_prog_8_2_14) (flt (by decide)).2.1 (by decide) (by decide : _ = 92) ?_
            refine own_f_iload X156.here hx (hb hby d_prog_8_2_92) rfl (rfl : _ = 94) ?_
            refine own_f_aloadN X156.here hx (hb hby d_prog_8_2_94) rfl rfl (rfl : _ = 95) ?_
            refine st157 _ ?_
            show Steps p.tables e below (T157.setTop (mkF m 98 #[.val (.ref a1), .val (.double dx), .second, .val (.double hi2), .second, .val (.int (2 : Int32)), .val (.int (3 : Int32)), .val (.double (own_snd hi1 q2)), .second, .val (.double hi2), .second, .val (.double lo2), .second] [(.ref ar), (.int (2 : Int32))])) _
            refine X157.arraylength hx (by rw [e157]; exact Ar158.1) (State.isArrayOf_alike hZ.alike Ar158.2.1) (g := (mkF m 98 #[.val (.ref a1), .val (.double dx), .second, .val (.double hi2), .second, .val (.int (2 : Int32)), .val (.int (3 : Int32)), .val (.double (own_snd hi1 q2)), .second, .val (.double hi2), .second, .val (.double lo2), .second] [(.ref ar), (.int (2 : Int32))])) rfl rfl (hb hby d_prog_8_2_98) _ ?_
            rw [len_of Sz158 Ng158]
            show Steps p.tables e below (T157.setTop (mkF m 99 #[.val (.ref a1), .val (.double dx), .second, .val (.double hi2), .second, .val (.int (2 : Int32)), .val (.int (3 : Int32)), .val (.double (own_snd hi1 q2)), .second, .val (.double hi2), .second, .val (.double lo2), .second] [(.int (4 : Int32)), (.int (2 : Int32))])) _
            refine own_f_icmpYes X157.here hx (hb hby d_prog_8_2_99) (feq (by decide)).2 (by decide) (by decide : _ = 117) ?_
            refine own_f_aloadN X157.here hx (hb hby d_prog_8_2_117) rfl rfl (rfl : _ = 118) ?_
            refine st159 _ ?_
            show Steps p.tables e below (T159.setTop (mkF m 121 #[.val (.ref a1), .val (.double dx), .second, .val (.double hi2), .second, .val (.int (2 : Int32)), .val (.int (3 : Int32)), .val (.double (own_snd hi1 q2)), .second, .val (.double hi2), .second, .val (.double lo2), .second] [(.ref ar)])) _
            refine own_f_iload X159.here hx (hb hby d_prog_8_2_121) rfl (rfl : _ = 123) ?_
            refine own_f_iinc X159.here hx (hb hby d_prog_8_2_123) rfl (rfl : storeLocals _ _ _ = some #[.val (.ref a1), .val (.double dx), .second, .val (.double hi2), .second, .val (.int (3 : Int32)), .val (.int (3 : Int32)), .val (.double (own_snd hi1 q2)), .second, .val (.double hi2), .second, .val (.double lo2), .second]) (rfl : _ = 126) ?_
            refine own_f_dloadN X159.here hx (hb hby d_prog_8_2_126) rfl (rfl : _ = 127) ?_
            refine st161 _ ?_
            show Steps p.tables e below (T161.setTop (mkF m 128 #[.val (.ref a1), .val (.double dx), .second, .val (.double hi2), .second, .val (.int (3 : Int32)), .val (.int (3 : Int32)), .val (.double (own_snd hi1 q2)), .second, .val (.double hi2), .second, .val (.double lo2), .second] [])) _
            refine own_f_aloadN X161.here hx (hb hby d_prog_8_2_128) rfl rfl (rfl : _ = 129) ?_
            refine own_f_iload X161.here hx (hb hby d_prog_8_2_129) rfl (rfl : _ = 131) ?_
            refine st162 _ ?_
            show Steps p.tables e below (T162.setTop (mkF m 134 #[.val (.ref a1), .val (.double dx), .second, .val (.double hi2), .second, .val (.int (3 : Int32)), .val (.int (3 : Int32)), .val (.double (own_snd hi1 q2)), .second, .val (.double hi2), .second, .val (.double lo2), .second] [])) _
            exact X162.returnOut hx Bd.returns (hb hby d_prog_8_2_134) hr
          · show Q2 Z a1 dx _ ar kc q0 q1 q2 q3 _ h0 n0 _ T162.heap _
            rw [e162]
            exact ⟨(3 : Int32), lo1, lo2, hi2, q3, rfl, N162, KK, Fp, Fs, Va, own_res (M := [lo1, lo2, hi2]) (by rw [own_ins_d hlo0 hhi0 hz0, own_ins_c hlo1 hhi1 hz1, own_ins_c hlo2 hhi2 hz2]; rfl) (by show Int32.toInt 3 = ((3 : Nat) : Int); decide) rfl⟩
    · obtain ⟨T163, X163, e163, st163⟩ := getF X98 hx hZ hown (host := "") (Or.inl (hw _ (List.mem_of_getElem? (i := 10) rfl))) Via.refl e98 Fp (g := (mkF m 72 #[.val (.ref a1), .val (.double dx), .second, .val (.double (own_fst dx q0)), .second, .val (.int (0 : Int32)), .val (.int (0 : Int32)), .val (.double (own_snd dx q0)), .second, .val (.double hi0), .second, .val (.double lo0), .second] [(.ref a1)])) rfl rfl (hb hby d_prog_8_2_72)
      obtain ⟨cl164, Ar164, q164, Sz164, Ng164, Hs164, Gs164⟩ := Va
      have hin164 : ¬ ((0 : Int32) < 0 ∨ cl164.slots.size ≤ ((0 : Int32)).toNatClampNeg) := inb_of Sz164 ⟨by decide, by decide⟩
      obtain ⟨T165, h165, X165, e165, W165, st165⟩ := stD X163 hx hZ e163 Ar164 (j := (0 : Int32)) hin164 (g := (mkF m 82 #[.val (.ref a1), .val (.double dx), .second, .val (.double (own_fst dx q0)), .second, .val (.int (1 : Int32)), .val (.int (0 : Int32)), .val (.double (own_snd dx q0)), .second, .val (.double hi0), .second, .val (.double lo0), .second] [(.double lo0), (.int (0 : Int32)), (.ref ar)])) rfl rfl (hb hby d_prog_8_2_82)
      replace Ea := Ea.wr W165
      replace Fp := Fp.other W165 (Or.inl hne)
      replace Fs := Fs.other W165 (Or.inl hne)
      have Zs165 := Nat.le_trans Z0 (Keep.of_wr W165).1
      replace KK := KK.wr W165 (Or.inl (by simp))
      have Va : Arv Z h165 ar kc .double (4 : Int32) [(.double lo0), (.double q1), (.double q2), (.double q3)] (.double (0 : UInt64)) := Arv.set Ar164 q164 Sz164 Ng164 Hs164 Gs164 rfl W165 0 rfl (Nat.le_of_ble_eq_true rfl)
      have N165 := Fr.snoc X165 N0 g_ar
      obtain ⟨T166, X166, e166, st166⟩ := getF X165 hx hZ hown (host := "") (Or.inl (hw _ (List.mem_of_getElem? (i := 17) rfl))) Via.refl e165 Fs (g := (mkF m 11 #[.val (.ref a1), .val (.double dx), .second, .val (.double hi0), .second, .val (.int (1 : Int32)), .val (.int (1 : Int32)), .val (.double (own_snd dx q0)), .second, .val (.double hi0), .second, .val (.double lo0), .second] [(.ref a1), (.int (1 : Int32))])) rfl rfl (hb hby d_prog_8_2_11)
      obtain ⟨T167, X167, e167, st167⟩ := getF X166 hx hZ hown (host := "") (Or.inl (hw _ (List.mem_of_getElem? (i := 10) rfl))) Via.refl e166 Fp (g := (mkF m 18 #[.val (.ref a1), .val (.double dx), .second, .val (.double hi0), .second, .val (.int (1 : Int32)), .val (.int (1 : Int32)), .val (.double (own_snd dx q0)), .second, .val (.double hi0), .second, .val (.double lo0), .second] [(.ref a1)])) rfl rfl (hb hby d_prog_8_2_18)
      obtain ⟨cl168, Ar168, -, Sz168, Ng168, Hs168, -⟩ := id Va
      have hin168 : ¬ ((1 : Int32) < 0 ∨ cl168.slots.size ≤ ((1 : Int32)).toNatClampNeg) := inb_of Sz168 ⟨by decide, by decide⟩
      have hat168 : cl168.slots[((1 : Int32)).toNatClampNeg]? = some (.double q1) := Hs168 _ (Nat.lt_of_not_le fun q => hin168 (Or.inr q))
      obtain ⟨⟨nx1, nq1⟩, na1, nb1, nc1, -⟩ := own_nn hnn
      obtain ⟨T169, X169, e169, st169⟩ := natS X167 hx hZ hown (hw _ (List.mem_of_getElem? (i := 19) rfl)) (hw _ (List.mem_of_getElem? (i := 20) rfl)) (hw _ (List.mem_of_getElem? (i := 21) rfl)) (hw _ (List.mem_of_getElem? (i := 22) rfl)) (by decide) e167 (W := 0) (val' := (.double (hi0 &&& 0x7fffffffffffffff))) (fun c => Jvm.Free.Fl.Abs.absD_pays hi0 c (by decide) (by decide)) (g := (mkF m 27 #[.val (.ref a1), .val (.double dx), .second, .val (.double hi0), .second, .val (.int (1 : Int32)), .val (.int (1 : Int32)), .val (.double q1), .second, .val (.double hi0), .second, .val (.double lo0), .second] [(.double hi0)])) rfl (by rw [hml]; rfl) (argsL := [(.double hi0)]) (rest := []) (lenOf pd_0 rfl) rfl (by show 2 * 0 + _ ≤ _; exact Nat.le_of_eq rfl) (hb hby d_prog_8_2_27) (by decide) (by decide) ⟨rfl, nx1⟩ rfl
      obtain ⟨T170, X170, e170, st170⟩ := natS X169 hx hZ hown (hw _ (List.mem_of_getElem? (i := 19) rfl)) (hw _ (List.mem_of_getElem? (i := 20) rfl)) (hw _ (List.mem_of_getElem? (i := 21) rfl)) (hw _ (List.mem_of_getElem? (i := 22) rfl)) (by decide) e169 (W := 2) (val' := (.double (q1 &&& 0x7fffffffffffffff))) (fun c => Jvm.Free.Fl.Abs.absD_pays q1 c (by decide) (by decide)) (g := (mkF m 32 #[.val (.ref a1), .val (.double dx), .second, .val (.double hi0), .second, .val (.int (1 : Int32)), .val (.int (1 : Int32)), .val (.double q1), .second, .val (.double hi0), .second, .val (.double lo0), .second] [(.double q1), (.double (hi0 &&& 0x7fffffffffffffff))])) rfl (by rw [hml]; rfl) (argsL := [(.double q1)]) (rest := [(.double (hi0 &&& 0x7fffffffffffffff))]) (lenOf pd_0 rfl) rfl (by show 2 * 0 + _ ≤ _; exact Nat.le_of_eq rfl) (hb hby d_prog_8_2_32) (by decide) (by decide) ⟨rfl, nq1⟩ rfl
      have k171 : ∀ t_, Steps p.tables e below (T170.setTop (mkF m 36 #[.val (.ref a1), .val (.double dx), .second, .val (.double hi0), .second, .val (.int (1 : Int32)), .val (.int (1 : Int32)), .val (.double q1), .second, .val (.double hi0), .second, .val (.double lo0), .second] [(.int (cmpValue (FP.dcmp (hi0 &&& 0x7fffffffffffffff) (q1 &&& 0x7fffffffffffffff)) .g))])) t_ → Steps p.tables e below A t_ := by
        intro t_ ht_
        refine k101 t_ ?_
        refine own_f_ifNo X98.here hx (hb hby d_prog_8_2_68) ((if0 _ _).trans (feq (hz0)).1) (rfl : _ = 71) ?_
        refine own_f_aloadN X98.here hx (hb hby d_prog_8_2_71) rfl rfl (rfl : _ = 72) ?_
        refine st163 _ ?_
        show Steps p.tables e below (T163.setTop (mkF m 75 #[.val (.ref a1), .val (.double dx), .second, .val (.double (own_fst dx q0)), .second, .val (.int (0 : Int32)), .val (.int (0 : Int32)), .val (.double (own_snd dx q0)), .second, .val (.double hi0), .second, .val (.double lo0), .second] [(.ref ar)])) t_
        refine own_f_iload X163.here hx (hb hby d_prog_8_2_75) rfl (rfl : _ = 77) ?_
        refine own_f_iinc X163.here hx (hb hby d_prog_8_2_77) rfl (rfl : storeLocals _ _ _ = some #[.val (.ref a1), .val (.double dx), .second, .val (.double (own_fst dx q0)), .second, .val (.int (1 : Int32)), .val (.int (0 : Int32)), .val (.double (own_snd dx q0)), .second, .val (.double hi0), .second, .val (.double lo0), .second]) (rfl : _ = 80) ?_
        refine own_f_dload X163.here hx (hb hby d_prog_8_2_80) rfl (rfl : _ = 82) ?_
        refine st165 _ ?_
        show Steps p.tables e below (T165.setTop (mkF m 83 #[.val (.ref a1), .val (.double dx), .second, .val (.double (own_fst dx q0)), .second, .val (.int (1 : Int32)), .val (.int (0 : Int32)), .val (.double (own_snd dx q0)), .second, .val (.double hi0), .second, .val (.double lo0), .second] [])) t_
        refine own_f_dload X165.here hx (hb hby d_prog_8_2_83) rfl (rfl : _ = 85) ?_
        refine own_f_dstoreN X165.here hx (hb hby d_prog_8_2_85) (rfl : storeLocals _ _ _ = some #[.val (.ref a1), .val (.double dx), .second, .val (.double hi0), .second, .val (.int (1 : Int32)), .val (.int (0 : Int32)), .val (.double (own_snd dx q0)), .second, .val (.double hi0), .second, .val (.double lo0), .second]) (rfl : _ = 86) ?_
        refine own_f_iinc X165.here hx (hb hby d_prog_8_2_86) rfl (rfl : storeLocals _ _ _ = some #[.val (.ref a1), .val (.double dx), .second, .val (.double hi0), .second, .val (.int (1 : Int32)), .val (.int (1 : Int32)), .val (.double (own_snd dx q0)), .second, .val (.double hi0), .second, .val (.double lo0), .second]) (rfl : _ = 89) ?_
        refine own_f_goto X165.here hx (hb hby d_prog_8_2_89) (by decide) (by decide : _ = 8) ?_
        refine own_f_iload X165.here hx (hb hby d_prog_8_2_8) rfl (rfl : _ = 10) ?_
        refine own_f_aloadN X165.here hx (hb hby d_prog_8_2_10) rfl rfl (rfl : _ = 11) ?_
        refine st166 _ ?_
        show Steps p.tables e below (T166.setTop (mkF m 14 #[.val (.ref a1), .val (.double dx), .second, .val (.double hi0), .second, .val (.int (1 : Int32)), .val (.int (1 : Int32)), .val (.double (own_snd dx q0)), .second, .val (.double hi0), .second, .val (.double lo0), .second] [(.int (3 : Int32)), (.int (1 : Int32))])) t_
        refine own_f_icmpNo X166.here hx (hb hby d_prog_8_2_14) (tlt (by decide)).2.1 (rfl : _ = 17) ?_
        refine own_f_aloadN X166.here hx (hb hby d_prog_8_2_17) rfl rfl (rfl : _ = 18) ?_
        refine st167 _ ?_
        show Steps p.tables e below (T167.setTop (mkF m 21 #[.val (.ref a1), .val (.double dx), .second, .val (.double hi0), .second, .val (.int (1 : Int32)), .val (.int (1 : Int32)), .val (.double (own_snd dx q0)), .second, .val (.double hi0), .second, .val (.double lo0), .second] [(.ref ar)])) t_
        refine own_f_iload X167.here hx (hb hby d_prog_8_2_21) rfl (rfl : _ = 23) ?_
        refine X167.daload hx (j := (1 : Int32)) (v := (.double q1)) (by rw [e167]; exact Ar168.1) (State.isArrayOf_alike hZ.alike Ar168.2.1) Ar168.2.2 hin168 hat168 (g := (mkF m 23 #[.val (.ref a1), .val (.double dx), .second, .val (.double hi0), .second, .val (.int (1 : Int32)), .val (.int (1 : Int32)), .val (.double (own_snd dx q0)), .second, .val (.double hi0), .second, .val (.double lo0), .second] [(.int (1 : Int32)), (.ref ar)])) rfl rfl (hb hby d_prog_8_2_23) _ ?_
        show Steps p.tables e below (T167.setTop (mkF m 24 #[.val (.ref a1), .val (.double dx), .second, .val (.double hi0), .second, .val (.int (1 : Int32)), .val (.int (1 : Int32)), .val (.double (own_snd dx q0)), .second, .val (.double hi0), .second, .val (.double lo0), .second] [(.double q1)])) t_
        refine own_f_dstore X167.here hx (hb hby d_prog_8_2_24) (rfl : storeLocals _ _ _ = some #[.val (.ref a1), .val (.double dx), .second, .val (.double hi0), .second, .val (.int (1 : Int32)), .val (.int (1 : Int32)), .val (.double q1), .second, .val (.double hi0), .second, .val (.double lo0), .second]) (rfl : _ = 26) ?_
        refine own_f_dloadN X167.here hx (hb hby d_prog_8_2_26) rfl (rfl : _ = 27) ?_
        refine st169 _ ?_
        show Steps p.tables e below (T169.setTop (mkF m 30 #[.val (.ref a1), .val (.double dx), .second, .val (.double hi0), .second, .val (.int (1 : Int32)), .val (.int (1 : Int32)), .val (.double q1), .second, .val (.double hi0), .second, .val (.double lo0), .second] [(.double (hi0 &&& 0x7fffffffffffffff))])) t_
        refine own_f_dload X169.here hx (hb hby d_prog_8_2_30) rfl (rfl : _ = 32) ?_
        refine st170 _ ?_
        show Steps p.tables e below (T170.setTop (mkF m 35 #[.val (.ref a1), .val (.double dx), .second, .val (.double hi0), .second, .val (.int (1 : Int32)), .val (.int (1 : Int32)), .val (.double q1), .second, .val (.double hi0), .second, .val (.double lo0), .second] [(.double (q1 &&& 0x7fffffffffffffff)), (.double (hi0 &&& 0x7fffffffffffffff))])) t_
        refine own_f_dcmp X170.here hx (hb hby d_prog_8_2_35) rfl (rfl : _ = 36) ?_
        exact ht_
      have k172 : ∀ t_, Steps p.tables e below (T170.setTop (mkF m 64 #[.val (.ref a1), .val (.double dx), .second, .val (.double (own_fst hi0 q1)), .second, .val (.int (1 : Int32)), .val (.int (1 : Int32)), .val (.double (own_snd hi0 q1)), .second, .val (.double (FP.dadd (own_fst hi0 q1) (own_snd hi0 q1))), .second, .val (.double (own_lo (own_fst hi0 q1) (own_snd hi0 q1))), .second] [])) t_ → Steps p.tables e below A t_ := by
        intro t_ ht_
        refine k171 t_ ?_
        by_cases hsw : own_lt hi0 q1
        · have e1 : own_fst hi0 q1 = q1 := if_pos hsw
          have e2 : own_snd hi0 q1 = hi0 := if_pos hsw
          rw [e1, e2] at ht_ na1 nb1 nc1
          have hs_ : (cmpValue (FP.dcmp (hi0 &&& 0x7fffffffffffffff) (q1 &&& 0x7fffffffffffffff)) .g) < (0 : Int32) := hsw
          refine own_f_ifNo X170.here hx (hb hby d_prog_8_2_36) ((if0 _ _).trans (tlt (hs_)).2.1) (rfl : _ = 39) ?_
          refine own_f_dload X170.here hx (hb hby d_prog_8_2_39) rfl (rfl : _ = 41) ?_
          refine own_f_dstore X170.here hx (hb hby d_prog_8_2_41) (rfl : storeLocals _ _ _ = some #[.val (.ref a1), .val (.double dx), .second, .val (.double hi0), .second, .val (.int (1 : Int32)), .val (.int (1 : Int32)), .val (.double q1), .second, .val (.double q1), .second, .val (.double lo0), .second]) (rfl : _ = 43) ?_
          refine own_f_dloadN X170.here hx (hb hby d_prog_8_2_43) rfl (rfl : _ = 44) ?_
          refine own_f_dstore X170.here hx (hb hby d_prog_8_2_44) (rfl : storeLocals _ _ _ = some #[.val (.ref a1), .val (.double dx), .second, .val (.double hi0), .second, .val (.int (1 : Int32)), .val (.int (1 : Int32)), .val (.double hi0), .second, .val (.double q1), .second, .val (.double lo0), .second]) (rfl : _ = 46) ?_
          refine own_f_dload X170.here hx (hb hby d_prog_8_2_46) rfl (rfl : _ = 48) ?_
          refine own_f_dstoreN X170.here hx (hb hby d_prog_8_2_48) (rfl : storeLocals _ _ _ = some #[.val (.ref a1), .val (.double dx), .second, .val (.double q1), .second, .val (.int (1 : Int32)), .val (.int (1 : Int32)), .val (.double hi0), .second, .val (.double q1), .second, .val (.double lo0), .second]) (rfl : _ = 49) ?_
          refine own_f_dloadN X170.here hx (hb hby d_prog_8_2_49) rfl (rfl : _ = 50) ?_
          refine own_f_dload X170.here hx (hb hby d_prog_8_2_50) rfl (rfl : _ = 52) ?_
          refine own_f_dadd X170.here hx (hb hby d_prog_8_2_52) (na1) rfl (rfl : _ = 53) ?_
          refine own_f_dstore X170.here hx (hb hby d_prog_8_2_53) (rfl : storeLocals _ _ _ = some #[.val (.ref a1), .val (.double dx), .second, .val (.double q1), .second, .val (.int (1 : Int32)), .val (.int (1 : Int32)), .val (.double hi0), .second, .val (.double (FP.dadd q1 hi0)), .second, .val (.double lo0), .second]) (rfl : _ = 55) ?_
          refine own_f_dload X170.here hx (hb hby d_prog_8_2_55) rfl (rfl : _ = 57) ?_
          refine own_f_dload X170.here hx (hb hby d_prog_8_2_57) rfl (rfl : _ = 59) ?_
          refine own_f_dloadN X170.here hx (hb hby d_prog_8_2_59) rfl (rfl : _ = 60) ?_
          refine own_f_dsub X170.here hx (hb hby d_prog_8_2_60) (nb1) rfl (rfl : _ = 61) ?_
          refine own_f_dsub X170.here hx (hb hby d_prog_8_2_61) (nc1) rfl (rfl : _ = 62) ?_
          refine own_f_dstore X170.here hx (hb hby d_prog_8_2_62) (rfl : storeLocals _ _ _ = some #[.val (.ref a1), .val (.double dx), .second, .val (.double q1), .second, .val (.int (1 : Int32)), .val (.int (1 : Int32)), .val (.double hi0), .second, .val (.double (FP.dadd q1 hi0)), .second, .val (.double (FP.dsub hi0 (FP.dsub (FP.dadd q1 hi0) q1))), .second]) (rfl : _ = 64) ?_
          exact ht_
        · have e1 : own_fst hi0 q1 = hi0 := if_neg hsw
          have e2 : own_snd hi0 q1 = q1 := if_neg hsw
          rw [e1, e2] at ht_ na1 nb1 nc1
          have hs_ : ¬ ((cmpValue (FP.dcmp (hi0 &&& 0x7fffffffffffffff) (q1 &&& 0x7fffffffffffffff)) .g) < (0 : Int32)) := hsw
          refine own_f_ifYes X170.here hx (hb hby d_prog_8_2_36) ((if0 _ _).trans (flt (hs_)).2.1) (by decide) (by decide : _ = 49) ?_
          refine own_f_dloadN X170.here hx (hb hby d_prog_8_2_49) rfl (rfl : _ = 50) ?_
          refine own_f_dload X170.here hx (hb hby d_prog_8_2_50) rfl (rfl : _ = 52) ?_
          refine own_f_dadd X170.here hx (hb hby d_prog_8_2_52) (na1) rfl (rfl : _ = 53) ?_
          refine own_f_dstore X170.here hx (hb hby d_prog_8_2_53) (rfl : storeLocals _ _ _ = some #[.val (.ref a1), .val (.double dx), .second, .val (.double hi0), .second, .val (.int (1 : Int32)), .val (.int (1 : Int32)), .val (.double q1), .second, .val (.double (FP.dadd hi0 q1)), .second, .val (.double lo0), .second]) (rfl : _ = 55) ?_
          refine own_f_dload X170.here hx (hb hby d_prog_8_2_55) rfl (rfl : _ = 57) ?_
          refine own_f_dload X170.here hx (hb hby d_prog_8_2_57) rfl (rfl : _ = 59) ?_
          refine own_f_dloadN X170.here hx (hb hby d_prog_8_2_59) rfl (rfl : _ = 60) ?_
          refine own_f_dsub X170.here hx (hb hby d_prog_8_2_60) (nb1) rfl (rfl : _ = 61) ?_
          refine own_f_dsub X170.here hx (hb hby d_prog_8_2_61) (nc1) rfl (rfl : _ = 62) ?_
          refine own_f_dstore X170.here hx (hb hby d_prog_8_2_62) (rfl : storeLocals _ _ _ = some #[.val (.ref a1), .val (.double dx), .second, .val (.double hi0), .second, .val (.int (1 : Int32)), .val (.int (1 : Int32)), .val (.double q1), .second, .val (.double (FP.dadd hi0 q1)), .second, .val (.double (FP.dsub q1 (FP.dsub (FP.dadd hi0 q1) hi0))), .second]) (rfl : _ = 64) ?_
          exact ht_
      obtain ⟨hi1, hhi1⟩ : ∃ z : UInt64, z = (FP.dadd (own_fst hi0 q1) (own_snd hi0 q1)) := ⟨_, rfl⟩
      rw [← hhi1] at k172
      obtain ⟨lo1, hlo1⟩ : ∃ z : UInt64, z = (own_lo (own_fst hi0 q1) (own_snd hi0 q1)) := ⟨_, rfl⟩
      rw [← hlo1] at k172
      replace hnn := own_nn' hhi1 hnn
      have k173 : ∀ t_, Steps p.tables e below (T170.setTop (mkF m 68 #[.val (.ref a1), .val (.double dx), .second, .val (.double (own_fst hi0 q1)), .second, .val (.int (1 : Int32)), .val (.int (1 : Int32)), .val (.double (own_snd hi0 q1)), .second, .val (.double hi1), .second, .val (.double lo1), .second] [(.int (cmpValue (FP.dcmp lo1 (0 : UInt64)) .l))])) t_ → Steps p.tables e below A t_ := by
        intro t_ ht_
        refine k172 t_ ?_
        refine own_f_dload X170.here hx (hb hby d_prog_8_2_64) rfl (rfl : _ = 66) ?_
        refine own_f_dconst0 X170.here hx (hb hby d_prog_8_2_66) (rfl : _ = (0 : UInt64)) (rfl : _ = 67) ?_
        refine own_f_dcmp X170.here hx (hb hby d_prog_8_2_67) rfl (rfl : _ = 68) ?_
        exact ht_
      by_cases hz1 : (cmpValue (FP.dcmp lo1 (0 : UInt64)) .l) = (0 : Int32)
      · obtain ⟨T174, X174, e174, st174⟩ := getF X170 hx hZ hown (host := "") (Or.inl (hw _ (List.mem_of_getElem? (i := 17) rfl))) Via.refl e170 Fs (g := (mkF m 11 #[.val (.ref a1), .val (.double dx), .second, .val (.double hi1), .second, .val (.int (1 : Int32)), .val (.int (2 : Int32)), .val (.double (own_snd hi0 q1)), .second, .val (.double hi1), .second, .val (.double lo1), .second] [(.ref a1), (.int (2 : Int32))])) rfl rfl (hb hby d_prog_8_2_11)
        obtain ⟨T175, X175, e175, st175⟩ := getF X174 hx hZ hown (host := "") (Or.inl (hw _ (List.mem_of_getElem? (i := 10) rfl))) Via.refl e174 Fp (g := (mkF m 18 #[.val (.ref a1), .val (.double dx), .second, .val (.double hi1), .second, .val (.int (1 : Int32)), .val (.int (2 : Int32)), .val (.double (own_snd hi0 q1)), .second, .val (.double hi1), .second, .val (.double lo1), .second] [(.ref a1)])) rfl rfl (hb hby d_prog_8_2_18)
        obtain ⟨cl176, Ar176, -, Sz176, Ng176, Hs176, -⟩ := id Va
        have hin176 : ¬ ((2 : Int32) < 0 ∨ cl176.slots.size ≤ ((2 : Int32)).toNatClampNeg) := inb_of Sz176 ⟨by decide, by decide⟩
        have hat176 : cl176.slots[((2 : Int32)).toNatClampNeg]? = some (.double q2) := Hs176 _ (Nat.lt_of_not_le fun q => hin176 (Or.inr q))
        obtain ⟨⟨nx2, nq2⟩, na2, nb2, nc2, -⟩ := own_nn hnn
        obtain ⟨T177, X177, e177, st177⟩ := natS X175 hx hZ hown (hw _ (List.mem_of_getElem? (i := 19) rfl)) (hw _ (List.mem_of_getElem? (i := 20) rfl)) (hw _ (List.mem_of_getElem? (i := 21) rfl)) (hw _ (List.mem_of_getElem? (i := 22) rfl)) (by decide) e175 (W := 0) (val' := (.double (hi1 &&& 0x7fffffffffffffff))) (fun c => Jvm.Free.Fl.Abs.absD_pays hi1 c (by decide) (by decide)) (g := (mkF m 27 #[.val (.ref a1), .val (.double dx), .second, .val (.double hi1), .second, .val (.int (1 : Int32)), .val (.int (2 : Int32)), .val (.double q2), .second, .val (.double hi1), .second, .val (.double lo1), .second] [(.double hi1)])) rfl (by rw [hml]; rfl) (argsL := [(.double hi1)]) (rest := []) (lenOf pd_0 rfl) rfl (by show 2 * 0 + _ ≤ _; exact Nat.le_of_eq rfl) (hb hby d_prog_8_2_27) (by decide) (by decide) ⟨rfl, nx2⟩ rfl
        obtain ⟨T178, X178, e178, st178⟩ := natS X177 hx hZ hown (hw _ (List.mem_of_getElem? (i := 19) rfl)) (hw _ (List.mem_of_getElem? (i := 20) rfl)) (hw _ (List.mem_of_getElem? (i := 21) rfl)) (hw _ (List.mem_of_getElem? (i := 22) rfl)) (by decide) e177 (W := 2) (val' := (.double (q2 &&& 0x7fffffffffffffff))) (fun c => Jvm.Free.Fl.Abs.absD_pays q2 c (by decide) (by decide)) (g := (mkF m 32 #[.val (.ref a1), .val (.double dx), .second, .val (.double hi1), .second, .val (.int (1 : Int32)), .val (.int (2 : Int32)), .val (.double q2), .second, .val (.double hi1), .second, .val (.double lo1), .second] [(.double q2), (.double (hi1 &&& 0x7fffffffffffffff))])) rfl (by rw [hml]; rfl) (argsL := [(.double q2)]) (rest := [(.double (hi1 &&& 0x7fffffffffffffff))]) (lenOf pd_0 rfl) rfl (by show 2 * 0 + _ ≤ _; exact Nat.le_of_eq rfl) (hb hby d_prog_8_2_32) (by decide) (by decide) ⟨rfl, nq2⟩ rfl
        have k179 : ∀ t_, Steps p.tables e below (T178.setTop (mkF m 36 #[.val (.ref a1), .val (.double dx), .second, .val (.double hi1), .second, .val (.int (1 : Int32)), .val (.int (2 : Int32)), .val (.double q2), .second, .val (.double hi1), .second, .val (.double lo1), .second] [(.int (cmpValue (FP.dcmp (hi1 &&& 0x7fffffffffffffff) (q2 &&& 0x7fffffffffffffff)) .g))])) t_ → Steps p.tables e below A t_ := by
          intro t_ ht_
          refine k173 t_ ?_
          refine own_f_ifYes X170.here hx (hb hby d_prog_8_2_68) ((if0 _ _).trans (teq (hz1)).1) (by decide) (by decide : _ = 83) ?_
          refine own_f_dload X170.here hx (hb hby d_prog_8_2_83) rfl (rfl : _ = 85) ?_
          refine own_f_dstoreN X170.here hx (hb hby d_prog_8_2_85) (rfl : storeLocals _ _ _ = some #[.val (.ref a1), .val (.double dx), .second, .val (.double hi1), .second, .val (.int (1 : Int32)), .val (.int (1 : Int32)), .val (.double (own_snd hi0 q1)), .second, .val (.double hi1), .second, .val (.double lo1), .second]) (rfl : _ = 86) ?_
          refine own_f_iinc X170.here hx (hb hby d_prog_8_2_86) rfl (rfl : storeLocals _ _ _ = some #[.val (.ref a1), .val (.double dx), .second, .val (.double hi1), .second, .val (.int (1 : Int32)), .val (.int (2 : Int32)), .val (.double (own_snd hi0 q1)), .second, .val (.double hi1), .second, .val (.double lo1), .second]) (rfl : _ = 89) ?_
          refine own_f_goto X170.here hx (hb hby d_prog_8_2_89) (by decide) (by decide : _ = 8) ?_
          refine own_f_iload X170.here hx (hb hby d_prog_8_2_8) rfl (rfl : _ = 10) ?_
          refine own_f_aloadN X170.here hx (hb hby d_prog_8_2_10) rfl rfl (rfl : _ = 11) ?_
          refine st174 _ ?_
          show Steps p.tables e below (T174.setTop (mkF m 14 #[.val (.ref a1), .val (.double dx), .second, .val (.double hi1), .second, .val (.int (1 : Int32)), .val (.int (2 : Int32)), .val (.double (own_snd hi0 q1)), .second, .val (.double hi1), .second, .val (.double lo1), .second] [(.int (3 : Int32)), (.int (2 : Int32))])) t_
          refine own_f_icmpNo X174.here hx (hb hby d_prog_8_2_14) (tlt (by decide)).2.1 (rfl : _ = 17) ?_
          refine own_f_aloadN X174.here hx (hb hby d_prog_8_2_17) rfl rfl (rfl : _ = 18) ?_
          refine st175 _ ?_
          show Steps p.tables e below (T175.setTop (mkF m 21 #[.val (.ref a1), .val (.double dx), .second, .val (.double hi1), .second, .val (.int (1 : Int32)), .val (.int (2 : Int32)), .val (.double (own_snd hi0 q1)), .second, .val (.double hi1), .second, .val (.double lo1), .second] [(.ref ar)])) t_
          refine own_f_iload X175.here hx (hb hby d_prog_8_2_21) rfl (rfl : _ = 23) ?_
          refine X175.daload hx (j := (2 : Int32)) (v := (.double q2)) (by rw [e175]; exact Ar176.1) (State.isArrayOf_alike hZ.alike Ar176.2.1) Ar176.2.2 hin176 hat176 (g := (mkF m 23 #[.val (.ref a1), .val (.double dx), .second, .val (.double hi1), .second, .val (.int (1 : Int32)), .val (.int (2 : Int32)), .val (.double (own_snd hi0 q1)), .second, .val (.double hi1), .second, .val (.double lo1), .second] [(.int (2 : Int32)), (.ref ar)])) rfl rfl (hb hby d_prog_8_2_23) _ ?_
          show Steps p.tables e below (T175.setTop (mkF m 24 #[.val (.ref a1), .val (.double dx), .second, .val (.double hi1), .second, .val (.int (1 : Int32)), .val (.int (2 : Int32)), .val (.double (own_snd hi0 q1)), .second, .val (.double hi1), .second, .val (.double lo1), .second] [(.double q2)])) t_
          refine own_f_dstore X175.here hx (hb hby d_prog_8_2_24) (rfl : storeLocals _ _ _ = some #[.val (.ref a1), .val (.double dx), .second, .val (.double hi1), .second, .val (.int (1 : Int32)), .val (.int (2 : Int32)), .val (.double q2), .second, .val (.double hi1), .second, .val (.double lo1), .second]) (rfl : _ = 26) ?_
          refine own_f_dloadN X175.here hx (hb hby d_prog_8_2_26) rfl (rfl : _ = 27) ?_
          refine st177 _ ?_
          show Steps p.tables e below (T177.setTop (mkF m 30 #[.val (.ref a1), .val (.double dx), .second, .val (.double hi1), .second, .val (.int (1 : Int32)), .val (.int (2 : Int32)), .val (.double q2), .second, .val (.double hi1), .second, .val (.double lo1), .second] [(.double (hi1 &&& 0x7fffffffffffffff))])) t_
          refine own_f_dload X177.here hx (hb hby d_prog_8_2_30) rfl (rfl : _ = 32) ?_
          refine st178 _ ?_
          show Steps p.tables e below (T178.setTop (mkF m 35 #[.val (.ref a1), .val (.double dx), .second, .val (.double hi1), .second, .val (.int (1 : Int32)), .val (.int (2 : Int32)), .val (.double q2), .second, .val (.double hi1), .second, .val (.double lo1), .second] [(.double (q2 &&& 0x7fffffffffffffff)), (.double (hi1 &&& 0x7fffffffffffffff))])) t_
          refine own_f_dcmp X178.here hx (hb hby d_prog_8_2_35) rfl (rfl : _ = 36) ?_
          exact ht_
        have k180 : ∀ t_, Steps p.tables e below (T178.setTop (mkF m 64 #[.val (.ref a1), .val (.double dx), .second, .val (.double (own_fst hi1 q2)), .second, .val (.int (1 : Int32)), .val (.int (2 : Int32)), .val (.double (own_snd hi1 q2)), .second, .val (.double (FP.dadd (own_fst hi1 q2) (own_snd hi1 q2))), .second, .val (.double (own_lo (own_fst hi1 q2) (own_snd hi1 q2))), .second] [])) t_ → Steps p.tables e below A t_ := by
          intro t_ ht_
          refine k179 t_ ?_
          by_cases hsw : own_lt hi1 q2
          · have e1 : own_fst hi1 q2 = q2 := if_pos hsw
            have e2 : own_snd hi1 q2 = hi1 := if_pos hsw
            rw [e1, e2] at ht_ na2 nb2 nc2
            have hs_ : (cmpValue (FP.dcmp (hi1 &&& 0x7fffffffffffffff) (q2 &&& 0x7fffffffffffffff)) .g) < (0 : Int32) := hsw
            refine own_f_ifNo X178.here hx (hb hby d_prog_8_2_36) ((if0 _ _).trans (tlt (hs_)).2.1) (rfl : _ = 39) ?_
            refine own_f_dload X178.here hx (hb hby d_prog_8_2_39) rfl (rfl : _ = 41) ?_
            refine own_f_dstore X178.here hx (hb hby d_prog_8_2_41) (rfl : storeLocals _ _ _ = some #[.val (.ref a1), .val (.double dx), .second, .val (.double hi1), .second, .val (.int (1 : Int32)), .val (.int (2 : Int32)), .val (.double q2), .second, .val (.double q2), .second, .val (.double lo1), .second]) (rfl : _ = 43) ?_
            refine own_f_dloadN X178.here hx (hb hby d_prog_8_2_43) rfl (rfl : _ = 44) ?_
            refine own_f_dstore X178.here hx (hb hby d_prog_8_2_44) (rfl : storeLocals _ _ _ = some #[.val (.ref a1), .val (.double dx), .second, .val (.double hi1), .second, .val (.int (1 : Int32)), .val (.int (2 : Int32)), .val (.double hi1), .second, .val (.double q2), .second, .val (.double lo1), .second]) (rfl : _ = 46) ?_
            refine own_f_dload X178.here hx (hb hby d_prog_8_2_46) rfl (rfl : _ = 48) ?_
            refine own_f_dstoreN X178.here hx (hb hby d_prog_8_2_48) (rfl : storeLocals _ _ _ = some #[.val (.ref a1), .val (.double dx), .second, .val (.double q2), .second, .val (.int (1 : Int32)), .val (.int (2 : Int32)), .val (.double hi1), .second, .val (.double q2), .second, .val (.double lo1), .second]) (rfl : _ = 49) ?_
            refine own_f_dloadN X178.here hx (hb hby d_prog_8_2_49) rfl (rfl : _ = 50) ?_
            refine own_f_dload X178.here hx (hb hby d_prog_8_2_50) rfl (rfl : _ = 52) ?_
            refine own_f_dadd X178.here hx (hb hby d_prog_8_2_52) (na2) rfl (rfl : _ = 53) ?_
            refine own_f_dstore X178.here hx (hb hby d_prog_8_2_53) (rfl : storeLocals _ _ _ = some #[.val (.ref a1), .val (.double dx), .second, .val (.double q2), .second, .val (.int (1 : Int32)), .val (.int (2 : Int32)), .val (.double hi1), .second, .val (.double (FP.dadd q2 hi1)), .second, .val (.double lo1), .second]) (rfl : _ = 55) ?_
            refine own_f_dload X178.here hx (hb hby d_prog_8_2_55) rfl (rfl : _ = 57) ?_
            refine own_f_dload X178.here hx (hb hby d_prog_8_2_57) rfl (rfl : _ = 59) ?_
            refine own_f_dloadN X178.here hx (hb hby d_prog_8_2_59) rfl (rfl : _ = 60) ?_
            refine own_f_dsub X178.here hx (hb hby d_prog_8_2_60) (nb2) rfl (rfl : _ = 61) ?_
            refine own_f_dsub X178.here hx (hb hby d_prog_8_2_61) (nc2) rfl (rfl : _ = 62) ?_
            refine own_f_dstore X178.here hx (hb hby d_prog_8_2_62) (rfl : storeLocals _ _ _ = some #[.val (.ref a1), .val (.double dx), .second, .val (.double q2), .second, .val (.int (1 : Int32)), .val (.int (2 : Int32)), .val (.double hi1), .second, .val (.double (FP.dadd q2 hi1)), .second, .val (.double (FP.dsub hi1 (FP.dsub (FP.dadd q2 hi1) q2))), .second]) (rfl : _ = 64) ?_
            exact ht_
          · have e1 : own_fst hi1 q2 = hi1 := if_neg hsw
            have e2 : own_snd hi1 q2 = q2 := if_neg hsw
            rw [e1, e2] at ht_ na2 nb2 nc2
            have hs_ : ¬ ((cmpValue (FP.dcmp (hi1 &&& 0x7fffffffffffffff) (q2 &&& 0x7fffffffffffffff)) .g) < (0 : Int32)) := hsw
            refine own_f_ifYes X178.here hx (hb hby d_prog_8_2_36) ((if0 _ _).trans (flt (hs_)).2.1) (by decide) (by decide : _ = 49) ?_
            refine own_f_dloadN X178.here hx (hb hby d_prog_8_2_49) rfl (rfl : _ = 50) ?_
            refine own_f_dload X178.here hx (hb hby d_prog_8_2_50) rfl (rfl : _ = 52) ?_
            refine own_f_dadd X178.here hx (hb hby d_prog_8_2_52) (na2) rfl (rfl : _ = 53) ?_
            refine own_f_dstore X178.here hx (hb hby d_prog_8_2_53) (rfl : storeLocals _ _ _ = some #[.val (.ref a1), .val (.double dx), .second, .val (.double hi1), .second, .val (.int (1 : Int32)), .val (.int (2 : Int32)), .val (.double q2), .second, .val (.double (FP.dadd hi1 q2)), .second, .val (.double lo1), .second]) (rfl : _ = 55) ?_
            refine own_f_dload X178.here hx (hb hby d_prog_8_2_55) rfl (rfl : _ = 57) ?_
            refine own_f_dload X178.here hx (hb hby d_prog_8_2_57) rfl (rfl : _ = 59) ?_
            refine own_f_dloadN X178.here hx (hb hby d_prog_8_2_59) rfl (rfl : _ = 60) ?_
            refine own_f_dsub X178.here hx (hb hby d_prog_8_2_60) (nb2) rfl (rfl : _ = 61) ?_
            refine own_f_dsub X178.here hx (hb hby d_prog_8_2_61) (nc2) rfl (rfl : _ = 62) ?_
            refine own_f_dstore X178.here hx (hb hby d_prog_8_2_62) (rfl : storeLocals _ _ _ = some #[.val (.ref a1), .val (.double dx), .second, .val (.double hi1), .second, .val (.int (1 : Int32)), .val (.int (2 : Int32)), .val (.double q2), .second, .val (.double (FP.dadd hi1 q2)), .second, .val (.double (FP.dsub q2 (FP.dsub (FP.dadd hi1 q2) hi1))), .second]) (rfl : _ = 64) ?_
            exact ht_
        obtain ⟨hi2, hhi2⟩ : ∃ z : UInt64, z = (FP.dadd (own_fst hi1 q2) (own_snd hi1 q2)) := ⟨_, rfl⟩
        rw [← hhi2] at k180
        obtain ⟨lo2, hlo2⟩ : ∃ z : UInt64, z = (own_lo (own_fst hi1 q2) (own_snd hi1 q2)) := ⟨_, rfl⟩
        rw [← hlo2] at k180
        replace hnn := own_nn' hhi2 hnn
        have k181 : ∀ t_, Steps p.tables e below (T178.setTop (mkF m 68 #[.val (.ref a1), .val (.double dx), .second, .val (.double (own_fst hi1 q2)), .second, .val (.int (1 : Int32)), .val (.int (2 : Int32)), .val (.double (own_snd hi1 q2)), .second, .val (.double hi2), .second, .val (.double lo2), .second] [(.int (cmpValue (FP.dcmp lo2 (0 : UInt64)) .l))])) t_ → Steps p.tables e below A t_ := by
          intro t_ ht_
          refine k180 t_ ?_
          refine own_f_dload X178.here hx (hb hby d_prog_8_2_64) rfl (rfl : _ = 66) ?_
          refine own_f_dconst0 X178.here hx (hb hby d_prog_8_2_66) (rfl : _ = (0 : UInt64)) (rfl : _ = 67) ?_
          refine own_f_dcmp X178.here hx (hb hby d_prog_8_2_67) rfl (rfl : _ = 68) ?_
          exact ht_
        by_cases hz2 : (cmpValue (FP.dcmp lo2 (0 : UInt64)) .l) = (0 : Int32)
        · obtain ⟨T182, X182, e182, st182⟩ := getF X178 hx hZ hown (host := "") (Or.inl (hw _ (List.mem_of_getElem? (i := 17) rfl))) Via.refl e178 Fs (g := (mkF m 11 #[.val (.ref a1), .val (.double dx), .second, .val (.double hi2), .second, .val (.int (1 : Int32)), .val (.int (3 : Int32)), .val (.double (own_snd hi1 q2)), .second, .val (.double hi2), .second, .val (.double lo2), .second] [(.ref a1), (.int (3 : Int32))])) rfl rfl (hb hby d_prog_8_2_11)
          obtain ⟨T183, X183, e183, st183⟩ := getF X182 hx hZ hown (host := "") (Or.inl (hw _ (List.mem_of_getElem? (i := 10) rfl))) Via.refl e182 Fp (g := (mkF m 95 #[.val (.ref a1), .val (.double dx), .second, .val (.double hi2), .second, .val (.int (1 : Int32)), .val (.int (3 : Int32)), .val (.double (own_snd hi1 q2)), .second, .val (.double hi2), .second, .val (.double lo2), .second] [(.ref a1), (.int (1 : Int32))])) rfl rfl (hb hby d_prog_8_2_95)
          obtain ⟨cl184, Ar184, -, Sz184, Ng184, -, -⟩ := id Va
          obtain ⟨T185, X185, e185, st185⟩ := getF X183 hx hZ hown (host := "") (Or.inl (hw _ (List.mem_of_getElem? (i := 10) rfl))) Via.refl e183 Fp (g := (mkF m 118 #[.val (.ref a1), .val (.double dx), .second, .val (.double hi2), .second, .val (.int (1 : Int32)), .val (.int (3 : Int32)), .val (.double (own_snd hi1 q2)), .second, .val (.double hi2), .second, .val (.double lo2), .second] [(.ref a1)])) rfl rfl (hb hby d_prog_8_2_118)
          obtain ⟨cl186, Ar186, q186, Sz186, Ng186, Hs186, Gs186⟩ := Va
          have hin186 : ¬ ((1 : Int32) < 0 ∨ cl186.slots.size ≤ ((1 : Int32)).toNatClampNeg) := inb_of Sz186 ⟨by decide, by decide⟩
          obtain ⟨T187, h187, X187, e187, W187, st187⟩ := stD X185 hx hZ e185 Ar186 (j := (1 : Int32)) hin186 (g := (mkF m 127 #[.val (.ref a1), .val (.double dx), .second, .val (.double hi2), .second, .val (.int (2 : Int32)), .val (.int (3 : Int32)), .val (.double (own_snd hi1 q2)), .second, .val (.double hi2), .second, .val (.double lo2), .second] [(.double hi2), (.int (1 : Int32)), (.ref ar)])) rfl rfl (hb hby d_prog_8_2_127)
          replace Ea := Ea.wr W187
          replace Fp := Fp.other W187 (Or.inl hne)
          replace Fs := Fs.other W187 (Or.inl hne)
          have Zs187 := Nat.le_trans Zs165 (Keep.of_wr W187).1
          replace KK := KK.wr W187 (Or.inl (by simp))
          have Va : Arv Z h187 ar kc .double (4 : Int32) [(.double lo0), (.double hi2), (.double q2), (.double q3)] (.double (0 : UInt64)) := Arv.set Ar186 q186 Sz186 Ng186 Hs186 Gs186 rfl W187 1 rfl (Nat.le_of_ble_eq_true rfl)
          have N187 := Fr.snoc X187 N165 g_ar
          obtain ⟨T188, h188, X188, e188, W188, st188⟩ := putF X187 hx hZ hown (host := "") (Or.inl (hw _ (List.mem_of_getElem? (i := 17) rfl))) Via.refl e187 Fs Ea (Or.inl (hw _ (List.mem_of_getElem? (i := 18) rfl))) (hw _ (List.mem_of_getElem? (i := 1) rfl)) (ty := .int) (by decide) rfl rfl (g := (mkF m 131 #[.val (.ref a1), .val (.double dx), .second, .val (.double hi2), .second, .val (.int (2 : Int32)), .val (.int (3 : Int32)), .val (.double (own_snd hi1 q2)), .second, .val (.double hi2), .second, .val (.double lo2), .second] [(.int (2 : Int32)), (.ref a1)])) rfl rfl (hb hby d_prog_8_2_131)
          replace Ea := Ea.wr W188
          replace Fp := Fp.other W188 (Or.inr (slot_ne (Or.inl (hw _ (List.mem_of_getElem? (i := 11) rfl))) (Or.inl (hw _ (List.mem_of_getElem? (i := 18) rfl))) (by decide) (t := (.array .double)) (t' := .int) (by decide) (by decide)))
          replace Va := Va.other W188 (Ne.symm hne)
          have Zs188 := Nat.le_trans Zs187 (Keep.of_wr W188).1
          replace KK := KK.wr W188 (Or.inl (by simp))
          replace Fs := Fs.same W188
          have N188 := Fr.snoc X188 N187 g_a1
          obtain ⟨fs, hr, hrun, hended, hW, hsame⟩ := X188.leave (v := none) (fun _ => rfl) hlk
          refine ⟨_, _, ?_, hrun, hended, _, _, rfl, ?_, ⟨_, rfl⟩, hW, hsame.mono (by decide) (by decide)⟩
          · refine hA0 _ ?_
            refine k181 _ ?_
            refine own_f_ifYes X178.here hx (hb hby d_prog_8_2_68) ((if0 _ _).trans (teq (hz2)).1) (by decide) (by decide : _ = 83) ?_
            refine own_f_dload X178.here hx (hb hby d_prog_8_2_83) rfl (rfl : _ = 85) ?_
            refine own_f_dstoreN X178.here hx (hb hby d_prog_8_2_85) (rfl : storeLocals _ _ _ = some #[.val (.ref a1), .val (.double dx), .second, .val (.double hi2), .second, .val (.int (1 : Int32)), .val (.int (2 : Int32)), .val (.double (own_snd hi1 q2)), .second, .val (.double hi2), .second, .val (.double lo2), .second]) (rfl : _ = 86) ?_
            refine own_f_iinc X178.here hx (hb hby d_prog_8_2_86) rfl (rfl : storeLocals _ _ _ = some #[.val (.ref a1), .val (.double dx), .second, .val (.double hi2), .second, .val (.int (1 : Int32)), .val (.int (3 : Int32)), .val (.double (own_snd hi1 q2)), .second, .val (.double hi2), .second, .val (.double lo2), .second]) (rfl : _ = 89) ?_
            refine own_f_goto X178.here hx (hb hby d_prog_8_2_89) (by decide) (by decide : _ = 8) ?_
            refine own_f_iload X178.here hx (hb hby d_prog_8_2_8) rfl (rfl : _ = 10) ?_
            refine own_f_aloadN X178.here hx (hb hby d_prog_8_2_10) rfl rfl (rfl : _ = 11) ?_
            refine st182 _ ?_
            show Steps p.tables e below (T182.setTop (mkF m 14 #[.val (.ref a1), .val (.double dx), .second, .val (.double hi2), .second, .val (.int (1 : Int32)), .val (.int (3 : Int32)), .val (.double (own_snd hi1 q2)), .second, .val (.double hi2), .second, .val (.double lo2), .second] [(.int (3 : Int32)), (.int (3 : Int32))])) _
            refine own_f_icmpYes X182.here hx (hb hby d_prog_8_2_14) (flt (by decide)).2.1 (by decide) (by decide : _ = 92) ?_
            refine own_f_iload X182.here hx (hb hby d_prog_8_2_92) rfl (rfl : _ = 94) ?_
            refine own_f_aloadN X182.here hx (hb hby d_prog_8_2_94) rfl rfl (rfl : _ = 95) ?_
            refine st183 _ ?_
            show Steps p.tables e below (T183.setTop (mkF m 98 #[.val (.ref a1), .val (.double dx), .second, .val (.double hi2), .second, .val (.int (1 : Int32)), .val (.int (3 : Int32)), .val (.double (own_snd hi1 q2)), .second, .val (.double hi2), .second, .val (.double lo2), .second] [(.ref ar), (.int (1 : Int32))])) _
            refine X183.arraylength hx (by rw [e183]; exact Ar184.1) (State.isArrayOf_alike hZ.alike Ar184.2.1) (g := (mkF m 98 #[.val (.ref a1), .val (.double dx), .second, .val (.double hi2), .second, .val (.int (1 : Int32)), .val (.int (3 : Int32)), .val (.double (own_snd hi1 q2)), .second, .val (.double hi2), .second, .val (.double lo2), .second] [(.ref ar), (.int (1 : Int32))])) rfl rfl (hb hby d_prog_8_2_98) _ ?_
            rw [len_of Sz184 Ng184]
            show Steps p.tables e below (T183.setTop (mkF m 99 #[.val (.ref a1), .val (.double dx), .second, .val (.double hi2), .second, .val (.int (1 : Int32)), .val (.int (3 : Int32)), .val (.double (own_snd hi1 q2)), .second, .val (.double hi2), .second, .val (.double lo2), .second] [(.int (4 : Int32)), (.int (1 : Int32))])) _
            refine own_f_icmpYes X183.here hx (hb hby d_prog_8_2_99) (feq (by decide)).2 (by decide) (by decide : _ = 117) ?_
            refine own_f_aloadN X183.here hx (hb hby d_prog_8_2_117) rfl rfl (rfl : _ = 118) ?_
            refine st185 _ ?_
            show Steps p.tables e below (T185.setTop (mkF m 121 #[.val (.ref a1), .val (.double dx), .second, .val (.double hi2), .second, .val (.int (1 : Int32)), .val (.int (3 : Int32)), .val (.double (own_snd hi1 q2)), .second, .val (.double hi2), .second, .val (.double lo2), .second] [(.ref ar)])) _
            refine own_f_iload X185.here hx (hb hby d_prog_8_2_121) rfl (rfl : _ = 123) ?_
            refine own_f_iinc X185.here hx (hb hby d_prog_8_2_123) rfl (rfl : storeLocals _ _ _ = some #[.val (.ref a1), .val (.double dx), .second, .val (.double hi2), .second, .val (.int (2 : Int32)), .val (.int (3 : Int32)), .val (.double (own_snd hi1 q2)), .second, .val (.double hi2), .second, .val (.double lo2), .second]) (rfl : _ = 126) ?_
            refine own_f_dloadN X185.here hx (hb hby d_prog_8_2_126) rfl (rfl : _ = 127) ?_
            refine st187 _ ?_
            show Steps p.tables e below (T187.setTop (mkF m 128 #[.val (.ref a1), .val (.double dx), .second, .val (.double hi2), .second, .val (.int (2 : Int32)), .val (.int (3 : Int32)), .val (.double (own_snd hi1 q2)), .second, .val (.double hi2), .second, .val (.double lo2), .second] [])) _
            refine own_f_aloadN X187.here hx (hb hby d_prog_8_2_128) rfl rfl (rfl : _ = 129) ?_
            refine own_f_iload X187.here hx (hb hby d_prog_8_2_129) rfl (rfl : _ = 131) ?_
            refine st188 _ ?_
            show Steps p.tables e below (T188.setTop (mkF m 134 #[.val (.ref a1), .val (.double dx), .second, .val (.double hi2), .second, .val (.int (2 : Int32)), .val (.int (3 : Int32)), .val (.double (own_snd hi1 q2)), .second, .val (.double hi2), .second, .val (.double lo2), .second] [])) _
            exact X188.returnOut hx Bd.returns (hb hby d_prog_8_2_134) hr
          · show Q2 Z a1 dx _ ar kc q0 q1 q2 q3 _ h0 n0 _ T188.heap _
            rw [e188]
            exact ⟨(2 : Int32), lo0, hi2, q2, q3, rfl, N188, KK, Fp, Fs, Va, own_res (M := [lo0, hi2]) (by rw [own_ins_c hlo0 hhi0 hz0, own_ins_d hlo1 hhi1 hz1, own_ins_d hlo2 hhi2 hz2]; rfl) (by show Int32.toInt 2 = ((2 : Nat) : Int); decide) rfl⟩
        · obtain ⟨T189, X189, e189, st189⟩ := getF X178 hx hZ hown (host := "") (Or.inl (hw _ (List.mem_of_getElem? (i := 10) rfl))) Via.refl e178 Fp (g := (mkF m 72 #[.val (.ref a1), .val (.double dx), .second, .val (.double (own_fst hi1 q2)), .second, .val (.int (1 : Int32)), .val (.int (2 : Int32)), .val (.double (own_snd hi1 q2)), .second, .val (.double hi2), .second, .val (.double lo2), .second] [(.ref a1)])) rfl rfl (hb hby d_prog_8_2_72)
          obtain ⟨cl190, Ar190, q190, Sz190, Ng190, Hs190, Gs190⟩ := Va
          have hin190 : ¬ ((1 : Int32) < 0 ∨ cl190.slots.size ≤ ((1 : Int32)).toNatClampNeg) := inb_of Sz190 ⟨by decide, by decide⟩
          obtain ⟨T191, h191, X191, e191, W191, st191⟩ := stD X189 hx hZ e189 Ar190 (j := (1 : Int32)) hin190 (g := (mkF m 82 #[.val (.ref a1), .val (.double dx), .second, .val (.double (own_fst hi1 q2)), .second, .val (.int (2 : Int32)), .val (.int (2 : Int32)), .val (.double (own_snd hi1 q2)), .second, .val (.double hi2), .second, .val (.double lo2), .second] [(.double lo2), (.int (1 : Int32)), (.ref ar)])) rfl rfl (hb hby d_prog_8_2_82)
          replace Ea := Ea.wr W191
          replace Fp := Fp.other W191 (Or.inl hne)
          replace Fs := Fs.other W191 (Or.inl hne)
          have Zs191 := Nat.le_trans Zs165 (Keep.of_wr W191).1
          replace KK := KK.wr W191 (Or.inl (by simp))
          have Va : Arv Z h191 ar kc .double (4 : Int32) [(.double lo0), (.double lo2), (.double q2), (.double q3)] (.double (0 : UInt64)) := Arv.set Ar190 q190 Sz190 Ng190 Hs190 Gs190 rfl W191 1 rfl (Nat.le_of_ble_eq_true rfl)
          have N191 := Fr.snoc X191 N165 g_ar
          obtain ⟨T192, X192, e192, st192⟩ := getF X191 hx hZ hown (host := "") (Or.inl (hw _ (List.mem_of_getElem? (i := 17) rfl))) Via.refl e191 Fs (g := (mkF m 11 #[.val (.ref a1), .val (.double dx), .second, .val (.double hi2), .second, .val (.int (2 : Int32)), .val (.int (3 : Int32)), .val (.double (own_snd hi1 q2)), .second, .val (.double hi2), .second, .val (.double lo2), .second] [(.ref a1), (.int (3 : Int32))])) rfl rfl (hb hby d_prog_8_2_11)
          obtain ⟨T193, X193, e193, st193⟩ := getF X192 hx hZ hown (host := "") (Or.inl (hw _ (List.mem_of_getElem? (i := 10) rfl))) Via.refl e192 Fp (g := (mkF m 95 #[.val (.ref a1), .val (.double dx), .second, .val (.double hi2), .second, .val (.int (2 : Int32)), .val (.int (3 : Int32)), .val (.double (own_snd hi1 q2)), .second, .val (.double hi2), .second, .val (.double lo2), .second] [(.ref a1), (.int (2 : Int32))])) rfl rfl (hb hby d_prog_8_2_95)
          obtain ⟨cl194, Ar194, -, Sz194, Ng194, -, -⟩ := id Va
          obtain ⟨T195, X195, e195, st195⟩ := getF X193 hx hZ hown (host := "") (Or.inl (hw _ (List.mem_of_getElem? (i := 10) rfl))) Via.refl e193 Fp (g := (mkF m 118 #[.val (.ref a1), .val (.double dx), .second, .val (.double hi2), .second, .val (.int (2 : Int32)), .val (.int (3 : Int32)), .val (.double (own_snd hi1 q2)), .second, .val (.double hi2), .second, .val (.double lo2), .second] [(.ref a1)])) rfl rfl (hb hby d_prog_8_2_118)
          obtain ⟨cl196, Ar196, q196, Sz196, Ng196, Hs196, Gs196⟩ := Va
          have hin196 : ¬ ((2 : Int32) < 0 ∨ cl196.slots.size ≤ ((2 : Int32)).toNatClampNeg) := inb_of Sz196 ⟨by decide, by decide⟩
          obtain ⟨T197, h197, X197, e197, W197, st197⟩ := stD X195 hx hZ e195 Ar196 (j := (2 : Int32)) hin196 (g := (mkF m 127 #[.val (.ref a1), .val (.double dx), .second, .val (.double hi2), .second, .val (.int (3 : Int32)), .val (.int (3 : Int32)), .val (.double (own_snd hi1 q2)), .second, .val (.double hi2), .second, .val (.double lo2), .second] [(.double hi2), (.int (2 : Int32)), (.ref ar)])) rfl rfl (hb hby d_prog_8_2_127)
          replace Ea := Ea.wr W197
          replace Fp := Fp.other W197 (Or.inl hne)
          replace Fs := Fs.other W197 (Or.inl hne)
          have Zs197 := Nat.le_trans Zs191 (Keep.of_wr W197).1
          replace KK := KK.wr W197 (Or.inl (by simp))
          have Va : Arv Z h197 ar kc .double (4 : Int32) [(.double lo0), (.double lo2), (.double hi2), (.double q3)] (.double (0 : UInt64)) := Arv.set Ar196 q196 Sz196 Ng196 Hs196 Gs196 rfl W197 2 rfl (Nat.le_of_ble_eq_true rfl)
          have N197 := Fr.snoc X197 N191 g_ar
          obtain ⟨T198, h198, X198, e198, W198, st198⟩ := putF X197 hx hZ hown (host := "") (Or.inl (hw _ (List.mem_of_getElem? (i := 17) rfl))) Via.refl e197 Fs Ea (Or.inl (hw _ (List.mem_of_getElem? (i := 18) rfl))) (hw _ (List.mem_of_getElem? (i := 1) rfl)) (ty := .int) (by decide) rfl rfl (g := (mkF m 131 #[.val (.ref a1), .val (.double dx), .second, .val (.double hi2), .second, .val (.int (3 : Int32)), .val (.int (3 : Int32)), .val (.double (own_snd hi1 q2)), .second, .val (.double hi2), .second, .val (.double lo2), .second] [(.int (3 : Int32)), (.ref a1)])) rfl rfl (hb hby d_prog_8_2_131)
          replace Ea := Ea.wr W198
          replace Fp := Fp.other W198 (Or.inr (slot_ne (Or.inl (hw _ (List.mem_of_getElem? (i := 11) rfl))) (Or.inl (hw _ (List.mem_of_getElem? (i := 18) rfl))) (by decide) (t := (.array .double)) (t' := .int) (by decide) (by decide)))
          replace Va := Va.other W198 (Ne.symm hne)
          have Zs198 := Nat.le_trans Zs197 (Keep.of_wr W198).1
          replace KK := KK.wr W198 (Or.inl (by simp))
          replace Fs := Fs.same W198
          have N198 := Fr.snoc X198 N197 g_a1
          obtain ⟨fs, hr, hrun, hended, hW, hsame⟩ := X198.leave (v := none) (fun _ => rfl) hlk
          refine ⟨_, _, ?_, hrun, hended, _, _, rfl, ?_, ⟨_, rfl⟩, hW, hsame.mono (by decide) (by decide)⟩
          · refine hA0 _ ?_
            refine k181 _ ?_
            refine own_f_ifNo X178.here hx (hb hby d_prog_8_2_68) ((if0 _ _).trans (feq (hz2)).1) (rfl : _ = 71) ?_
            refine own_f_aloadN X178.here hx (hb hby d_prog_8_2_71) rfl rfl (rfl : _ = 72) ?_
            refine st189 _ ?_
            show Steps p.tables e below (T189.setTop (mkF m 75 #[.val (.ref a1), .val (.double dx), .second, .val (.double (own_fst hi1 q2)), .second, .val (.int (1 : Int32)), .val (.int (2 : Int32)), .val (.double (own_snd hi1 q2)), .second, .val (.double hi2), .second, .val (.double lo2), .second] [(.ref ar)])) _
            refine own_f_iload X189.here hx (hb hby d_prog_8_2_75) rfl (rfl : _ = 77) ?_
            refine own_f_iinc X189.here hx (hb hby d_prog_8_2_77) rfl (rfl : storeLocals _ _ _ = some #[.val (.ref a1), .val (.double dx), .second, .val (.double (own_fst hi1 q2)), .second, .val (.int (2 : Int32)), .val (.int (2 : Int32)), .val (.double (own_snd hi1 q2)), .second, .val (.double hi2), .second, .val (.double lo2), .second]) (rfl : _ = 80) ?_
            refine own_f_dload X189.here hx (hb hby d_prog_8_2_80) rfl (rfl : _ = 82) ?_
            refine st191 _ ?_
            show Steps p.tables e below (T191.setTop (mkF m 83 #[.val (.ref a1), .val (.double dx), .second, .val (.double (own_fst hi1 q2)), .second, .val (.int (2 : Int32)), .val (.int (2 : Int32)), .val (.double (own_snd hi1 q2)), .second, .val (.double hi2), .second, .val (.double lo2), .second] [])) _
            refine own_f_dload X191.here hx (hb hby d_prog_8_2_83) rfl (rfl : _ = 85) ?_
            refine own_f_dstoreN X191.here hx (hb hby d_prog_8_2_85) (rfl : storeLocals _ _ _ = some #[.val (.ref a1), .val (.double dx), .second, .val (.double hi2), .second, .val (.int (2 : Int32)), .val (.int (2 : Int32)), .val (.double (own_snd hi1 q2)), .second, .val (.double hi2), .second, .val (.double lo2), .second]) (rfl : _ = 86) ?_
            refine own_f_iinc X191.here hx (hb hby d_prog_8_2_86) rfl (rfl : storeLocals _ _ _ = some #[.val (.ref a1), .val (.double dx), .second, .val (.double hi2), .second, .val (.int (2 : Int32)), .val (.int (3 : Int32)), .val (.double (own_snd hi1 q2)), .second, .val (.double hi2), .second, .val (.double lo2), .second]) (rfl : _ = 89) ?_
            refine own_f_goto X191.here hx (hb hby d_prog_8_2_89) (by decide) (by decide : _ = 8) ?_
            refine own_f_iload X191.here hx (hb hby d_prog_8_2_8) rfl (rfl : _ = 10) ?_
            refine own_f_aloadN X191.here hx (hb hby d_prog_8_2_10) rfl rfl (rfl : _ = 11) ?_
            refine st192 _ ?_
            show Steps p.tables e below (T192.setTop (mkF m 14 #[.val (.ref a1), .val (.double dx), .second, .val (.double hi2), .second, .val (.int (2 : Int32)), .val (.int (3 : Int32)), .val (.double (own_snd hi1 q2)), .second, .val (.double hi2), .second, .val (.double lo2), .second] [(.int (3 : Int32)), (.int (3 : Int32))])) _
            refine own_f_icmpYes X192.here hx (hb hby d_prog_8_2_14) (flt (by decide)).2.1 (by decide) (by decide : _ = 92) ?_
            refine own_f_iload X192.here hx (hb hby d_prog_8_2_92) rfl (rfl : _ = 94) ?_
            refine own_f_aloadN X192.here hx (hb hby d_prog_8_2_94) rfl rfl (rfl : _ = 95) ?_
            refine st193 _ ?_
            show Steps p.tables e below (T193.setTop (mkF m 98 #[.val (.ref a1), .val (.double dx), .second, .val (.double hi2), .second, .val (.int (2 : Int32)), .val (.int (3 : Int32)), .val (.double (own_snd hi1 q2)), .second, .val (.double hi2), .second, .val (.double lo2), .second] [(.ref ar), (.int (2 : Int32))])) _
            refine X193.arraylength hx (by rw [e193]; exact Ar194.1) (State.isArrayOf_alike hZ.alike Ar194.2.1) (g := (mkF m 98 #[.val (.ref a1), .val (.double dx), .second, .val (.double hi2), .second, .val (.int (2 : Int32)), .val (.int (3 : Int32)), .val (.double (own_snd hi1 q2)), .second, .val (.double hi2), .second, .val (.double lo2), .second] [(.ref ar), (.int (2 : Int32))])) rfl rfl (hb hby d_prog_8_2_98) _ ?_
            rw [len_of Sz194 Ng194]
            show Steps p.tables e below (T193.setTop (mkF m 99 #[.val (.ref a1), .val (.double dx), .second, .val (.double hi2), .second, .val (.int (2 : Int32)), .val (.int (3 : Int32)), .val (.double (own_snd hi1 q2)), .second, .val (.double hi2), .second, .val (.double lo2), .second] [(.int (4 : Int32)), (.int (2 : Int32))])) _
            refine own_f_icmpYes X193.here hx (hb hby d_prog_8_2_99) (feq (by decide)).2 (by decide) (by decide : _ = 117) ?_
            refine own_f_aloadN X193.here hx (hb hby d_prog_8_2_117) rfl rfl (rfl : _ = 118) ?_
            refine st195 _ ?_
            show Steps p.tables e below (T195.setTop (mkF m 121 #[.val (.ref a1), .val (.double dx), .second, .val (.double hi2), .second, .val (.int (2 : Int32)), .val (.int (3 : Int32)), .val (.double (own_snd hi1 q2)), .second, .val (.double hi2), .second, .val (.double lo2), .second] [(.ref ar)])) _
            refine own_f_iload X195.here hx (hb hby d_prog_8_2_121) rfl (rfl : _ = 123) ?_
            refine own_f_iinc X195.here hx (hb hby d_prog_8_2_123) rfl (rfl : storeLocals _ _ _ = some #[.val (.ref a1), .val (.double dx), .second, .val (.double hi2), .second, .val (.int (3 : Int32)), .val (.int (3 : Int32)), .val (.double (own_snd hi1 q2)), .second, .val (.double hi2), .second, .val (.double lo2), .second]) (rfl : _ = 126) ?_
            refine own_f_dloadN X195.here hx (hb hby d_prog_8_2_126) rfl (rfl : _ = 127) ?_
            refine st197 _ ?_
            show Steps p.tables e below (T197.setTop (mkF m 128 #[.val (.ref a1), .val (.double dx), .second, .val (.double hi2), .second, .val (.int (3 : Int32)), .val (.int (3 : Int32)), .val (.double (own_snd hi1 q2)), .second, .val (.double hi2), .second, .val (.double lo2), .second] [])) _
            refine own_f_aloadN X197.here hx (hb hby d_prog_8_2_128) rfl rfl (rfl : _ = 129) ?_
            refine own_f_iload X197.here hx (hb hby d_prog_8_2_129) rfl (rfl : _ = 131) ?_
            refine st198 _ ?_
            show Steps p.tables e below (T198.setTop (mkF m 134 #[.val (.ref a1), .val (.double dx), .second, .val (.double hi2), .second, .val (.int (3 : Int32)), .val (.int (3 : Int32)), .val (.double (own_snd hi1 q2)), .second, .val (.double hi2), .second, .val (.double lo2), .second] [])) _
            exact X198.returnOut hx Bd.returns (hb hby d_prog_8_2_134) hr
          · show Q2 Z a1 dx _ ar kc q0 q1 q2 q3 _ h0 n0 _ T198.heap _
            rw [e198]
            exact ⟨(3 : Int32), lo0, lo2, hi2, q3, rfl, N198, KK, Fp, Fs, Va, own_res (M := [lo0, lo2, hi2]) (by rw [own_ins_c hlo0 hhi0 hz0, own_ins_d hlo1 hhi1 hz1, own_ins_c hlo2 hhi2 hz2]; rfl) (by show Int32.toInt 3 = ((3 : Nat) : Int); decide) rfl⟩
      · obtain ⟨T199, X199, e199, st199⟩ := getF X170 hx hZ hown (host := "") (Or.inl (hw _ (List.mem_of_getElem? (i := 10) rfl))) Via.refl e170 Fp (g := (mkF m 72 #[.val (.ref a1), .val (.double dx), .second, .val (.double (own_fst hi0 q1)), .second, .val (.int (1 : Int32)), .val (.int (1 : Int32)), .val (.double (own_snd hi0 q1)), .second, .val (.double hi1), .second, .val (.double lo1), .second] [(.ref a1)])) rfl rfl (hb hby d_prog_8_2_72)
        obtain ⟨cl200, Ar200, q200, Sz200, Ng200, Hs200, Gs200⟩ := Va
        have hin200 : ¬ ((1 : Int32) < 0 ∨ cl200.slots.size ≤ ((1 : Int32)).toNatClampNeg) := inb_of Sz200 ⟨by decide, by decide⟩
        obtain ⟨T201, h201, X201, e201, W201, st201⟩ := stD X199 hx hZ e199 Ar200 (j := (1 : Int32)) hin200 (g := (mkF m 82 #[.val (.ref a1), .val (.double dx), .second, .val (.double (own_fst hi0 q1)), .second, .val (.int (2 : Int32)), .val (.int (1 : Int32)), .val (.double (own_snd hi0 q1)), .second, .val (.double hi1), .second, .val (.double lo1), .second] [(.double lo1), (.int (1 : Int32)), (.ref ar)])) rfl rfl (hb hby d_prog_8_2_82)
        replace Ea := Ea.wr W201
        replace Fp := Fp.other W201 (Or.inl hne)
        replace Fs := Fs.other W201 (Or.inl hne)
        have Zs201 := Nat.le_trans Zs165 (Keep.of_wr W201).1
        replace KK := KK.wr W201 (Or.inl (by simp))
        have Va : Arv Z h201 ar kc .double (4 : Int32) [(.double lo0), (.double lo1), (.double q2), (.double q3)] (.double (0 : UInt64)) := Arv.set Ar200 q200 Sz200 Ng200 Hs200 Gs200 rfl W201 1 rfl (Nat.le_of_ble_eq_true rfl)
        have N201 := Fr.snoc X201 N165 g_ar
        obtain ⟨T202, X202, e202, st202⟩ := getF X201 hx hZ hown (host := "") (Or.inl (hw _ (List.mem_of_getElem? (i := 17) rfl))) Via.refl e201 Fs (g := (mkF m 11 #[.val (.ref a1), .val (.double dx), .second, .val (.double hi1), .second, .val (.int (2 : Int32)), .val (.int (2 : Int32)), .val (.double (own_snd hi0 q1)), .second, .val (.double hi1), .second, .val (.double lo1), .second] [(.ref a1), (.int (2 : Int32))])) rfl rfl (hb hby d_prog_8_2_11)
        obtain ⟨T203, X203, e203, st203⟩ := getF X202 hx hZ hown (host := "") (Or.inl (hw _ (List.mem_of_getElem? (i := 10) rfl))) Via.refl e202 Fp (g := (mkF m 18 #[.val (.ref a1), .val (.double dx), .second, .val (.double hi1), .second, .val (.int (2 : Int32)), .val (.int (2 : Int32)), .val (.double (own_snd hi0 q1)), .second, .val (.double hi1), .second, .val (.double lo1), .second] [(.ref a1)])) rfl rfl (hb hby d_prog_8_2_18)
        obtain ⟨cl204, Ar204, -, Sz204, Ng204, Hs204, -⟩ := id Va
        have hin204 : ¬ ((2 : Int32) < 0 ∨ cl204.slots.size ≤ ((2 : Int32)).toNatClampNeg) := inb_of Sz204 ⟨by decide, by decide⟩
        have hat204 : cl204.slots[((2 : Int32)).toNatClampNeg]? = some (.double q2) := Hs204 _ (Nat.lt_of_not_le fun q => hin204 (Or.inr q))
        obtain ⟨⟨nx2, nq2⟩, na2, nb2, nc2, -⟩ := own_nn hnn
        obtain ⟨T205, X205, e205, st205⟩ := natS X203 hx hZ hown (hw _ (List.mem_of_getElem? (i := 19) rfl)) (hw _ (List.mem_of_getElem? (i := 20) rfl)) (hw _ (List.mem_of_getElem? (i := 21) rfl)) (hw _ (List.mem_of_getElem? (i := 22) rfl)) (by decide) e203 (W := 0) (val' := (.double (hi1 &&& 0x7fffffffffffffff))) (fun c => Jvm.Free.Fl.Abs.absD_pays hi1 c (by decide) (by decide)) (g := (mkF m 27 #[.val (.ref a1), .val (.double dx), .second, .val (.double hi1), .second, .val (.int (2 : Int32)), .val (.int (2 : Int32)), .val (.double q2), .second, .val (.double hi1), .second, .val (.double lo1), .second] [(.double hi1)])) rfl (by rw [hml]; rfl) (argsL := [(.double hi1)]) (rest := []) (lenOf pd_0 rfl) rfl (by show 2 * 0 + _ ≤ _; exact Nat.le_of_eq rfl) (hb hby d_prog_8_2_27) (by decide) (by decide) ⟨rfl, nx2⟩ rfl
        obtain ⟨T206, X206, e206, st206⟩ := natS X205 hx hZ hown (hw _ (List.mem_of_getElem? (i := 19) rfl)) (hw _ (List.mem_of_getElem? (i := 20) rfl)) (hw _ (List.mem_of_getElem? (i := 21) rfl)) (hw _ (List.mem_of_getElem? (i := 22) rfl)) (by decide) e205 (W := 2) (val' := (.double (q2 &&& 0x7fffffffffffffff))) (fun c => Jvm.Free.Fl.Abs.absD_pays q2 c (by decide) (by decide)) (g := (mkF m 32 #[.val (.ref a1), .val (.double dx), .second, .val (.double hi1), .second, .val (.int (2 : Int32)), .val (.int (2 : Int32)), .val (.double q2), .second, .val (.double hi1), .second, .val (.double lo1), .second] [(.double q2), (.double (hi1 &&& 0x7fffffffffffffff))])) rfl (by rw [hml]; rfl) (argsL := [(.double q2)]) (rest := [(.double (hi1 &&& 0x7fffffffffffffff))]) (lenOf pd_0 rfl) rfl (by show 2 * 0 + _ ≤ _; exact Nat.le_of_eq rfl) (hb hby d_prog_8_2_32) (by decide) (by decide) ⟨rfl, nq2⟩ rfl
        have k207 : ∀ t_, Steps p.tables e below (T206.setTop (mkF m 36 #[.val (.ref a1), .val (.double dx), .second, .val (.double hi1), .second, .val (.int (2 : Int32)), .val (.int (2 : Int32)), .val (.double q2), .second, .val (.double hi1), .second, .val (.double lo1), .second] [(.int (cmpValue (FP.dcmp (hi1 &&& 0x7fffffffffffffff) (q2 &&& 0x7fffffffffffffff)) .g))])) t_ → Steps p.tables e below A t_ := by
          intro t_ ht_
          refine k173 t_ ?_
          refine own_f_ifNo X170.here hx (hb hby d_prog_8_2_68) ((if0 _ _).trans (feq (hz1)).1) (rfl : _ = 71) ?_
          refine own_f_aloadN X170.here hx (hb hby d_prog_8_2_71) rfl rfl (rfl : _ = 72) ?_
          refine st199 _ ?_
          show Steps p.tables e below (T199.setTop (mkF m 75 #[.val (.ref a1), .val (.double dx), .second, .val (.double (own_fst hi0 q1)), .second, .val (.int (1 : Int32)), .val (.int (1 : Int32)), .val (.double (own_snd hi0 q1)), .second, .val (.double hi1), .second, .val (.double lo1), .second] [(.ref ar)])) t_
          refine own_f_iload X199.here hx (hb hby d_prog_8_2_75) rfl (rfl : _ = 77) ?_
          refine own_f_iinc X199.here hx (hb hby d_prog_8_2_77) rfl (rfl : storeLocals _ _ _ = some #[.val (.ref a1), .val (.double dx), .second, .val (.double (own_fst hi0 q1)), .second, .val (.int (2 : Int32)), .val (.int (1 : Int32)), .val (.double (own_snd hi0 q1)), .second, .val (.double hi1), .second, .val (.double lo1), .second]) (rfl : _ = 80) ?_
          refine own_f_dload X199.here hx (hb hby d_prog_8_2_80) rfl (rfl : _ = 82) ?_
          refine st201 _ ?_
          show Steps p.tables e below (T201.setTop (mkF m 83 #[.val (.ref a1), .val (.double dx), .second, .val (.double (own_fst hi0 q1)), .second, .val (.int (2 : Int32)), .val (.int (1 : Int32)), .val (.double (own_snd hi0 q1)), .second, .val (.double hi1), .second, .val (.double lo1), .second] [])) t_
          refine own_f_dload X201.here hx (hb hby d_prog_8_2_83) rfl (rfl : _ = 85) ?_
          refine own_f_dstoreN X201.here hx (hb hby d_prog_8_2_85) (rfl : storeLocals _ _ _ = some #[.val (.ref a1), .val (.double dx), .second, .val (.double hi1), .second, .val (.int (2 : Int32)), .val (.int (1 : Int32)), .val (.double (own_snd hi0 q1)), .second, .val (.double hi1), .second, .val (.double lo1), .second]) (rfl : _ = 86) ?_
          refine own_f_iinc X201.here hx (hb hby d_prog_8_2_86) rfl (rfl : storeLocals _ _ _ = some #[.val (.ref a1), .val (.double dx), .second, .val (.double hi1), .second, .val (.int (2 : Int32)), .val (.int (2 : Int32)), .val (.double (own_snd hi0 q1)), .second, .val (.double hi1), .second, .val (.double lo1), .second]) (rfl : _ = 89) ?_
          refine own_f_goto X201.here hx (hb hby d_prog_8_2_89) (by decide) (by decide : _ = 8) ?_
          refine own_f_iload X201.here hx (hb hby d_prog_8_2_8) rfl (rfl : _ = 10) ?_
          refine own_f_aloadN X201.here hx (hb hby d_prog_8_2_10) rfl rfl (rfl : _ = 11) ?_
          refine st202 _ ?_
          show Steps p.tables e below (T202.setTop (mkF m 14 #[.val (.ref a1), .val (.double dx), .second, .val (.double hi1), .second, .val (.int (2 : Int32)), .val (.int (2 : Int32)), .val (.double (own_snd hi0 q1)), .second, .val (.double hi1), .second, .val (.double lo1), .second] [(.int (3 : Int32)), (.int (2 : Int32))])) t_
          refine own_f_icmpNo X202.here hx (hb hby d_prog_8_2_14) (tlt (by decide)).2.1 (rfl : _ = 17) ?_
          refine own_f_aloadN X202.here hx (hb hby d_prog_8_2_17) rfl rfl (rfl : _ = 18) ?_
          refine st203 _ ?_
          show Steps p.tables e below (T203.setTop (mkF m 21 #[.val (.ref a1), .val (.double dx), .second, .val (.double hi1), .second, .val (.int (2 : Int32)), .val (.int (2 : Int32)), .val (.double (own_snd hi0 q1)), .second, .val (.double hi1), .second, .val (.double lo1), .second] [(.ref ar)])) t_
          refine own_f_iload X203.here hx (hb hby d_prog_8_2_21) rfl (rfl : _ = 23) ?_
          refine X203.daload hx (j := (2 : Int32)) (v := (.double q2)) (by rw [e203]; exact Ar204.1) (State.isArrayOf_alike hZ.alike Ar204.2.1) Ar204.2.2 hin204 hat204 (g := (mkF m 23 #[.val (.ref a1), .val (.double dx), .second, .val (.double hi1), .second, .val (.int (2 : Int32)), .val (.int (2 : Int32)), .val (.double (own_snd hi0 q1)), .second, .val (.double hi1), .second, .val (.double lo1), .second] [(.int (2 : Int32)), (.ref ar)])) rfl rfl (hb hby d_prog_8_2_23) _ ?_
          show Steps p.tables e below (T203.setTop (mkF m 24 #[.val (.ref a1), .val (.double dx), .second, .val (.double hi1), .second, .val (.int (2 : Int32)), .val (.int (2 : Int32)), .val (.double (own_snd hi0 q1)), .second, .val (.double hi1), .second, .val (.double lo1), .second] [(.double q2)])) t_
          refine own_f_dstore X203.here hx (hb hby d_prog_8_2_24) (rfl : storeLocals _ _ _ = some #[.val (.ref a1), .val (.double dx), .second, .val (.double hi1), .second, .val (.int (2 : Int32)), .val (.int (2 : Int32)), .val (.double q2), .second, .val (.double hi1), .second, .val (.double lo1), .second]) (rfl : _ = 26) ?_
          refine own_f_dloadN X203.here hx (hb hby d_prog_8_2_26) rfl (rfl : _ = 27) ?_
          refine st205 _ ?_
          show Steps p.tables e below (T205.setTop (mkF m 30 #[.val (.ref a1), .val (.double dx), .second, .val (.double hi1), .second, .val (.int (2 : Int32)), .val (.int (2 : Int32)), .val (.double q2), .second, .val (.double hi1), .second, .val (.double lo1), .second] [(.double (hi1 &&& 0x7fffffffffffffff))])) t_
          refine own_f_dload X205.here hx (hb hby d_prog_8_2_30) rfl (rfl : _ = 32) ?_
          refine st206 _ ?_
          show Steps p.tables e below (T206.setTop (mkF m 35 #[.val (.ref a1), .val (.double dx), .second, .val (.double hi1), .second, .val (.int (2 : Int32)), .val (.int (2 : Int32)), .val (.double q2), .second, .val (.double hi1), .second, .val (.double lo1), .second] [(.double (q2 &&& 0x7fffffffffffffff)), (.double (hi1 &&& 0x7fffffffffffffff))])) t_
          refine own_f_dcmp X206.here hx (hb hby d_prog_8_2_35) rfl (rfl : _ = 36) ?_
          exact ht_
        have k208 : ∀ t_, Steps p.tables e below (T206.setTop (mkF m 64 #[.val (.ref a1), .val (.double dx), .second, .val (.double (own_fst hi1 q2)), .second, .val (.int (2 : Int32)), .val (.int (2 : Int32)), .val (.double (own_snd hi1 q2)), .second, .val (.double (FP.dadd (own_fst hi1 q2) (own_snd hi1 q2))), .second, .val (.double (own_lo (own_fst hi1 q2) (own_snd hi1 q2))), .second] [])) t_ → Steps p.tables e below A t_ := by
          intro t_ ht_
          refine k207 t_ ?_
          by_cases hsw : own_lt hi1 q2
          · have e1 : own_fst hi1 q2 = q2 := if_pos hsw
            have e2 : own_snd hi1 q2 = hi1 := if_pos hsw
            rw [e1, e2] at ht_ na2 nb2 nc2
            have hs_ : (cmpValue (FP.dcmp (hi1 &&& 0x7fffffffffffffff) (q2 &&& 0x7fffffffffffffff)) .g) < (0 : Int32) := hsw
            refine own_f_ifNo X206.here hx (hb hby d_prog_8_2_36) ((if0 _ _).trans (tlt (hs_)).2.1) (rfl : _ = 39) ?_
            refine own_f_dload X206.here hx (hb hby d_prog_8_2_39) rfl (rfl : _ = 41) ?_
            refine own_f_dstore X206.here hx (hb hby d_prog_8_2_41) (rfl : storeLocals _ _ _ = some #[.val (.ref a1), .val (.double dx), .second, .val (.double hi1), .second, .val (.int (2 : Int32)), .val (.int (2 : Int32)), .val (.double q2), .second, .val (.double q2), .second, .val (.double lo1), .second]) (rfl : _ = 43) ?_
            refine own_f_dloadN X206.here hx (hb hby d_prog_8_2_43) rfl (rfl : _ = 44) ?_
            refine own_f_dstore X206.here hx (hb hby d_prog_8_2_44) (rfl : storeLocals _ _ _ = some #[.val (.ref a1), .val (.double dx), .second, .val (.double hi1), .second, .val (.int (2 : Int32)), .val (.int (2 : Int32)), .val (.double hi1), .second, .val (.double q2), .second, .val (.double lo1), .second]) (rfl : _ = 46) ?_
            refine own_f_dload X206.here hx (hb hby d_prog_8_2_46) rfl (rfl : _ = 48) ?_
            refine own_f_dstoreN X206.here hx (hb hby d_prog_8_2_48) (rfl : storeLocals _ _ _ = some #[.val (.ref a1), .val (.double dx), .second, .val (.double q2), .second, .val (.int (2 : Int32)), .val (.int (2 : Int32)), .val (.double hi1), .second, .val (.double q2), .second, .val (.double lo1), .second]) (rfl : _ = 49) ?_
            refine own_f_dloadN X206.here hx (hb hby d_prog_8_2_49) rfl (rfl : _ = 50) ?_
            refine own_f_dload X206.here hx (hb hby d_prog_8_2_50) rfl (rfl : _ = 52) ?_
            refine own_f_dadd X206.here hx (hb hby d_prog_8_2_52) (na2) rfl (rfl : _ = 53) ?_
            refine own_f_dstore X206.here hx (hb hby d_prog_8_2_53) (rfl : storeLocals _ _ _ = some #[.val (.ref a1), .val (.double dx), .second, .val (.double q2), .second, .val (.int (2 : Int32)), .val (.int (2 : Int32)), .val (.double hi1), .second, .val (.double (FP.dadd q2 hi1)), .second, .val (.double lo1), .second]) (rfl : _ = 55) ?_
            refine own_f_dload X206.here hx (hb hby d_prog_8_2_55) rfl (rfl : _ = 57) ?_
            refine own_f_dload X206.here hx (hb hby d_prog_8_2_57) rfl (rfl : _ = 59) ?_
            refine own_f_dloadN X206.here hx (hb hby d_prog_8_2_59) rfl (rfl : _ = 60) ?_
            refine own_f_dsub X206.here hx (hb hby d_prog_8_2_60) (nb2) rfl (rfl : _ = 61) ?_
            refine own_f_dsub X206.here hx (hb hby d_prog_8_2_61) (nc2) rfl (rfl : _ = 62) ?_
            refine own_f_dstore X206.here hx (hb hby d_prog_8_2_62) (rfl : storeLocals _ _ _ = some #[.val (.ref a1), .val (.double dx), .second, .val (.double q2), .second, .val (.int (2 : Int32)), .val (.int (2 : Int32)), .val (.double hi1), .second, .val (.double (FP.dadd q2 hi1)), .second, .val (.double (FP.dsub hi1 (FP.dsub (FP.dadd q2 hi1) q2))), .second]) (rfl : _ = 64) ?_
            exact ht_
          · have e1 : own_fst hi1 q2 = hi1 := if_neg hsw
            have e2 : own_snd hi1 q2 = q2 := if_neg hsw
            rw [e1, e2] at ht_ na2 nb2 nc2
            have hs_ : ¬ ((cmpValue (FP.dcmp (hi1 &&& 0x7fffffffffffffff) (q2 &&& 0x7fffffffffffffff)) .g) < (0 : Int32)) := hsw
            refine own_f_ifYes X206.here hx (hb hby d_prog_8_2_36) ((if0 _ _).trans (flt (hs_)).2.1) (by decide) (by decide : _ = 49) ?_
            refine own_f_dloadN X206.here hx (hb hby d_prog_8_2_49) rfl (rfl : _ = 50) ?_
            refine own_f_dload X206.here hx (hb hby d_prog_8_2_50) rfl (rfl : _ = 52) ?_
            refine own_f_dadd X206.here hx (hb hby d_prog_8_2_52) (na2) rfl (rfl : _ = 53) ?_
            refine own_f_dstore X206.here hx (hb hby d_prog_8_2_53) (rfl : storeLocals _ _ _ = some #[.val (.ref a1), .val (.double dx), .second, .val (.double hi1), .second, .val (.int (2 : Int32)), .val (.int (2 : Int32)), .val (.double q2), .second, .val (.double (FP.dadd hi1 q2)), .second, .val (.double lo1), .second]) (rfl : _ = 55) ?_
            refine own_f_dload X206.here hx (hb hby d_prog_8_2_55) rfl (rfl : _ = 57) ?_
            refine own_f_dload X206.here hx (hb hby d_prog_8_2_57) rfl (rfl : _ = 59) ?_
            refine own_f_dloadN X206.here hx (hb hby d_prog_8_2_59) rfl (rfl : _ = 60) ?_
            refine own_f_dsub X206.here hx (hb hby d_prog_8_2_60) (nb2) rfl (rfl : _ = 61) ?_
            refine own_f_dsub X206.here hx (hb hby d_prog_8_2_61) (nc2) rfl (rfl : _ = 62) ?_
            refine own_f_dstore X206.here hx (hb hby d_prog_8_2_62) (rfl : storeLocals _ _ _ = some #[.val (.ref a1), .val (.double dx), .second, .val (.double hi1), .second, .val (.int (2 : Int32)), .val (.int (2 : Int32)), .val (.double q2), .second, .val (.double (FP.dadd hi1 q2)), .second, .val (.double (FP.dsub q2 (FP.dsub (FP.dadd hi1 q2) hi1))), .second]) (rfl : _ = 64) ?_
            exact ht_
        obtain ⟨hi2, hhi2⟩ : ∃ z : UInt64, z = (FP.dadd (own_fst hi1 q2) (own_snd hi1 q2)) := ⟨_, rfl⟩
        rw [← hhi2] at k208
        obtain ⟨lo2, hlo2⟩ : ∃ z : UInt64, z = (own_lo (own_fst hi1 q2) (own_snd hi1 q2)) := ⟨_, rfl⟩
        rw [← hlo2] at k208
        replace hnn := own_nn' hhi2 hnn
        have k209 : ∀ t_, Steps p.tables e below (T206.setTop (mkF m 68 #[.val (.ref a1), .val (.double dx), .second, .val (.double (own_fst hi1 q2)), .second, .val (.int (2 : Int32)), .val (.int (2 : Int32)), .val (.double (own_snd hi1 q2)), .second, .val (.double hi2), .second, .val (.double lo2), .second] [(.int (cmpValue (FP.dcmp lo2 (0 : UInt64)) .l))])) t_ → Steps p.tables e below A t_ := by
          intro t_ ht_
          refine k208 t_ ?_
          refine own_f_dload X206.here hx (hb hby d_prog_8_2_64) rfl (rfl : _ = 66) ?_
          refine own_f_dconst0 X206.here hx (hb hby d_prog_8_2_66) (rfl : _ = (0 : UInt64)) (rfl : _ = 67) ?_
          refine own_f_dcmp X206.here hx (hb hby d_prog_8_2_67) rfl (rfl : _ = 68) ?_
          exact ht_
        by_cases hz2 : (cmpValue (FP.dcmp lo2 (0 : UInt64)) .l) = (0 : Int32)
        · obtain ⟨T210, X210, e210, st210⟩ := getF X206 hx hZ hown (host := "") (Or.inl (hw _ (List.mem_of_getElem? (i := 17) rfl))) Via.refl e206 Fs (g := (mkF m 11 #[.val (.ref a1), .val (.double dx), .second, .val (.double hi2), .second, .val (.int (2 : Int32)), .val (.int (3 : Int32)), .val (.double (own_snd hi1 q2)), .second, .val (.double hi2), .second, .val (.double lo2), .second] [(.ref a1), (.int (3 : Int32))])) rfl rfl (hb hby d_prog_8_2_11)
          obtain ⟨T211, X211, e211, st211⟩ := getF X210 hx hZ hown (host := "") (Or.inl (hw _ (List.mem_of_getElem? (i := 10) rfl))) Via.refl e210 Fp (g := (mkF m 95 #[.val (.ref a1), .val (.double dx), .second, .val (.double hi2), .second, .val (.int (2 : Int32)), .val (.int (3 : Int32)), .val (.double (own_snd hi1 q2)), .second, .val (.double hi2), .second, .val (.double lo2), .second] [(.ref a1), (.int (2 : Int32))])) rfl rfl (hb hby d_prog_8_2_95)
          obtain ⟨cl212, Ar212, -, Sz212, Ng212, -, -⟩ := id Va
          obtain ⟨T213, X213, e213, st213⟩ := getF X211 hx hZ hown (host := "") (Or.inl (hw _ (List.mem_of_getElem? (i := 10) rfl))) Via.refl e211 Fp (g := (mkF m 118 #[.val (.ref a1), .val (.double dx), .second, .val (.double hi2), .second, .val (.int (2 : Int32)), .val (.int (3 : Int32)), .val (.double (own_snd hi1 q2)), .second, .val (.double hi2), .second, .val (.double lo2), .second] [(.ref a1)])) rfl rfl (hb hby d_prog_8_2_118)
          obtain ⟨cl214, Ar214, q214, Sz214, Ng214, Hs214, Gs214⟩ := Va
          have hin214 : ¬ ((2 : Int32) < 0 ∨ cl214.slots.size ≤ ((2 : Int32)).toNatClampNeg) := inb_of Sz214 ⟨by decide, by decide⟩
          obtain ⟨T215, h215, X215, e215, W215, st215⟩ := stD X213 hx hZ e213 Ar214 (j := (2 : Int32)) hin214 (g := (mkF m 127 #[.val (.ref a1), .val (.double dx), .second, .val (.double hi2), .second, .val (.int (3 : Int32)), .val (.int (3 : Int32)), .val (.double (own_snd hi1 q2)), .second, .val (.double hi2), .second, .val (.double lo2), .second] [(.double hi2), (.int (2 : Int32)), (.ref ar)])) rfl rfl (hb hby d_prog_8_2_127)
          replace Ea := Ea.wr W215
          replace Fp := Fp.other W215 (Or.inl hne)
          replace Fs := Fs.other W215 (Or.inl hne)
          have Zs215 := Nat.le_trans Zs201 (Keep.of_wr W215).1
          replace KK := KK.wr W215 (Or.inl (by simp))
          have Va : Arv Z h215 ar kc .double (4 : Int32) [(.double lo0), (.double lo1), (.double hi2), (.double q3)] (.double (0 : UInt64)) := Arv.set Ar214 q214 Sz214 Ng214 Hs214 Gs214 rfl W215 2 rfl (Nat.le_of_ble_eq_true rfl)
          have N215 := Fr.snoc X215 N201 g_ar
          obtain ⟨T216, h216, X216, e216, W216, st216⟩ := putF X215 hx hZ hown (host := "") (Or.inl (hw _ (List.mem_of_getElem? (i := 17) rfl))) Via.refl e215 Fs Ea (Or.inl (hw _ (List.mem_of_getElem? (i := 18) rfl))) (hw _ (List.mem_of_getElem? (i := 1) rfl)) (ty := .int) (by decide) rfl rfl (g := (mkF m 131 #[.val (.ref a1), .val (.double dx), .second, .val (.double hi2), .second, .val (.int (3 : Int32)), .val (.int (3 : Int32)), .val (.double (own_snd hi1 q2)), .second, .val (.double hi2), .second, .val (.double lo2), .second] [(.int (3 : Int32)), (.ref a1)])) rfl rfl (hb hby d_prog_8_2_131)
          replace Ea := Ea.wr W216
          replace Fp := Fp.other W216 (Or.inr (slot_ne (Or.inl (hw _ (List.mem_of_getElem? (i := 11) rfl))) (Or.inl (hw _ (List.mem_of_getElem? (i := 18) rfl))) (by decide) (t := (.array .double)) (t' := .int) (by decide) (by decide)))
          replace Va := Va.other W216 (Ne.symm hne)
          have Zs216 := Nat.le_trans Zs215 (Keep.of_wr W216).1
          replace KK := KK.wr W216 (Or.inl (by simp))
          replace Fs := Fs.same W216
          have N216 := Fr.snoc X216 N215 g_a1
          obtain ⟨fs, hr, hrun, hended, hW, hsame⟩ := X216.leave (v := none) (fun _ => rfl) hlk
          refine ⟨_, _, ?_, hrun, hended, _, _, rfl, ?_, ⟨_, rfl⟩, hW, hsame.mono (by decide) (by decide)⟩
          · refine hA0 _ ?_
            refine k209 _ ?_
            refine own_f_ifYes X206.here hx (hb hby d_prog_8_2_68) ((if0 _ _).trans (teq (hz2)).1) (by decide) (by decide : _ = 83) ?_
            refine own_f_dload X206.here hx (hb hby d_prog_8_2_83) rfl (rfl : _ = 85) ?_
            refine own_f_dstoreN X206.here hx (hb hby d_prog_8_2_85) (rfl : storeLocals _ _ _ = some #[.val (.ref a1), .val (.double dx), .second, .val (.double hi2), .second, .val (.int (2 : Int32)), .val (.int (2 : Int32)), .val (.double (own_snd hi1 q2)), .second, .val (.double hi2), .second, .val (.double lo2), .second]) (rfl : _ = 86) ?_
            refine own_f_iinc X206.here hx (hb hby d_prog_8_2_86) rfl (rfl : storeLocals _ _ _ = some #[.val (.ref a1), .val (.double dx), .second, .val (.double hi2), .second, .val (.int (2 : Int32)), .val (.int (3 : Int32)), .val (.double (own_snd hi1 q2)), .second, .val (.double hi2), .second, .val (.double lo2), .second]) (rfl : _ = 89) ?_
            refine own_f_goto X206.here hx (hb hby d_prog_8_2_89) (by decide) (by decide : _ = 8) ?_
            refine own_f_iload X206.here hx (hb hby d_prog_8_2_8) rfl (rfl : _ = 10) ?_
            refine own_f_aloadN X206.here hx (hb hby d_prog_8_2_10) rfl rfl (rfl : _ = 11) ?_
            refine st210 _ ?_
            show Steps p.tables e below (T210.setTop (mkF m 14 #[.val (.ref a1), .val (.double dx), .second, .val (.double hi2), .second, .val (.int (2 : Int32)), .val (.int (3 : Int32)), .val (.double (own_snd hi1 q2)), .second, .val (.double hi2), .second, .val (.double lo2), .second] [(.int (3 : Int32)), (.int (3 : Int32))])) _
            refine own_f_icmpYes X210.here hx (hb hby d_prog_8_2_14) (flt (by decide)).2.1 (by decide) (by decide : _ = 92) ?_
            refine own_f_iload X210.here hx (hb hby d_prog_8_2_92) rfl (rfl : _ = 94) ?_
            refine own_f_aloadN X210.here hx (hb hby d_prog_8_2_94) rfl rfl (rfl : _ = 95) ?_
            refine st211 _ ?_
            show Steps p.tables e below (T211.setTop (mkF m 98 #[.val (.ref a1), .val (.double dx), .second, .val (.double hi2), .second, .val (.int (2 : Int32)), .val (.int (3 : Int32)), .val (.double (own_snd hi1 q2)), .second, .val (.double hi2), .second, .val (.double lo2), .second] [(.ref ar), (.int (2 : Int32))])) _
            refine X211.arraylength hx (by rw [e211]; exact Ar212.1) (State.isArrayOf_alike hZ.alike Ar212.2.1) (g := (mkF m 98 #[.val (.ref a1), .val (.double dx), .second, .val (.double hi2), .second, .val (.int (2 : Int32)), .val (.int (3 : Int32)), .val (.double (own_snd hi1 q2)), .second, .val (.double hi2), .second, .val (.double lo2), .second] [(.ref ar), (.int (2 : Int32))])) rfl rfl (hb hby d_prog_8_2_98) _ ?_
            rw [len_of Sz212 Ng212]
            show Steps p.tables e below (T211.setTop (mkF m 99 #[.val (.ref a1), .val (.double dx), .second, .val (.double hi2), .second, .val (.int (2 : Int32)), .val (.int (3 : Int32)), .val (.double (own_snd hi1 q2)), .second, .val (.double hi2), .second, .val (.double lo2), .second] [(.int (4 : Int32)), (.int (2 : Int32))])) _
            refine own_f_icmpYes X211.here hx (hb hby d_prog_8_2_99) (feq (by decide)).2 (by decide) (by decide : _ = 117) ?_
            refine own_f_aloadN X211.here hx (hb hby d_prog_8_2_117) rfl rfl (rfl : _ = 118) ?_
            refine st213 _ ?_
            show Steps p.tables e below (T213.setTop (mkF m 121 #[.val (.ref a1), .val (.double dx), .second, .val (.double hi2), .second, .val (.int (2 : Int32)), .val (.int (3 : Int32)), .val (.double (own_snd hi1 q2)), .second, .val (.double hi2), .second, .val (.double lo2), .second] [(.ref ar)])) _
            refine own_f_iload X213.here hx (hb hby d_prog_8_2_121) rfl (rfl : _ = 123) ?_
            refine own_f_iinc X213.here hx (hb hby d_prog_8_2_123) rfl (rfl : storeLocals _ _ _ = some #[.val (.ref a1), .val (.double dx), .second, .val (.double hi2), .second, .val (.int (3 : Int32)), .val (.int (3 : Int32)), .val (.double (own_snd hi1 q2)), .second, .val (.double hi2), .second, .val (.double lo2), .second]) (rfl : _ = 126) ?_
            refine own_f_dloadN X213.here hx (hb hby d_prog_8_2_126) rfl (rfl : _ = 127) ?_
            refine st215 _ ?_
            show Steps p.tables e below (T215.setTop (mkF m 128 #[.val (.ref a1), .val (.double dx), .second, .val (.double hi2), .second, .val (.int (3 : Int32)), .val (.int (3 : Int32)), .val (.double (own_snd hi1 q2)), .second, .val (.double hi2), .second, .val (.double lo2), .second] [])) _
            refine own_f_aloadN X215.here hx (hb hby d_prog_8_2_128) rfl rfl (rfl : _ = 129) ?_
            refine own_f_iload X215.here hx (hb hby d_prog_8_2_129) rfl (rfl : _ = 131) ?_
            refine st216 _ ?_
            show Steps p.tables e below (T216.setTop (mkF m 134 #[.val (.ref a1), .val (.double dx), .second, .val (.double hi2), .second, .val (.int (3 : Int32)), .val (.int (3 : Int32)), .val (.double (own_snd hi1 q2)), .second, .val (.double hi2), .second, .val (.double lo2), .second] [])) _
            exact X216.returnOut hx Bd.returns (hb hby d_prog_8_2_134) hr
          · show Q2 Z a1 dx _ ar kc q0 q1 q2 q3 _ h0 n0 _ T216.heap _
            rw [e216]
            exact ⟨(3 : Int32), lo0, lo1, hi2, q3, rfl, N216, KK, Fp, Fs, Va, own_res (M := [lo0, lo1, hi2]) (by rw [own_ins_c hlo0 hhi0 hz0, own_ins_c hlo1 hhi1 hz1, own_ins_d hlo2 hhi2 hz2]; rfl) (by show Int32.toInt 3 = ((3 : Nat) : Int); decide) rfl⟩
        · obtain ⟨T217, X217, e217, st217⟩ := getF X206 hx hZ hown (host := "") (Or.inl (hw _ (List.mem_of_getElem? (i := 10) rfl))) Via.refl e206 Fp (g := (mkF m 72 #[.val (.ref a1), .val (.double dx), .second, .val (.double (own_fst hi1 q2)), .second, .val (.int (2 : Int32)), .val (.int (2 : Int32)), .val (.double (own_snd hi1 q2)), .second, .val (.double hi2), .second, .val (.double lo2), .second] [(.ref a1)])) rfl rfl (hb hby d_prog_8_2_72)
          obtain ⟨cl218, Ar218, q218, Sz218, Ng218, Hs218, Gs218⟩ := Va
          have hin218 : ¬ ((2 : Int32) < 0 ∨ cl218.slots.size ≤ ((2 : Int32)).toNatClampNeg) := inb_of Sz218 ⟨by decide, by decide⟩
          obtain ⟨T219, h219, X219, e219, W219, st219⟩ := stD X217 hx hZ e217 Ar218 (j := (2 : Int32)) hin218 (g := (mkF m 82 #[.val (.ref a1), .val (.double dx), .second, .val (.double (own_fst hi1 q2)), .second, .val (.int (3 : Int32)), .val (.int (2 : Int32)), .val (.double (own_snd hi1 q2)), .second, .val (.double hi2), .second, .val (.double lo2), .second] [(.double lo2), (.int (2 : Int32)), (.ref ar)])) rfl rfl (hb hby d_prog_8_2_82)
          replace Ea := Ea.wr W219
          replace Fp := Fp.other W219 (Or.inl hne)
          replace Fs := Fs.other W219 (Or.inl hne)
          have Zs219 := Nat.le_trans Zs201 (Keep.of_wr W219).1
          replace KK := KK.wr W219 (Or.inl (by simp))
          have Va : Arv Z h219 ar kc .double (4 : Int32) [(.double lo0), (.double lo1), (.double lo2), (.double q3)] (.double (0 : UInt64)) := Arv.set Ar218 q218 Sz218 Ng218 Hs218 Gs218 rfl W219 2 rfl (Nat.le_of_ble_eq_true rfl)
          have N219 := Fr.snoc X219 N201 g_ar
          obtain ⟨T220, X220, e220, st220⟩ := getF X219 hx hZ hown (host := "") (Or.inl (hw _ (List.mem_of_getElem? (i := 17) rfl))) Via.refl e219 Fs (g := (mkF m 11 #[.val (.ref a1), .val (.double dx), .second, .val (.double hi2), .second, .val (.int (3 : Int32)), .val (.int (3 : Int32)), .val (.double (own_snd hi1 q2)), .second, .val (.double hi2), .second, .val (.double lo2), .second] [(.ref a1), (.int (3 : Int32))])) rfl rfl (hb hby d_prog_8_2_11)
          obtain ⟨T221, X221, e221, st221⟩ := getF X220 hx hZ hown (host := "") (Or.inl (hw _ (List.mem_of_getElem? (i := 10) rfl))) Via.refl e220 Fp (g := (mkF m 95 #[.val (.ref a1), .val (.double dx), .second, .val (.double hi2), .second, .val (.int (3 : Int32)), .val (.int (3 : Int32)), .val (.double (own_snd hi1 q2)), .second, .val (.double hi2), .second, .val (.double lo2), .second] [(.ref a1), (.int (3 : Int32))])) rfl rfl (hb hby d_prog_8_2_95)
          obtain ⟨cl222, Ar222, -, Sz222, Ng222, -, -⟩ := id Va
          obtain ⟨T223, X223, e223, st223⟩ := getF X221 hx hZ hown (host := "") (Or.inl (hw _ (List.mem_of_getElem? (i := 10) rfl))) Via.refl e221 Fp (g := (mkF m 118 #[.val (.ref a1), .val (.double dx), .second, .val (.double hi2), .second, .val (.int (3 : Int32)), .val (.int (3 : Int32)), .val (.double (own_snd hi1 q2)), .second, .val (.double hi2), .second, .val (.double lo2), .second] [(.ref a1)])) rfl rfl (hb hby d_prog_8_2_118)
          obtain ⟨cl224, Ar224, q224, Sz224, Ng224, Hs224, Gs224⟩ := Va
          have hin224 : ¬ ((3 : Int32) < 0 ∨ cl224.slots.size ≤ ((3 : Int32)).toNatClampNeg) := inb_of Sz224 ⟨by decide, by decide⟩
          obtain ⟨T225, h225, X225, e225, W225, st225⟩ := stD X223 hx hZ e223 Ar224 (j := (3 : Int32)) hin224 (g := (mkF m 127 #[.val (.ref a1), .val (.double dx), .second, .val (.double hi2), .second, .val (.int (4 : Int32)), .val (.int (3 : Int32)), .val (.double (own_snd hi1 q2)), .second, .val (.double hi2), .second, .val (.double lo2), .second] [(.double hi2), (.int (3 : Int32)), (.ref ar)])) rfl rfl (hb hby d_prog_8_2_127)
          replace Ea := Ea.wr W225
          replace Fp := Fp.other W225 (Or.inl hne)
          replace Fs := Fs.other W225 (Or.inl hne)
          have Zs225 := Nat.le_trans Zs219 (Keep.of_wr W225).1
          replace KK := KK.wr W225 (Or.inl (by simp))
          have Va : Arv Z h225 ar kc .double (4 : Int32) [(.double lo0), (.double lo1), (.double lo2), (.double hi2)] (.double (0 : UInt64)) := Arv.set Ar224 q224 Sz224 Ng224 Hs224 Gs224 rfl W225 3 rfl (Nat.le_of_ble_eq_true rfl)
          have N225 := Fr.snoc X225 N219 g_ar
          obtain ⟨T226, h226, X226, e226, W226, st226⟩ := putF X225 hx hZ hown (host := "") (Or.inl (hw _ (List.mem_of_getElem? (i := 17) rfl))) Via.refl e225 Fs Ea (Or.inl (hw _ (List.mem_of_getElem? (i := 18) rfl))) (hw _ (List.mem_of_getElem? (i := 1) rfl)) (ty := .int) (by decide) rfl rfl (g := (mkF m 131 #[.val (.ref a1), .val (.double dx), .second, .val (.double hi2), .second, .val (.int (4 : Int32)), .val (.int (3 : Int32)), .val (.double (own_snd hi1 q2)), .second, .val (.double hi2), .second, .val (.double lo2), .second] [(.int (4 : Int32)), (.ref a1)])) rfl rfl (hb hby d_prog_8_2_131)
          replace Ea := Ea.wr W226
          replace Fp := Fp.other W226 (Or.inr (slot_ne (Or.inl (hw _ (List.mem_of_getElem? (i := 11) rfl))) (Or.inl (hw _ (List.mem_of_getElem? (i := 18) rfl))) (by decide) (t := (.array .double)) (t' := .int) (by decide) (by decide)))
          replace Va := Va.other W226 (Ne.symm hne)
          have Zs226 := Nat.le_trans Zs225 (Keep.of_wr W226).1
          replace KK := KK.wr W226 (Or.inl (by simp))
          replace Fs := Fs.same W226
          have N226 := Fr.snoc X226 N225 g_a1
          obtain ⟨fs, hr, hrun, hended, hW, hsame⟩ := X226.leave (v := none) (fun _ => rfl) hlk
          refine ⟨_, _, ?_, hrun, hended, _, _, rfl, ?_, ⟨_, rfl⟩, hW, hsame.mono (by decide) (by decide)⟩
          · refine hA0 _ ?_
            refine k209 _ ?_
            refine own_f_ifNo X206.here hx (hb hby d_prog_8_2_68) ((if0 _ _).trans (feq (hz2)).1) (rfl : _ = 71) ?_
            refine own_f_aloadN X206.here hx (hb hby d_prog_8_2_71) rfl rfl (rfl : _ = 72) ?_
            refine st217 _ ?_
            show Steps p.tables e below (T217.setTop (mkF m 75 #[.val (.ref a1), .val (.double dx), .second, .val (.double (own_fst hi1 q2)), .second, .val (.int (2 : Int32)), .val (.int (2 : Int32)), .val (.double (own_snd hi1 q2)), .second, .val (.double hi2), .second, .val (.double lo2), .second] [(.ref ar)])) _
            refine own_f_iload X217.here hx (hb hby d_prog_8_2_75) rfl (rfl : _ = 77) ?_
            refine own_f_iinc X217.here hx (hb hby d_prog_8_2_77) rfl (rfl : storeLocals _ _ _ = some #[.val (.ref a1), .val (.double dx), .second, .val (.double (own_fst hi1 q2)), .second, .val (.int (3 : Int32)), .val (.int (2 : Int32)), .val (.double (own_snd hi1 q2)), .second, .val (.double hi2), .second, .val (.double lo2), .second]) (rfl : _ = 80) ?_
            refine own_f_dload X217.here hx (hb hby d_prog_8_2_80) rfl (rfl : _ = 82) ?_
            refine st219 _ ?_
            show Steps p.tables e below (T219.setTop (mkF m 83 #[.val (.ref a1), .val (.double dx), .second, .val (.double (own_fst hi1 q2)), .second, .val (.int (3 : Int32)), .val (.int (2 : Int32)), .val (.double (own_snd hi1 q2)), .second, .val (.double hi2), .second, .val (.double lo2), .second] [])) _
            refine own_f_dload X219.here hx (hb hby d_prog_8_2_83) rfl (rfl : _ = 85) ?_
            refine own_f_dstoreN X219.here hx (hb hby d_prog_8_2_85) (rfl : storeLocals _ _ _ = some #[.val (.ref a1), .val (.double dx), .second, .val (.double hi2), .second, .val (.int (3 : Int32)), .val (.int (2 : Int32)), .val (.double (own_snd hi1 q2)), .second, .val (.double hi2), .second, .val (.double lo2), .second]) (rfl : _ = 86) ?_
            refine own_f_iinc X219.here hx (hb hby d_prog_8_2_86) rfl (rfl : storeLocals _ _ _ = some #[.val (.ref a1), .val (.double dx), .second, .val (.double hi2), .second, .val (.int (3 : Int32)), .val (.int (3 : Int32)), .val (.double (own_snd hi1 q2)), .second, .val (.double hi2), .second, .val (.double lo2), .second]) (rfl : _ = 89) ?_
            refine own_f_goto X219.here hx (hb hby d_prog_8_2_89) (by decide) (by decide : _ = 8) ?_
            refine own_f_iload X219.here hx (hb hby d_prog_8_2_8) rfl (rfl : _ = 10) ?_
            refine own_f_aloadN X219.here hx (hb hby d_prog_8_2_10) rfl rfl (rfl : _ = 11) ?_
            refine st220 _ ?_
            show Steps p.tables e below (T220.setTop (mkF m 14 #[.val (.ref a1), .val (.double dx), .second, .val (.double hi2), .second, .val (.int (3 : Int32)), .val (.int (3 : Int32)), .val (.double (own_snd hi1 q2)), .second, .val (.double hi2), .second, .val (.double lo2), .second] [(.int (3 : Int32)), (.int (3 : Int32))])) _
            refine own_f_icmpYes X220.here hx (hb hby d_prog_8_2_14) (flt (by decide)).2.1 (by decide) (by decide : _ = 92) ?_
            refine own_f_iload X220.here hx (hb hby d_prog_8_2_92) rfl (rfl : _ = 94) ?_
            refine own_f_aloadN X220.here hx (hb hby d_prog_8_2_94) rfl rfl (rfl : _ = 95) ?_
            refine st221 _ ?_
            show Steps p.tables e below (T221.setTop (mkF m 98 #[.val (.ref a1), .val (.double dx), .second, .val (.double hi2), .second, .val (.int (3 : Int32)), .val (.int (3 : Int32)), .val (.double (own_snd hi1 q2)), .second, .val (.double hi2), .second, .val (.double lo2), .second] [(.ref ar), (.int (3 : Int32))])) _
            refine X221.arraylength hx (by rw [e221]; exact Ar222.1) (State.isArrayOf_alike hZ.alike Ar222.2.1) (g := (mkF m 98 #[.val (.ref a1), .val (.double dx), .second, .val (.double hi2), .second, .val (.int (3 : Int32)), .val (.int (3 : Int32)), .val (.double (own_snd hi1 q2)), .second, .val (.double hi2), .second, .val (.double lo2), .second] [(.ref ar), (.int (3 : Int32))])) rfl rfl (hb hby d_prog_8_2_98) _ ?_
            rw [len_of Sz222 Ng222]
            show Steps p.tables e below (T221.setTop (mkF m 99 #[.val (.ref a1), .val (.double dx), .second, .val (.double hi2), .second, .val (.int (3 : Int32)), .val (.int (3 : Int32)), .val (.double (own_snd hi1 q2)), .second, .val (.double hi2), .second, .val (.double lo2), .second] [(.int (4 : Int32)), (.int (3 : Int32))])) _
            refine own_f_icmpYes X221.here hx (hb hby d_prog_8_2_99) (feq (by decide)).2 (by decide) (by decide : _ = 117) ?_
            refine own_f_aloadN X221.here hx (hb hby d_prog_8_2_117) rfl rfl (rfl : _ = 118) ?_
            refine st223 _ ?_
            show Steps p.tables e below (T223.setTop (mkF m 121 #[.val (.ref a1), .val (.double dx), .second, .val (.double hi2), .second, .val (.int (3 : Int32)), .val (.int (3 : Int32)), .val (.double (own_snd hi1 q2)), .second, .val (.double hi2), .second, .val (.double lo2), .second] [(.ref ar)])) _
            refine own_f_iload X223.here hx (hb hby d_prog_8_2_121) rfl (rfl : _ = 123) ?_
            refine own_f_iinc X223.here hx (hb hby d_prog_8_2_123) rfl (rfl : storeLocals _ _ _ = some #[.val (.ref a1), .val (.double dx), .second, .val (.double hi2), .second, .val (.int (4 : Int32)), .val (.int (3 : Int32)), .val (.double (own_snd hi1 q2)), .second, .val (.double hi2), .second, .val (.double lo2), .second]) (rfl : _ = 126) ?_
            refine own_f_dloadN X223.here hx (hb hby d_prog_8_2_126) rfl (rfl : _ = 127) ?_
            refine st225 _ ?_
            show Steps p.tables e below (T225.setTop (mkF m 128 #[.val (.ref a1), .val (.double dx), .second, .val (.double hi2), .second, .val (.int (4 : Int32)), .val (.int (3 : Int32)), .val (.double (own_snd hi1 q2)), .second, .val (.double hi2), .second, .val (.double lo2), .second] [])) _
            refine own_f_aloadN X225.here hx (hb hby d_prog_8_2_128) rfl rfl (rfl : _ = 129) ?_
            refine own_f_iload X225.here hx (hb hby d_prog_8_2_129) rfl (rfl : _ = 131) ?_
            refine st226 _ ?_
            show Steps p.tables e below (T226.setTop (mkF m 134 #[.val (.ref a1), .val (.double dx), .second, .val (.double hi2), .second, .val (.int (4 : Int32)), .val (.int (3 : Int32)), .val (.double (own_snd hi1 q2)), .second, .val (.double hi2), .second, .val (.double lo2), .second] [])) _
            exact X226.returnOut hx Bd.returns (hb hby d_prog_8_2_134) hr
          · show Q2 Z a1 dx _ ar kc q0 q1 q2 q3 _ h0 n0 _ T226.heap _
            rw [e226]
            exact ⟨(4 : Int32), lo0, lo1, lo2, hi2, rfl, N226, KK, Fp, Fs, Va, own_res (M := [lo0, lo1, lo2, hi2]) (by rw [own_ins_c hlo0 hhi0 hz0, own_ins_c hlo1 hhi1 hz1, own_ins_c hlo2 hhi2 hz2]; rfl) (by show Int32.toInt 4 = ((4 : Nat) : Int); decide) rfl⟩
theorem ef_3 (m : MethodId) (x0 : Addr) (x1 : Int32) : entryFrame m #[(.ref x0), (.int x1)] 3 = mkF m 0 #[.val (.ref x0), .val (.int x1), .unset] [] := by first | (simp [entryFrame, mkF, argsToLocals, Value.category]; done) | rfl
def Q3 (Z : State) (ar : Addr) (p2 : Int32) (kc : ClassId) (q0 : UInt64) (q1 : UInt64) (q2 : UInt64) (q3 : UInt64) (h0 : Heap) (n0 : Nat) (v : Option Value) (h : Heap) (L : List Loc) : Prop := ∃ (cr : Addr), v = some (.ref cr) ∧ Fr n0 L ∧ Keep h0 h [] ∧ Arv Z h cr kc .double (4 : Int32) [.double q0, .double q1, .double q2, .double q3] (.double (0 : UInt64)) ∧ Exa Z h cr "[D" ∧ h0.size ≤ cr
set_option maxRecDepth 65536 in
set_option maxHeartbeats 40000000 in
theorem rm3 (l : Launch) (Z : State) (a0 : Array Value) (hw : ∀ d ∈ tables_1, d.before a0 Z = true) (ws : List Jvm.Cond) (ar : Addr) (p2 : Int32) (kc : ClassId) (q0 : UInt64) (q1 : UInt64) (q2 : UInt64) (q3 : UInt64) (h0 : Heap) (n0 : Nat) (Z0 : n0 ≤ h0.size) (Va : Arv Z h0 ar kc .double (4 : Int32) [.double q0, .double q1, .double q2, .double q3] (.double (0 : UInt64))) (Ear : Exa Z h0 ar "[D") (hp2 : p2 = (4 : Int32)) :
    MetFree l (⟨"java/util/Arrays", "copyOf", "([DI)[D"⟩ : MethodName) (head1 (Jvm.Cond.code (⟨"java/util/Arrays", "copyOf", "([DI)[D"⟩ : MethodName) jdk_65_method_127_code 3 (some (.array .double)) :: ws) ({ frames := 1, cells := 1, slots := 4, locals := 14 } : Room)) (fun a U => a = #[(.ref ar), (.int p2)] ∧ Z.Warmed39 U.vm ∧ U.heap = h0) (fun _ _ _ _ _ => True) (fun _ U o U' => ∃ v L, o = .returned v ∧ Q3 Z ar p2 kc q0 q1 q2 q3 h0 n0 v U'.heap L ∧ FrameEnd U o U' L ({ frames := 1, cells := 1, slots := 4, locals := 14 } : Room).cells ({ frames := 1, cells := 1, slots := 4, locals := 14 } : Room).slots) := by
  refine MetFree.of_bodySF (plainFor_of_name pn_1) hisR ?_
  intro p e s m args below meth c s₁ Bd hml0 hP hK
  obtain ⟨rfl, hZ, hh⟩ := hP
  have hlk : meth.locks = false := BodyLoose.notSynchronized Bd
  have hx := Bd.exec
  have hby := Bd.bytes
  have hml : c.maxLocals = 3 := hml0
  have hown : s.vm.findClass "java/util/Arrays" = some m.cls := findClass_of_methodNamed Bd.named
  have hnm := (name_of_methodNamed Bd.named Bd.method).1
  have X0 : Stand p l e ({ frames := 1, cells := 1, slots := 4, locals := 14 } : Room) s m #[(.ref ar), (.int p2)] below meth c s₁ [] 0 0 := Stand.of_body Bd
  have e0 : s₁.heap = h0 := by rw [← hh, Bd.state]; rfl
  have N0 := Fr.nil n0
  obtain ⟨A, hA⟩ : ∃ A, A = s₁.setTop (mkF m 0 #[.val (.ref ar), .val (.int p2), .unset] []) := ⟨_, rfl⟩
  have hA0 : ∀ t, Steps p.tables e below A t → Steps p.tables e below (s₁.setTop (entryFrame m #[(.ref ar), (.int p2)] 3)) t := fun t k => castTop (ef_3 m ar p2) (hA ▸ k)
  have k0 : ∀ t, Steps p.tables e below (s₁.setTop (mkF m 0 #[.val (.ref ar), .val (.int p2), .unset] [])) t → Steps p.tables e below A t := fun t k => hA ▸ k
  have KK : Keep h0 h0 [] := Keep.refl h0 []
  obtain ⟨cl1, Ar1, -, Sz1, Ng1, -, -⟩ := id Va
  obtain ⟨T2, h2, X2, e2, E2, A2, B2, st2⟩ := cloneH X0 hx hZ hown (hw _ (List.mem_of_getElem? (i := 34) rfl)) (hw _ (List.mem_of_getElem? (i := 35) rfl)) (hw _ (List.mem_of_getElem? (i := 39) rfl)) (hw _ (List.mem_of_getElem? (i := 37) rfl)) (hw _ (List.mem_of_getElem? (i := 38) rfl)) (hw _ (List.mem_of_getElem? (i := 40) rfl)) e0 Va.arh Ear (g := (mkF m 7 #[.val (.ref ar), .val (.int p2), .unset] [(.ref ar)])) rfl (by rw [hml]; rfl) rfl (hb hby d_jdk_65_127_7) (by decide) (W := 0) (cap := 4) (by show 2 * 0 + _ ≤ _; exact Nat.le_of_eq rfl) (by decide) (by decide) (by decide) (by decide)
  obtain ⟨b2, g2⟩ : ∃ z, z = h0.size := ⟨_, rfl⟩
  rw [← g2] at A2 B2 st2
  have ne_ar_b2 : ar ≠ b2 := Nat.ne_of_lt (Nat.lt_of_lt_of_le Ear.lt (Nat.le_of_eq g2.symm))
  have g_b2 : n0 ≤ b2 := Nat.le_trans Z0 (Nat.le_of_eq g2.symm)
  have sz_b2 : h0.size ≤ b2 := Nat.le_trans KK.1 (Nat.le_of_eq g2.symm)
  replace Ear := Ear.ext E2
  replace Va := Va.ext E2
  have Zs2 := Nat.le_trans Z0 E2.1
  replace KK := KK.ext E2
  have V_b2 : Arv Z h2 b2 kc .double (4 : Int32) [(.double q0), (.double q1), (.double q2), (.double q3)] (.double (0 : UInt64)) := A2
  have Ex_b2 := B2
  obtain ⟨T3, X3, e3, st3⟩ := castY X2 hx hZ hown (hw _ (List.mem_of_getElem? (i := 41) rfl)) e2 (Ins.self Ex_b2) (g := (mkF m 10 #[.val (.ref ar), .val (.int p2), .unset] [(.ref b2)])) rfl rfl (hb hby d_jdk_65_127_10)
  obtain ⟨fs, hr, hrun, hended, hW, hsame⟩ := X3.leave (v := some (.ref b2)) (fun h => by rw [Bd.returns] at h; cases h) hlk
  refine ⟨_, _, ?_, hrun, hended, _, _, rfl, ?_, ⟨_, rfl⟩, hW, hsame.mono (by decide) (by decide)⟩
  · refine hA0 _ ?_
    refine k0 _ ?_
    refine own_f_iloadN X0.here hx (hb hby d_jdk_65_127_0) rfl (rfl : _ = 1) ?_
    refine own_f_aloadN X0.here hx (hb hby d_jdk_65_127_1) rfl rfl (rfl : _ = 2) ?_
    refine X0.arraylength hx (by rw [e0]; exact Ar1.1) (State.isArrayOf_alike hZ.alike Ar1.2.1) (g := (mkF m 2 #[.val (.ref ar), .val (.int p2), .unset] [(.ref ar), (.int p2)])) rfl rfl (hb hby d_jdk_65_127_2) _ ?_
    rw [len_of Sz1 Ng1]
    show Steps p.tables e below (s₁.setTop (mkF m 3 #[.val (.ref ar), .val (.int p2), .unset] [(.int (4 : Int32)), (.int p2)])) _
    refine own_f_icmpNo X0.here hx (hb hby d_jdk_65_127_3) (teq (hp2)).2 (rfl : _ = 6) ?_
    refine own_f_aloadN X0.here hx (hb hby d_jdk_65_127_6) rfl rfl (rfl : _ = 7) ?_
    refine st2 _ ?_
    show Steps p.tables e below (T2.setTop (mkF m 10 #[.val (.ref ar), .val (.int p2), .unset] [(.ref b2)])) _
    refine st3 _ ?_
    show Steps p.tables e below (T3.setTop (mkF m 13 #[.val (.ref ar), .val (.int p2), .unset] [(.ref b2)])) _
    exact X3.areturnOut hx rfl Bd.returns rfl (hb hby d_jdk_65_127_13) hr
  · show Q3 Z ar p2 kc q0 q1 q2 q3 h0 n0 _ T3.heap _
    rw [e3]
    exact ⟨b2, rfl, N0, KK, V_b2, Ex_b2, sz_b2⟩
theorem ef_4 (m : MethodId) (x0 : Addr) : entryFrame m #[(.ref x0)] 2 = mkF m 0 #[.val (.ref x0), .unset] [] := by first | (simp [entryFrame, mkF, argsToLocals, Value.category]; done) | rfl
def Q4 (Z : State) (a1 : Addr) (k1 : Int32) (ar : Addr) (kc : ClassId) (q0 : UInt64) (q1 : UInt64) (q2 : UInt64) (q3 : UInt64) (h0 : Heap) (n0 : Nat) (v : Option Value) (h : Heap) (L : List Loc) : Prop := ∃ (co : Addr) (cr : Addr), v = some (.ref co) ∧ Fr n0 L ∧ Keep h0 h [] ∧ Exa Z h co "com/example/prose_to_query/prosetoquery/retrieval/ExactSum" ∧ Fld Z h co "com/example/prose_to_query/prosetoquery/retrieval/ExactSum" "partials" "[D" (.ref cr) ∧ Fld Z h co "com/example/prose_to_query/prosetoquery/retrieval/ExactSum" "size" "I" (.int k1) ∧ Arv Z h cr kc .double (4 : Int32) [.double q0, .double q1, .double q2, .double q3] (.double (0 : UInt64)) ∧ Exa Z h cr "[D" ∧ h0.size ≤ co ∧ h0.size ≤ cr ∧ co ≠ cr
set_option maxRecDepth 65536 in
set_option maxHeartbeats 40000000 in
theorem rm4 (l : Launch) (Z : State) (a0 : Array Value) (hw : ∀ d ∈ tables_1, d.before a0 Z = true) (ws : List Jvm.Cond) (a1 : Addr) (k1 : Int32) (ar : Addr) (kc : ClassId) (q0 : UInt64) (q1 : UInt64) (q2 : UInt64) (q3 : UInt64) (h0 : Heap) (n0 : Nat) (Z0 : n0 ≤ h0.size) (Fp : Fld Z h0 a1 "com/example/prose_to_query/prosetoquery/retrieval/ExactSum" "partials" "[D" (.ref ar)) (Fs : Fld Z h0 a1 "com/example/prose_to_query/prosetoquery/retrieval/ExactSum" "size" "I" (.int k1)) (Va : Arv Z h0 ar kc .double (4 : Int32) [.double q0, .double q1, .double q2, .double q3] (.double (0 : UInt64))) (Ear : Exa Z h0 ar "[D") :
    MetFree l (⟨"com/example/prose_to_query/prosetoquery/retrieval/ExactSum", "copy", "()Lcom/example/prose_to_query/prosetoquery/retrieval/ExactSum;"⟩ : MethodName) (head1 (Jvm.Cond.code (⟨"com/example/prose_to_query/prosetoquery/retrieval/ExactSum", "copy", "()Lcom/example/prose_to_query/prosetoquery/retrieval/ExactSum;"⟩ : MethodName) prog_8_method_5_code 2 (some (.object "com/example/prose_to_query/prosetoquery/retrieval/ExactSum")) :: ws) ({ frames := 2, cells := 3, slots := 10, locals := 29 } : Room)) (fun a U => a = #[(.ref a1)] ∧ Z.Warmed39 U.vm ∧ U.heap = h0) (fun _ _ _ _ _ => True) (fun _ U o U' => ∃ v L, o = .returned v ∧ Q4 Z a1 k1 ar kc q0 q1 q2 q3 h0 n0 v U'.heap L ∧ FrameEnd U o U' L ({ frames := 2, cells := 3, slots := 10, locals := 29 } : Room).cells ({ frames := 2, cells := 3, slots := 10, locals := 29 } : Room).slots) := by
  refine MetFree.of_bodySF (plainFor_of_name pn_0) hisR ?_
  intro p e s m args below meth c s₁ Bd hml0 hP hK
  obtain ⟨rfl, hZ, hh⟩ := hP
  have hlk : meth.locks = false := BodyLoose.notSynchronized Bd
  have hx := Bd.exec
  have hby := Bd.bytes
  have hml : c.maxLocals = 2 := hml0
  have hown : s.vm.findClass "com/example/prose_to_query/prosetoquery/retrieval/ExactSum" = some m.cls := findClass_of_methodNamed Bd.named
  have hnm := (name_of_methodNamed Bd.named Bd.method).1
  have X0 : Stand p l e ({ frames := 2, cells := 3, slots := 10, locals := 29 } : Room) s m #[(.ref a1)] below meth c s₁ [] 0 0 := Stand.of_body Bd
  have e0 : s₁.heap = h0 := by rw [← hh, Bd.state]; rfl
  have N0 := Fr.nil n0
  obtain ⟨A, hA⟩ : ∃ A, A = s₁.setTop (mkF m 0 #[.val (.ref a1), .unset] []) := ⟨_, rfl⟩
  have hA0 : ∀ t, Steps p.tables e below A t → Steps p.tables e below (s₁.setTop (entryFrame m #[(.ref a1)] 2)) t := fun t k => castTop (ef_4 m a1) (hA ▸ k)
  have k0 : ∀ t, Steps p.tables e below (s₁.setTop (mkF m 0 #[.val (.ref a1), .unset] [])) t → Steps p.tables e below A t := fun t k => hA ▸ k
  have KK : Keep h0 h0 [] := Keep.refl h0 []
  obtain ⟨T1, h1, X1, e1, E1, A1, D1, -, st1⟩ := newO X0 hx hZ hown (hw _ (List.mem_of_getElem? (i := 28) rfl)) (hw _ (List.mem_of_getElem? (i := 1) rfl)) (hw _ (List.mem_of_getElem? (i := 2) rfl)) e0 (g := (mkF m 0 #[.val (.ref a1), .unset] [])) rfl (hb hby d_prog_8_5_0) (by decide) (by decide)
  obtain ⟨b1, g1⟩ : ∃ z, z = h0.size := ⟨_, rfl⟩
  rw [← g1] at A1 D1 st1
  have ne_a1_b1 : a1 ≠ b1 := Nat.ne_of_lt (Nat.lt_of_lt_of_le Fp.lt (Nat.le_of_eq g1.symm))
  have ne_ar_b1 : ar ≠ b1 := Nat.ne_of_lt (Nat.lt_of_lt_of_le Ear.lt (Nat.le_of_eq g1.symm))
  have g_b1 : n0 ≤ b1 := Nat.le_trans Z0 (Nat.le_of_eq g1.symm)
  have sz_b1 : h0.size ≤ b1 := Nat.le_trans KK.1 (Nat.le_of_eq g1.symm)
  replace Fp := Fp.ext E1
  replace Fs := Fs.ext E1
  replace Ear := Ear.ext E1
  replace Va := Va.ext E1
  have Zs1 := Nat.le_trans Z0 E1.1
  replace KK := KK.ext E1
  have Ex_b1 := A1
  have F_partials_b1 : Fld Z h1 b1 "com/example/prose_to_query/prosetoquery/retrieval/ExactSum" "partials" "[D" .null := D1 (Or.inl (hw _ (List.mem_of_getElem? (i := 11) rfl))) (ty := (.array .double)) (by decide)
  have F_size_b1 : Fld Z h1 b1 "com/example/prose_to_query/prosetoquery/retrieval/ExactSum" "size" "I" (.int (0 : Int32)) := D1 (Or.inl (hw _ (List.mem_of_getElem? (i := 18) rfl))) (ty := .int) (by decide)
  obtain ⟨_, _, ⟨T2, L2, k2_, n2⟩, -, X2, ⟨Lc2, hQ2, l2, y2, z2⟩, st2⟩ := X1.specialBack hx (y := (⟨"com/example/prose_to_query/prosetoquery/retrieval/ExactSum", "<init>", "()V"⟩ : MethodName)) rfl hown (mvT hZ (hw _ (List.mem_of_getElem? (i := 29) rfl))) (mvT hZ (hw _ (List.mem_of_getElem? (i := 4) rfl))) (mvT hZ (hw _ (List.mem_of_getElem? (i := 5) rfl))) (by decide) (backOf (W := 1) (rm1 l Z a0 hw [] b1 _ h1 n0 Zs1 Ex_b1 F_partials_b1 F_size_b1 g_b1) hZ (hw _ (List.mem_of_getElem? (i := 5) rfl)) (hw _ (List.mem_of_getElem? (i := 2) rfl)) (by decide) (by decide)) (g := (mkF m 4 #[.val (.ref a1), .unset] [(.ref b1), (.ref b1)])) rfl (by rw [hml]; rfl) (Steps.refl _) (a := b1) (argsL := []) (rest := [(.ref b1)]) (lenOf pd_1 rfl) rfl (by show 2 * 0 + _ ≤ _; exact Nat.le_of_eq rfl) (hb hby d_prog_8_5_4) (fun _ _ => ⟨rfl, e1, (by decide : 1 + 1 ≤ _), (by decide : 2 + 4 ≤ _)⟩)
  dsimp only [Pt.U, Pt.locs, Pt.cells, Pt.slots] at X2 l2 y2 z2 st2 hQ2
  subst l2 y2 z2
  obtain ⟨ar0, kc0, rfl, Nq2, K1, Fq, Fz, Vz, Ez, Gz⟩ := hQ2
  have N2 := Fr.app N0 Nq2
  replace Fp := Fp.keep K1 (by simpa using ne_a1_b1)
  replace Fs := Fs.keep K1 (by simpa using ne_a1_b1)
  replace Ear := Ear.keep K1
  replace Va := Va.keep K1 (by simpa using ne_ar_b1)
  replace Ex_b1 := Ex_b1.keep K1
  have Zs2 := Nat.le_trans Zs1 K1.1
  replace KK := KK.trans K1 (fun x q => by cases List.mem_singleton.mp q; exact Or.inr sz_b1)
  obtain ⟨T3, X3, e3, st3⟩ := getF X2 hx hZ hown (host := "") (Or.inl (hw _ (List.mem_of_getElem? (i := 10) rfl))) Via.refl rfl Fp (g := (mkF m 10 #[.val (.ref a1), .val (.ref b1)] [(.ref a1), (.ref b1)])) rfl rfl (hb hby d_prog_8_5_10)
  obtain ⟨T4, X4, e4, st4⟩ := getF X3 hx hZ hown (host := "") (Or.inl (hw _ (List.mem_of_getElem? (i := 10) rfl))) Via.refl e3 Fp (g := (mkF m 14 #[.val (.ref a1), .val (.ref b1)] [(.ref a1), (.ref ar), (.ref b1)])) rfl rfl (hb hby d_prog_8_5_14)
  obtain ⟨cl5, Ar5, -, Sz5, Ng5, -, -⟩ := id Va
  obtain ⟨_, _, ⟨T6, L6, k6_, n6⟩, -, X6, ⟨Lc6, hQ6, l6, y6, z6⟩, st6⟩ := Jvm.LawKit.callS X4 hx (y := (⟨"java/util/Arrays", "copyOf", "([DI)[D"⟩ : MethodName)) hown (mvT hZ (hw _ (List.mem_of_getElem? (i := 30) rfl))) (mvT hZ (hw _ (List.mem_of_getElem? (i := 31) rfl))) (mvT hZ (hw _ (List.mem_of_getElem? (i := 32) rfl))) (mvT hZ (hw _ (List.mem_of_getElem? (i := 33) rfl))) (by decide) (backOf (W := 1) (rm3 l Z a0 hw [] ar (4 : Int32) kc q0 q1 q2 q3 T2.heap n0 Zs2 Va Ear rfl) hZ (hw _ (List.mem_of_getElem? (i := 33) rfl)) (hw _ (List.mem_of_getElem? (i := 32) rfl)) (by decide) (by decide)) (g := (mkF m 18 #[.val (.ref a1), .val (.ref b1)] [(.int (4 : Int32)), (.ref ar), (.ref b1)])) rfl (by rw [hml]; rfl) (argsL := [(.ref ar), (.int (4 : Int32))]) (rest := [(.ref b1)]) (lenOf pd_2 rfl) rfl (by show 2 * 0 + _ ≤ _; exact Nat.le_of_eq rfl) (hb hby d_prog_8_5_18) (fun _ _ => ⟨rfl, e4, (by decide : 2 + 1 ≤ _), (by decide : 6 + 4 ≤ _)⟩)
  dsimp only [Pt.U, Pt.locs, Pt.cells, Pt.slots] at X6 l6 y6 z6 st6 hQ6
  subst l6 y6 z6
  obtain ⟨cr, rfl, Nq6, K2, Vc, Ec, Gc⟩ := hQ6
  have N6 := Fr.app N2 Nq6
  have ne_b1_cr : b1 ≠ cr := Nat.ne_of_lt (Nat.lt_of_lt_of_le Ex_b1.lt Gc)
  have sz_cr : h0.size ≤ cr := Nat.le_trans KK.1 Gc
  replace Fp := Fp.keep K2 (by simp)
  replace Fs := Fs.keep K2 (by simp)
  replace Ear := Ear.keep K2
  replace Va := Va.keep K2 (by simp)
  replace Ex_b1 := Ex_b1.keep K2
  replace Fq := Fq.keep K2 (by simp)
  replace Fz := Fz.keep K2 (by simp)
  have Zs6 := Nat.le_trans Zs2 K2.1
  replace KK := KK.trans K2 (fun x q => nomatch q)
  obtain ⟨T7, h7, X7, e7, W7, st7⟩ := putF X6 hx hZ hown (host := "") (Or.inl (hw _ (List.mem_of_getElem? (i := 10) rfl))) Via.refl rfl Fq Ex_b1 (Or.inl (hw _ (List.mem_of_getElem? (i := 11) rfl))) (hw _ (List.mem_of_getElem? (i := 1) rfl)) (ty := (.array .double)) (by decide) rfl rfl (g := (mkF m 21 #[.val (.ref a1), .val (.ref b1)] [(.ref cr), (.ref b1)])) rfl rfl (hb hby d_prog_8_5_21)
  replace Fp := Fp.other W7 (Or.inl ne_a1_b1)
  replace Fs := Fs.other W7 (Or.inl ne_a1_b1)
  replace Ear := Ear.wr W7
  replace Va := Va.other W7 ne_ar_b1
  replace Ex_b1 := Ex_b1.wr W7
  replace Fz := Fz.other W7 (Or.inr (slot_ne (Or.inl (hw _ (List.mem_of_getElem? (i := 18) rfl))) (Or.inl (hw _ (List.mem_of_getElem? (i := 11) rfl))) (by decide) (t := .int) (t' := (.array .double)) (by decide) (by decide)))
  replace Ec := Ec.wr W7
  replace Vc := Vc.other W7 (Ne.symm ne_b1_cr)
  have Zs7 := Nat.le_trans Zs6 (Keep.of_wr W7).1
  replace KK := KK.wr W7 (Or.inr sz_b1)
  replace Fq := Fq.same W7
  have N7 := Fr.snoc X7 N6 g_b1
  obtain ⟨T8, X8, e8, st8⟩ := getF X7 hx hZ hown (host := "") (Or.inl (hw _ (List.mem_of_getElem? (i := 17) rfl))) Via.refl e7 Fs (g := (mkF m 26 #[.val (.ref a1), .val (.ref b1)] [(.ref a1), (.ref b1)])) rfl rfl (hb hby d_prog_8_5_26)
  obtain ⟨T9, h9, X9, e9, W9, st9⟩ := putF X8 hx hZ hown (host := "") (Or.inl (hw _ (List.mem_of_getElem? (i := 17) rfl))) Via.refl e8 Fz Ex_b1 (Or.inl (hw _ (List.mem_of_getElem? (i := 18) rfl))) (hw _ (List.mem_of_getElem? (i := 1) rfl)) (ty := .int) (by decide) rfl rfl (g := (mkF m 29 #[.val (.ref a1), .val (.ref b1)] [(.int k1), (.ref b1)])) rfl rfl (hb hby d_prog_8_5_29)
  replace Fp := Fp.other W9 (Or.inl ne_a1_b1)
  replace Fs := Fs.other W9 (Or.inl ne_a1_b1)
  replace Ear := Ear.wr W9
  replace Va := Va.other W9 ne_ar_b1
  replace Ex_b1 := Ex_b1.wr W9
  replace Fq := Fq.other W9 (Or.inr (slot_ne (Or.inl (hw _ (List.mem_of_getElem? (i := 11) rfl))) (Or.inl (hw _ (List.mem_of_getElem? (i := 18) rfl))) (by decide) (t := (.array .double)) (t' := .int) (by decide) (by decide)))
  replace Ec := Ec.wr W9
  replace Vc := Vc.other W9 (Ne.symm ne_b1_cr)
  have Zs9 := Nat.le_trans Zs7 (Keep.of_wr W9).1
  replace KK := KK.wr W9 (Or.inr sz_b1)
  replace Fz := Fz.same W9
  have N9 := Fr.snoc X9 N7 g_b1
  obtain ⟨fs, hr, hrun, hended, hW, hsame⟩ := X9.leave (v := some (.ref b1)) (fun h => by rw [Bd.returns] at h; cases h) hlk
  refine ⟨_, _, ?_, hrun, hended, _, _, rfl, ?_, ⟨_, rfl⟩, hW, hsame.mono (by decide) (by decide)⟩
  · refine hA0 _ ?_
    refine k0 _ ?_
    refine st1 _ ?_
    show Steps p.tables e below (T1.setTop (mkF m 3 #[.val (.ref a1), .unset] [(.ref b1)])) _
    refine own_f_dup X1.here hx (hb hby d_prog_8_5_3) rfl (rfl : _ = 4) ?_
    refine st2.trans ?_
    show Steps p.tables e below (T2.setTop (mkF m 7 #[.val (.ref a1), .unset] [(.ref b1)])) _
    refine own_f_astoreN X2.here hx (hb hby d_prog_8_5_7) rfl (rfl : storeLocals _ _ _ = some #[.val (.ref a1), .val (.ref b1)]) (rfl : _ = 8) ?_
    refine own_f_aloadN X2.here hx (hb hby d_prog_8_5_8) rfl rfl (rfl : _ = 9) ?_
    refine own_f_aloadN X2.here hx (hb hby d_prog_8_5_9) rfl rfl (rfl : _ = 10) ?_
    refine st3 _ ?_
    show Steps p.tables e below (T3.setTop (mkF m 13 #[.val (.ref a1), .val (.ref b1)] [(.ref ar), (.ref b1)])) _
    refine own_f_aloadN X3.here hx (hb hby d_prog_8_5_13) rfl rfl (rfl : _ = 14) ?_
    refine st4 _ ?_
    show Steps p.tables e below (T4.setTop (mkF m 17 #[.val (.ref a1), .val (.ref b1)] [(.ref ar), (.ref ar), (.ref b1)])) _
    refine X4.arraylength hx (by rw [e4]; exact Ar5.1) (State.isArrayOf_alike hZ.alike Ar5.2.1) (g := (mkF m 17 #[.val (.ref a1), .val (.ref b1)] [(.ref ar), (.ref ar), (.ref b1)])) rfl rfl (hb hby d_prog_8_5_17) _ ?_
    rw [len_of Sz5 Ng5]
    show Steps p.tables e below (T4.setTop (mkF m 18 #[.val (.ref a1), .val (.ref b1)] [(.int (4 : Int32)), (.ref ar), (.ref b1)])) _
    refine st6 _ ?_
    show Steps p.tables e below (T6.setTop (mkF m 21 #[.val (.ref a1), .val (.ref b1)] [(.ref cr), (.ref b1)])) _
    refine st7 _ ?_
    show Steps p.tables e below (T7.setTop (mkF m 24 #[.val (.ref a1), .val (.ref b1)] [])) _
    refine own_f_aloadN X7.here hx (hb hby d_prog_8_5_24) rfl rfl (rfl : _ = 25) ?_
    refine own_f_aloadN X7.here hx (hb hby d_prog_8_5_25) rfl rfl (rfl : _ = 26) ?_
    refine st8 _ ?_
    show Steps p.tables e below (T8.setTop (mkF m 29 #[.val (.ref a1), .val (.ref b1)] [(.int k1), (.ref b1)])) _
    refine st9 _ ?_
    show Steps p.tables e below (T9.setTop (mkF m 32 #[.val (.ref a1), .val (.ref b1)] [])) _
    refine own_f_aloadN X9.here hx (hb hby d_prog_8_5_32) rfl rfl (rfl : _ = 33) ?_
    exact X9.areturnOut hx rfl Bd.returns rfl (hb hby d_prog_8_5_33) hr
  · show Q4 Z a1 k1 ar kc q0 q1 q2 q3 h0 n0 _ T9.heap _
    rw [e9]
    exact ⟨b1, cr, rfl, N9, KK, Ex_b1, Fq, Fz, Vc, Ec, sz_b1, sz_cr, ne_b1_cr⟩
theorem ef_5 (m : MethodId) (x0 : Addr) : entryFrame m #[(.ref x0)] 10 = mkF m 0 #[.val (.ref x0), .unset, .unset, .unset, .unset, .unset, .unset, .unset, .unset, .unset] [] := by first | (simp [entryFrame, mkF, argsToLocals, Value.category]; done) | rfl
def Q5 (Z : State) (a1 : Addr) (ar : Addr) (kc : ClassId) (q0 : UInt64) (q1 : UInt64) (q2 : UInt64) (q3 : UInt64) (h0 : Heap) (n0 : Nat) (v : Option Value) (h : Heap) (L : List Loc) : Prop := v = some (.double q0) ∧ Fr n0 L ∧ h = h0
set_option maxRecDepth 65536 in
set_option maxHeartbeats 40000000 in
theorem rm5 (l : Launch) (Z : State) (a0 : Array Value) (hw : ∀ d ∈ tables_1, d.before a0 Z = true) (ws : List Jvm.Cond) (a1 : Addr) (ar : Addr) (kc : ClassId) (q0 : UInt64) (q1 : UInt64) (q2 : UInt64) (q3 : UInt64) (h0 : Heap) (n0 : Nat) (Z0 : n0 ≤ h0.size) (Fp : Fld Z h0 a1 "com/example/prose_to_query/prosetoquery/retrieval/ExactSum" "partials" "[D" (.ref ar)) (Fs : Fld Z h0 a1 "com/example/prose_to_query/prosetoquery/retrieval/ExactSum" "size" "I" (.int (1 : Int32))) (Va : Arv Z h0 ar kc .double (4 : Int32) [.double q0, .double q1, .double q2, .double q3] (.double (0 : UInt64))) :
    MetFree l (⟨"com/example/prose_to_query/prosetoquery/retrieval/ExactSum", "value", "()D"⟩ : MethodName) (head1 (Jvm.Cond.code (⟨"com/example/prose_to_query/prosetoquery/retrieval/ExactSum", "value", "()D"⟩ : MethodName) prog_8_method_4_code 10 (some .double) :: ws) ({ frames := 0, cells := 0, slots := 0, locals := 0 } : Room)) (fun a U => a = #[(.ref a1)] ∧ Z.Warmed39 U.vm ∧ U.heap = h0) (fun _ _ _ _ _ => True) (fun _ U o U' => ∃ v L, o = .returned v ∧ Q5 Z a1 ar kc q0 q1 q2 q3 h0 n0 v U'.heap L ∧ FrameEnd U o U' L ({ frames := 0, cells := 0, slots := 0, locals := 0 } : Room).cells ({ frames := 0, cells := 0, slots := 0, locals := 0 } : Room).slots) := by
  refine MetFree.of_bodySF (plainFor_of_name pn_0) hisR ?_
  intro p e s m args below meth c s₁ Bd hml0 hP hK
  obtain ⟨rfl, hZ, hh⟩ := hP
  have hlk : meth.locks = false := BodyLoose.notSynchronized Bd
  have hx := Bd.exec
  have hby := Bd.bytes
  have hml : c.maxLocals = 10 := hml0
  have hown : s.vm.findClass "com/example/prose_to_query/prosetoquery/retrieval/ExactSum" = some m.cls := findClass_of_methodNamed Bd.named
  have hnm := (name_of_methodNamed Bd.named Bd.method).1
  have X0 : Stand p l e ({ frames := 0, cells := 0, slots := 0, locals := 0 } : Room) s m #[(.ref a1)] below meth c s₁ [] 0 0 := Stand.of_body Bd
  have e0 : s₁.heap = h0 := by rw [← hh, Bd.state]; rfl
  have N0 := Fr.nil n0
  obtain ⟨A, hA⟩ : ∃ A, A = s₁.setTop (mkF m 0 #[.val (.ref a1), .unset, .unset, .unset, .unset, .unset, .unset, .unset, .unset, .unset] []) := ⟨_, rfl⟩
  have hA0 : ∀ t, Steps p.tables e below A t → Steps p.tables e below (s₁.setTop (entryFrame m #[(.ref a1)] 10)) t := fun t k => castTop (ef_5 m a1) (hA ▸ k)
  have k0 : ∀ t, Steps p.tables e below (s₁.setTop (mkF m 0 #[.val (.ref a1), .unset, .unset, .unset, .unset, .unset, .unset, .unset, .unset, .unset] [])) t → Steps p.tables e below A t := fun t k => hA ▸ k
  obtain ⟨T1, X1, e1, st1⟩ := getF X0 hx hZ hown (host := "") (Or.inl (hw _ (List.mem_of_getElem? (i := 17) rfl))) Via.refl e0 Fs (g := (mkF m 1 #[.val (.ref a1), .unset, .unset, .unset, .unset, .unset, .unset, .unset, .unset, .unset] [(.ref a1)])) rfl rfl (hb hby d_prog_8_4_1)
  obtain ⟨T2, X2, e2, st2⟩ := getF X1 hx hZ hown (host := "") (Or.inl (hw _ (List.mem_of_getElem? (i := 17) rfl))) Via.refl e1 Fs (g := (mkF m 10 #[.val (.ref a1), .unset, .unset, .unset, .unset, .unset, .unset, .unset, .unset, .unset] [(.ref a1)])) rfl rfl (hb hby d_prog_8_4_10)
  obtain ⟨T3, X3, e3, st3⟩ := getF X2 hx hZ hown (host := "") (Or.inl (hw _ (List.mem_of_getElem? (i := 10) rfl))) Via.refl e2 Fp (g := (mkF m 17 #[.val (.ref a1), .val (.int (0 : Int32)), .unset, .unset, .unset, .unset, .unset, .unset, .unset, .unset] [(.ref a1)])) rfl rfl (hb hby d_prog_8_4_17)
  obtain ⟨cl4, Ar4, -, Sz4, Ng4, Hs4, -⟩ := id Va
  have hin4 : ¬ ((0 : Int32) < 0 ∨ cl4.slots.size ≤ ((0 : Int32)).toNatClampNeg) := inb_of Sz4 ⟨by decide, by decide⟩
  have hat4 : cl4.slots[((0 : Int32)).toNatClampNeg]? = some (.double q0) := Hs4 _ (Nat.lt_of_not_le fun q => hin4 (Or.inr q))
  obtain ⟨fs, hr, hrun, hended, hW, hsame⟩ := X3.leave (v := some (.double q0)) (fun h => by rw [Bd.returns] at h; cases h) hlk
  refine ⟨_, _, ?_, hrun, hended, _, _, rfl, ?_, ⟨_, rfl⟩, hW, hsame.mono (by decide) (by decide)⟩
  · refine hA0 _ ?_
    refine k0 _ ?_
    refine own_f_aloadN X0.here hx (hb hby d_prog_8_4_0) rfl rfl (rfl : _ = 1) ?_
    refine st1 _ ?_
    show Steps p.tables e below (T1.setTop (mkF m 4 #[.val (.ref a1), .unset, .unset, .unset, .unset, .unset, .unset, .unset, .unset, .unset] [(.int (1 : Int32))])) _
    refine own_f_ifYes X1.here hx (hb hby d_prog_8_4_4) ((if0 _ _).trans (feq (by decide)).2) (by decide) (by decide : _ = 9) ?_
    refine own_f_aloadN X1.here hx (hb hby d_prog_8_4_9) rfl rfl (rfl : _ = 10) ?_
    refine st2 _ ?_
    show Steps p.tables e below (T2.setTop (mkF m 13 #[.val (.ref a1), .unset, .unset, .unset, .unset, .unset, .unset, .unset, .unset, .unset] [(.int (1 : Int32))])) _
    refine own_f_iconst X2.here hx (hb hby d_prog_8_4_13) (rfl : _ = (1 : Int32)) (rfl : _ = 14) ?_
    refine own_f_isub X2.here hx (hb hby d_prog_8_4_14) (rfl : _ = (0 : Int32)) (rfl : _ = 15) ?_
    refine own_f_istoreN X2.here hx (hb hby d_prog_8_4_15) (rfl : storeLocals _ _ _ = some #[.val (.ref a1), .val (.int (0 : Int32)), .unset, .unset, .unset, .unset, .unset, .unset, .unset, .unset]) (rfl : _ = 16) ?_
    refine own_f_aloadN X2.here hx (hb hby d_prog_8_4_16) rfl rfl (rfl : _ = 17) ?_
    refine st3 _ ?_
    show Steps p.tables e below (T3.setTop (mkF m 20 #[.val (.ref a1), .val (.int (0 : Int32)), .unset, .unset, .unset, .unset, .unset, .unset, .unset, .unset] [(.ref ar)])) _
    refine own_f_iloadN X3.here hx (hb hby d_prog_8_4_20) rfl (rfl : _ = 21) ?_
    refine X3.daload hx (j := (0 : Int32)) (v := (.double q0)) (by rw [e3]; exact Ar4.1) (State.isArrayOf_alike hZ.alike Ar4.2.1) Ar4.2.2 hin4 hat4 (g := (mkF m 21 #[.val (.ref a1), .val (.int (0 : Int32)), .unset, .unset, .unset, .unset, .unset, .unset, .unset, .unset] [(.int (0 : Int32)), (.ref ar)])) rfl rfl (hb hby d_prog_8_4_21) _ ?_
    show Steps p.tables e below (T3.setTop (mkF m 22 #[.val (.ref a1), .val (.int (0 : Int32)), .unset, .unset, .unset, .unset, .unset, .unset, .unset, .unset] [(.double q0)])) _
    refine own_f_dstoreN X3.here hx (hb hby d_prog_8_4_22) (rfl : storeLocals _ _ _ = some #[.val (.ref a1), .val (.int (0 : Int32)), .val (.double q0), .second, .unset, .unset, .unset, .unset, .unset, .unset]) (rfl : _ = 23) ?_
    refine own_f_dconst0 X3.here hx (hb hby d_prog_8_4_23) (rfl : _ = (0 : UInt64)) (rfl : _ = 24) ?_
    refine own_f_dstore X3.here hx (hb hby d_prog_8_4_24) (rfl : storeLocals _ _ _ = some #[.val (.ref a1), .val (.int (0 : Int32)), .val (.double q0), .second, .val (.double (0 : UInt64)), .second, .unset, .unset, .unset, .unset]) (rfl : _ = 26) ?_
    refine own_f_iloadN X3.here hx (hb hby d_prog_8_4_26) rfl (rfl : _ = 27) ?_
    refine own_f_ifYes X3.here hx (hb hby d_prog_8_4_27) ((if0 _ _).trans (flt (by decide)).2.2.2) (by decide) (by decide : _ = 72) ?_
    refine own_f_iloadN X3.here hx (hb hby d_prog_8_4_72) rfl (rfl : _ = 73) ?_
    refine own_f_ifYes X3.here hx (hb hby d_prog_8_4_73) ((if0 _ _).trans (flt (by decide)).2.2.2) (by decide) (by decide : _ = 143) ?_
    refine own_f_dloadN X3.here hx (hb hby d_prog_8_4_143) rfl (rfl : _ = 144) ?_
    exact retD X3 hx Bd.returns (hb hby d_prog_8_4_144) hr
  · show Q5 Z a1 ar kc q0 q1 q2 q3 h0 n0 _ T3.heap _
    rw [e3]
    exact ⟨rfl, N0, rfl⟩
theorem ef_0 (m : MethodId) (x0 : Int32) (x1 : Int32) (x2 : Int32) (x3 : Int32) (x4 : Int32) : entryFrame m #[(.int x0), (.int x1), (.int x2), (.int x3), (.int x4)] maxLocals = mkF m 0 #[.val (.int x0), .val (.int x1), .val (.int x2), .val (.int x3), .val (.int x4), .unset, .unset, .unset, .unset, .unset, .unset, .unset, .unset, .unset, .unset, .unset, .unset, .unset, .unset, .unset, .unset, .unset, .unset] [] := by first | (simp [entryFrame, mkF, argsToLocals, Value.category, maxLocals]; done) | rfl
def Q0 (Z : State) (p1 : Int32) (p2 : Int32) (p3 : Int32) (p4 : Int32) (p5 : Int32) (h0 : Heap) (n0 : Nat) (v : Option Value) (h : Heap) (L : List Loc) : Prop := v = some (.int (1 : Int32)) ∧ Fr n0 L
set_option maxRecDepth 65536 in
set_option maxHeartbeats 40000000 in
theorem rm0 (l : Launch) (Z : State) (a0 : Array Value) (hw : ∀ d ∈ tables_1, d.before a0 Z = true) (ws : List Jvm.Cond) (p1 : Int32) (p2 : Int32) (p3 : Int32) (p4 : Int32) (p5 : Int32) (h0 : Heap) (n0 : Nat) (Z0 : n0 ≤ h0.size) :
    MetFree l x (head1 (Jvm.Cond.code x code maxLocals ret :: ws) room_1) (fun a U => a = #[(.int p1), (.int p2), (.int p3), (.int p4), (.int p5)] ∧ Z.Warmed39 U.vm ∧ U.heap = h0) (fun _ _ _ _ _ => True) (fun _ U o U' => ∃ v L, o = .returned v ∧ Q0 Z p1 p2 p3 p4 p5 h0 n0 v U'.heap L ∧ FrameEnd U o U' L room_1.cells room_1.slots) := by
  refine MetFree.of_bodySF (plainFor_of_name pn_2) hisR ?_
  intro p e s m args below meth c s₁ Bd hml0 hP hK
  obtain ⟨rfl, hZ, hh⟩ := hP
  have hlk : meth.locks = false := BodyLoose.notSynchronized Bd
  have hx := Bd.exec
  have hby := Bd.bytes
  have hml : c.maxLocals = 23 := hml0
  have hown : s.vm.findClass "com/example/prose_to_query/prosetoquery/retrieval/ExactSumCopyPinLaw" = some m.cls := findClass_of_methodNamed Bd.named
  have hnm := (name_of_methodNamed Bd.named Bd.method).1
  have X0 : Stand p l e room_1 s m #[(.int p1), (.int p2), (.int p3), (.int p4), (.int p5)] below meth c s₁ [] 0 0 := Stand.of_body Bd
  have e0 : s₁.heap = h0 := by rw [← hh, Bd.state]; rfl
  have N0 := Fr.nil n0
  obtain ⟨A, hA⟩ : ∃ A, A = s₁.setTop (mkF m 0 #[.val (.int p1), .val (.int p2), .val (.int p3), .val (.int p4), .val (.int p5), .unset, .unset, .unset, .unset, .unset, .unset, .unset, .unset, .unset, .unset, .unset, .unset, .unset, .unset, .unset, .unset, .unset, .unset] []) := ⟨_, rfl⟩
  have hA0 : ∀ t, Steps p.tables e below A t → Steps p.tables e below (s₁.setTop (entryFrame m #[(.int p1), (.int p2), (.int p3), (.int p4), (.int p5)] maxLocals)) t := fun t k => castTop (ef_0 m p1 p2 p3 p4 p5) (hA ▸ k)
  have k0 : ∀ t, Steps p.tables e below (s₁.setTop (mkF m 0 #[.val (.int p1), .val (.int p2), .val (.int p3), .val (.int p4), .val (.int p5), .unset, .unset, .unset, .unset, .unset, .unset, .unset, .unset, .unset, .unset, .unset, .unset, .unset, .unset, .unset, .unset, .unset, .unset] [])) t → Steps p.tables e below A t := fun t k => hA ▸ k
  have k1 : ∀ t_, Steps p.tables e below (s₁.setTop (mkF m 4 #[.val (.int p1), .val (.int p2), .val (.int p3), .val (.int p4), .val (.int p5), .unset, .unset, .unset, .unset, .unset, .unset, .unset, .unset, .unset, .unset, .unset, .unset, .unset, .unset, .unset, .unset, .unset, .unset] [(.int (p5 &&& (1 : Int32)))])) t_ → Steps p.tables e below A t_ := by
    intro t_ ht_
    refine k0 t_ ?_
    refine own_f_iload X0.here hx (hb hby at_0) rfl (rfl : _ = 2) ?_
    refine own_f_iconst X0.here hx (hb hby at_2) (rfl : _ = (1 : Int32)) (rfl : _ = 3) ?_
    refine own_f_iand X0.here hx (hb hby at_3) rfl (rfl : _ = 4) ?_
    exact ht_
  obtain ⟨bg0, hbg0, k2⟩ : ∃ z : UInt64, (((p5 &&& (1 : Int32)) = (0 : Int32)) ∧ z = (0 : UInt64) ∨ ¬ ((p5 &&& (1 : Int32)) = (0 : Int32)) ∧ z = (4850376798678024192 : UInt64)) ∧ ∀ t_, Steps p.tables e below (s₁.setTop (mkF m 14 #[.val (.int p1), .val (.int p2), .val (.int p3), .val (.int p4), .val (.int p5), .unset, .unset, .unset, .unset, .unset, .unset, .unset, .unset, .unset, .unset, .unset, .unset, .unset, .unset, .unset, .unset, .unset, .unset] [(.double z)])) t_ → Steps p.tables e below A t_ := by
    by_cases hf0 : (p5 &&& (1 : Int32)) = (0 : Int32)
    · refine ⟨(0 : UInt64), Or.inl ⟨hf0, rfl⟩, fun t_ ht_ => ?_⟩
      refine k1 t_ ?_
      refine own_f_ifYes X0.here hx (hb hby at_4) ((if0 _ _).trans (teq (hf0)).1) (by decide) (by decide : _ = 13) ?_
      refine own_f_dconst0 X0.here hx (hb hby at_13) (rfl : _ = (0 : UInt64)) (rfl : _ = 14) ?_
      exact ht_
    · refine ⟨(4850376798678024192 : UInt64), Or.inr ⟨hf0, rfl⟩, fun t_ ht_ => ?_⟩
      refine k1 t_ ?_
      refine own_f_ifNo X0.here hx (hb hby at_4) ((if0 _ _).trans (feq (hf0)).1) (rfl : _ = 7) ?_
      refine own_f_ldc2DoubleC X0 hx hown (mvT hZ (hw _ (List.mem_of_getElem? (i := 48) rfl))) (hb hby at_7) (rfl : _ = 10) ?_
      refine own_f_goto X0.here hx (hb hby at_10) (by decide) (by decide : _ = 14) ?_
      exact ht_
  obtain ⟨B0, hB0, rB0⟩ := own_bg0 hbg0
  have rN0 := own_neg54 rB0 (by omega)
  have k3 : ∀ t_, Steps p.tables e below (s₁.setTop (mkF m 20 #[.val (.int p1), .val (.int p2), .val (.int p3), .val (.int p4), .val (.int p5), .val (.double bg0), .second, .unset, .unset, .unset, .unset, .unset, .unset, .unset, .unset, .unset, .unset, .unset, .unset, .unset, .unset, .unset, .unset] [(.int (p5 &&& (2 : Int32)))])) t_ → Steps p.tables e below A t_ := by
    intro t_ ht_
    refine k2 t_ ?_
    refine own_f_dstore X0.here hx (hb hby at_14) (rfl : storeLocals _ _ _ = some #[.val (.int p1), .val (.int p2), .val (.int p3), .val (.int p4), .val (.int p5), .val (.double bg0), .second, .unset, .unset, .unset, .unset, .unset, .unset, .unset, .unset, .unset, .unset, .unset, .unset, .unset, .unset, .unset, .unset]) (rfl : _ = 16) ?_
    refine own_f_iload X0.here hx (hb hby at_16) rfl (rfl : _ = 18) ?_
    refine own_f_iconst X0.here hx (hb hby at_18) (rfl : _ = (2 : Int32)) (rfl : _ = 19) ?_
    refine own_f_iand X0.here hx (hb hby at_19) rfl (rfl : _ = 20) ?_
    exact ht_
  obtain ⟨bg, hbg, k4⟩ : ∃ z : UInt64, (((p5 &&& (2 : Int32)) = (0 : Int32)) ∧ z = bg0 ∨ ¬ ((p5 &&& (2 : Int32)) = (0 : Int32)) ∧ z = (FP.dsub (0 : UInt64) bg0)) ∧ ∀ t_, Steps p.tables e below (s₁.setTop (mkF m 29 #[.val (.int p1), .val (.int p2), .val (.int p3), .val (.int p4), .val (.int p5), .val (.double z), .second, .unset, .unset, .unset, .unset, .unset, .unset, .unset, .unset, .unset, .unset, .unset, .unset, .unset, .unset, .unset, .unset] [])) t_ → Steps p.tables e below A t_ := by
    by_cases hf1 : (p5 &&& (2 : Int32)) = (0 : Int32)
    · refine ⟨bg0, Or.inl ⟨hf1, rfl⟩, fun t_ ht_ => ?_⟩
      refine k3 t_ ?_
      refine own_f_ifYes X0.here hx (hb hby at_20) ((if0 _ _).trans (teq (hf1)).1) (by decide) (by decide : _ = 29) ?_
      exact ht_
    · refine ⟨(FP.dsub (0 : UInt64) bg0), Or.inr ⟨hf1, rfl⟩, fun t_ ht_ => ?_⟩
      refine k3 t_ ?_
      refine own_f_ifNo X0.here hx (hb hby at_20) ((if0 _ _).trans (feq (hf1)).1) (rfl : _ = 23) ?_
      refine own_f_dconst0 X0.here hx (hb hby at_23) (rfl : _ = (0 : UInt64)) (rfl : _ = 24) ?_
      refine own_f_dload X0.here hx (hb hby at_24) rfl (rfl : _ = 26) ?_
      refine own_f_dsub X0.here hx (hb hby at_26) (own_noNaN rN0) rfl (rfl : _ = 27) ?_
      refine own_f_dstore X0.here hx (hb hby at_27) (rfl : storeLocals _ _ _ = some #[.val (.int p1), .val (.int p2), .val (.int p3), .val (.int p4), .val (.int p5), .val (.double (FP.dsub (0 : UInt64) bg0)), .second, .unset, .unset, .unset, .unset, .unset, .unset, .unset, .unset, .unset, .unset, .unset, .unset, .unset, .unset, .unset, .unset]) (rfl : _ = 29) ?_
      exact ht_
  obtain ⟨B, hB, rB⟩ : ∃ B : Int, (B = 0 ∨ B = 18014398509481984 ∨ B = -18014398509481984) ∧ own_Rep bg B 1074 := by
    rcases hbg with ⟨-, rfl⟩ | ⟨-, rfl⟩
    · exact ⟨B0, by omega, rB0⟩
    · exact ⟨-B0, by omega, rN0⟩
  have rN := own_neg54 rB hB
  have k5 : ∀ t_, Steps p.tables e below (s₁.setTop (mkF m 35 #[.val (.int p1), .val (.int p2), .val (.int p3), .val (.int p4), .val (.int p5), .val (.double bg), .second, .val (.double (FP.dsub (0 : UInt64) bg)), .second, .unset, .unset, .unset, .unset, .unset, .unset, .unset, .unset, .unset, .unset, .unset, .unset, .unset, .unset] [])) t_ → Steps p.tables e below A t_ := by
    intro t_ ht_
    refine k4 t_ ?_
    refine own_f_dconst0 X0.here hx (hb hby at_29) (rfl : _ = (0 : UInt64)) (rfl : _ = 30) ?_
    refine own_f_dload X0.here hx (hb hby at_30) rfl (rfl : _ = 32) ?_
    refine own_f_dsub X0.here hx (hb hby at_32) (own_noNaN rN) rfl (rfl : _ = 33) ?_
    refine own_f_dstore X0.here hx (hb hby at_33) (rfl : storeLocals _ _ _ = some #[.val (.int p1), .val (.int p2), .val (.int p3), .val (.int p4), .val (.int p5), .val (.double bg), .second, .val (.double (FP.dsub (0 : UInt64) bg)), .second, .unset, .unset, .unset, .unset, .unset, .unset, .unset, .unset, .unset, .unset, .unset, .unset, .unset, .unset]) (rfl : _ = 35) ?_
    exact ht_
  obtain ⟨nb, hnb⟩ : ∃ z : UInt64, z = (FP.dsub (0 : UInt64) bg) := ⟨_, rfl⟩
  rw [← hnb] at k5
  rw [← hnb] at rN
  have k6 : ∀ t_, Steps p.tables e below (s₁.setTop (mkF m 42 #[.val (.int p1), .val (.int p2), .val (.int p3), .val (.int p4), .val (.int p5), .val (.double bg), .second, .val (.double nb), .second, .val (.long ((p1 >>> ((8 : Int32) &&& 31)).toInt64)), .second, .unset, .unset, .unset, .unset, .unset, .unset, .unset, .unset, .unset, .unset, .unset, .unset] [])) t_ → Steps p.tables e below A t_ := by
    intro t_ ht_
    refine k5 t_ ?_
    refine own_f_iloadN X0.here hx (hb hby at_35) rfl (rfl : _ = 36) ?_
    refine own_f_bipush X0.here hx (hb hby at_36) (rfl : _ = (8 : Int32)) (rfl : _ = 38) ?_
    refine own_f_ishr X0.here hx (hb hby at_38) (rfl : _ = 39) ?_
    refine own_f_i2l X0.here hx (hb hby at_39) (rfl : _ = 40) ?_
    refine own_f_lstore X0.here hx (hb hby at_40) (rfl : storeLocals _ _ _ = some #[.val (.int p1), .val (.int p2), .val (.int p3), .val (.int p4), .val (.int p5), .val (.double bg), .second, .val (.double nb), .second, .val (.long ((p1 >>> ((8 : Int32) &&& 31)).toInt64)), .second, .unset, .unset, .unset, .unset, .unset, .unset, .unset, .unset, .unset, .unset, .unset, .unset]) (rfl : _ = 42) ?_
    exact ht_
  obtain ⟨la, hla⟩ : ∃ z : Int64, z = ((p1 >>> ((8 : Int32) &&& 31)).toInt64) := ⟨_, rfl⟩
  rw [← hla] at k6
  have k7 : ∀ t_, Steps p.tables e below (s₁.setTop (mkF m 49 #[.val (.int p1), .val (.int p2), .val (.int p3), .val (.int p4), .val (.int p5), .val (.double bg), .second, .val (.double nb), .second, .val (.long la), .second, .val (.long ((p2 >>> ((8 : Int32) &&& 31)).toInt64)), .second, .unset, .unset, .unset, .unset, .unset, .unset, .unset, .unset, .unset, .unset] [])) t_ → Steps p.tables e below A t_ := by
    intro t_ ht_
    refine k6 t_ ?_
    refine own_f_iloadN X0.here hx (hb hby at_42) rfl (rfl : _ = 43) ?_
    refine own_f_bipush X0.here hx (hb hby at_43) (rfl : _ = (8 : Int32)) (rfl : _ = 45) ?_
    refine own_f_ishr X0.here hx (hb hby at_45) (rfl : _ = 46) ?_
    refine own_f_i2l X0.here hx (hb hby at_46) (rfl : _ = 47) ?_
    refine own_f_lstore X0.here hx (hb hby at_47) (rfl : storeLocals _ _ _ = some #[.val (.int p1), .val (.int p2), .val (.int p3), .val (.int p4), .val (.int p5), .val (.double bg), .second, .val (.double nb), .second, .val (.long la), .second, .val (.long ((p2 >>> ((8 : Int32) &&& 31)).toInt64)), .second, .unset, .unset, .unset, .unset, .unset, .unset, .unset, .unset, .unset, .unset]) (rfl : _ = 49) ?_
    exact ht_
  obtain ⟨lb, hlb⟩ : ∃ z : Int64, z = ((p2 >>> ((8 : Int32) &&& 31)).toInt64) := ⟨_, rfl⟩
  rw [← hlb] at k7
  have k8 : ∀ t_, Steps p.tables e below (s₁.setTop (mkF m 56 #[.val (.int p1), .val (.int p2), .val (.int p3), .val (.int p4), .val (.int p5), .val (.double bg), .second, .val (.double nb), .second, .val (.long la), .second, .val (.long lb), .second, .val (.long ((p3 >>> ((8 : Int32) &&& 31)).toInt64)), .second, .unset, .unset, .unset, .unset, .unset, .unset, .unset, .unset] [])) t_ → Steps p.tables e below A t_ := by
    intro t_ ht_
    refine k7 t_ ?_
    refine own_f_iloadN X0.here hx (hb hby at_49) rfl (rfl : _ = 50) ?_
    refine own_f_bipush X0.here hx (hb hby at_50) (rfl : _ = (8 : Int32)) (rfl : _ = 52) ?_
    refine own_f_ishr X0.here hx (hb hby at_52) (rfl : _ = 53) ?_
    refine own_f_i2l X0.here hx (hb hby at_53) (rfl : _ = 54) ?_
    refine own_f_lstore X0.here hx (hb hby at_54) (rfl : storeLocals _ _ _ = some #[.val (.int p1), .val (.int p2), .val (.int p3), .val (.int p4), .val (.int p5), .val (.double bg), .second, .val (.double nb), .second, .val (.long la), .second, .val (.long lb), .second, .val (.long ((p3 >>> ((8 : Int32) &&& 31)).toInt64)), .second, .unset, .unset, .unset, .unset, .unset, .unset, .unset, .unset]) (rfl : _ = 56) ?_
    exact ht_
  obtain ⟨lx, hlx⟩ : ∃ z : Int64, z = ((p3 >>> ((8 : Int32) &&& 31)).toInt64) := ⟨_, rfl⟩
  rw [← hlx] at k8
  have k9 : ∀ t_, Steps p.tables e below (s₁.setTop (mkF m 63 #[.val (.int p1), .val (.int p2), .val (.int p3), .val (.int p4), .val (.int p5), .val (.double bg), .second, .val (.double nb), .second, .val (.long la), .second, .val (.long lb), .second, .val (.long lx), .second, .val (.long ((p4 >>> ((8 : Int32) &&& 31)).toInt64)), .second, .unset, .unset, .unset, .unset, .unset, .unset] [])) t_ → Steps p.tables e below A t_ := by
    intro t_ ht_
    refine k8 t_ ?_
    refine own_f_iloadN X0.here hx (hb hby at_56) rfl (rfl : _ = 57) ?_
    refine own_f_bipush X0.here hx (hb hby at_57) (rfl : _ = (8 : Int32)) (rfl : _ = 59) ?_
    refine own_f_ishr X0.here hx (hb hby at_59) (rfl : _ = 60) ?_
    refine own_f_i2l X0.here hx (hb hby at_60) (rfl : _ = 61) ?_
    refine own_f_lstore X0.here hx (hb hby at_61) (rfl : storeLocals _ _ _ = some #[.val (.int p1), .val (.int p2), .val (.int p3), .val (.int p4), .val (.int p5), .val (.double bg), .second, .val (.double nb), .second, .val (.long la), .second, .val (.long lb), .second, .val (.long lx), .second, .val (.long ((p4 >>> ((8 : Int32) &&& 31)).toInt64)), .second, .unset, .unset, .unset, .unset, .unset, .unset]) (rfl : _ = 63) ?_
    exact ht_
  obtain ⟨ly, hly⟩ : ∃ z : Int64, z = ((p4 >>> ((8 : Int32) &&& 31)).toInt64) := ⟨_, rfl⟩
  rw [← hly] at k9
  obtain ⟨n1, s1, n2, s2, n3, s3, n4, s4, n5, vc, ec, fc⟩ := own_m3 (own_shr8 hla) (own_shr8 hlb) (own_shr8 hlx) hB rB rN
  obtain ⟨-, -, -, -, -, -, -, -, n6, vs, es, fs_⟩ := own_m3 (own_shr8 hla) (own_shr8 hlb) (own_shr8 hly) hB rB rN
  obtain ⟨T10, h10, X10, e10, E10, A10, D10, -, st10⟩ := newO X0 hx hZ hown (hw _ (List.mem_of_getElem? (i := 0) rfl)) (hw _ (List.mem_of_getElem? (i := 1) rfl)) (hw _ (List.mem_of_getElem? (i := 2) rfl)) e0 (g := (mkF m 63 #[.val (.int p1), .val (.int p2), .val (.int p3), .val (.int p4), .val (.int p5), .val (.double bg), .second, .val (.double nb), .second, .val (.long la), .second, .val (.long lb), .second, .val (.long lx), .second, .val (.long ly), .second, .unset, .unset, .unset, .unset, .unset, .unset] [])) rfl (hb hby at_63) (by decide) (by decide)
  obtain ⟨b10, g10⟩ : ∃ z, z = h0.size := ⟨_, rfl⟩
  rw [← g10] at A10 D10 st10
  have g_b10 : n0 ≤ b10 := Nat.le_trans Z0 (Nat.le_of_eq g10.symm)
  have Zs10 := Nat.le_trans Z0 E10.1
  have Ex_b10 := A10
  have F_partials_b10 : Fld Z h10 b10 "com/example/prose_to_query/prosetoquery/retrieval/ExactSum" "partials" "[D" .null := D10 (Or.inl (hw _ (List.mem_of_getElem? (i := 11) rfl))) (ty := (.array .double)) (by decide)
  have F_size_b10 : Fld Z h10 b10 "com/example/prose_to_query/prosetoquery/retrieval/ExactSum" "size" "I" (.int (0 : Int32)) := D10 (Or.inl (hw _ (List.mem_of_getElem? (i := 18) rfl))) (ty := .int) (by decide)
  obtain ⟨_, _, ⟨T11, L11, k11_, n11⟩, -, X11, ⟨Lc11, hQ11, l11, y11, z11⟩, st11⟩ := X10.specialBack hx (y := (⟨"com/example/prose_to_query/prosetoquery/retrieval/ExactSum", "<init>", "()V"⟩ : MethodName)) rfl hown (mvT hZ (hw _ (List.mem_of_getElem? (i := 3) rfl))) (mvT hZ (hw _ (List.mem_of_getElem? (i := 4) rfl))) (mvT hZ (hw _ (List.mem_of_getElem? (i := 5) rfl))) (by decide) (backOf (W := 1) (rm1 l Z a0 hw [] b10 _ h10 n0 Zs10 Ex_b10 F_partials_b10 F_size_b10 g_b10) hZ (hw _ (List.mem_of_getElem? (i := 5) rfl)) (hw _ (List.mem_of_getElem? (i := 2) rfl)) (by decide) (by decide)) (g := (mkF m 67 #[.val (.int p1), .val (.int p2), .val (.int p3), .val (.int p4), .val (.int p5), .val (.double bg), .second, .val (.double nb), .second, .val (.long la), .second, .val (.long lb), .second, .val (.long lx), .second, .val (.long ly), .second, .unset, .unset, .unset, .unset, .unset, .unset] [(.ref b10), (.ref b10)])) rfl (by rw [hml]; rfl) (Steps.refl _) (a := b10) (argsL := []) (rest := [(.ref b10)]) (lenOf pd_1 rfl) rfl (by show 2 * 0 + _ ≤ _; exact Nat.le_of_eq rfl) (hb hby at_67) (fun _ _ => ⟨rfl, e10, (by decide : 1 + 1 ≤ _), (by decide : 2 + 4 ≤ _)⟩)
  dsimp only [Pt.U, Pt.locs, Pt.cells, Pt.slots] at X11 l11 y11 z11 st11 hQ11
  subst l11 y11 z11
  obtain ⟨ar, kc, rfl, Nq11, K1, Fp, Fs, Va, Ear, Gar⟩ := hQ11
  have N11 := Fr.app N0 Nq11
  have ne_b10_ar : b10 ≠ ar := Nat.ne_of_lt (Nat.lt_of_lt_of_le Ex_b10.lt Gar)
  have g_ar : n0 ≤ ar := Nat.le_trans Zs10 Gar
  replace Ex_b10 := Ex_b10.keep K1
  have Zs11 := Nat.le_trans Zs10 K1.1
  obtain ⟨cq12, kq12, q12a, q12b, q12c⟩ := isOf hZ rfl Ex_b10
  obtain ⟨_, _, ⟨T12, L12, k12_, n12⟩, -, X12, ⟨Lc12, hQ12, l12, y12, z12⟩, st12⟩ := X11.virtualBack hx (y := (⟨"com/example/prose_to_query/prosetoquery/retrieval/ExactSum", "add", "(D)V"⟩ : MethodName)) (z := (⟨"com/example/prose_to_query/prosetoquery/retrieval/ExactSum", "add", "(D)V"⟩ : MethodName)) hown (mvT hZ (hw _ (List.mem_of_getElem? (i := 12) rfl))) (mvT hZ (hw _ (List.mem_of_getElem? (i := 13) rfl))) (notFace_of_selects (args := #[]) (mvT hZ (hw _ (List.mem_of_getElem? (i := 15) rfl)))) (mvT hZ (hw _ (List.mem_of_getElem? (i := 15) rfl))) (mvT hZ (hw _ (List.mem_of_getElem? (i := 14) rfl))) (by decide) (backOf (W := 0) (rm2 l Z a0 hw [] b10 (FP.l2d la) 0 ar kc 0 0 0 0 [] T11.heap n0 Zs11 Ex_b10 Fp Fs Va ne_b10_ar g_b10 g_ar own_res0 (by decide) n1) hZ (hw _ (List.mem_of_getElem? (i := 16) rfl)) (hw _ (List.mem_of_getElem? (i := 2) rfl)) (by decide) (by decide)) q12a q12c (g := (mkF m 77 #[.val (.int p1), .val (.int p2), .val (.int p3), .val (.int p4), .val (.int p5), .val (.double bg), .second, .val (.double nb), .second, .val (.long la), .second, .val (.long lb), .second, .val (.long lx), .second, .val (.long ly), .second, .val (.ref b10), .unset, .unset, .unset, .unset, .unset] [(.double (FP.l2d la)), (.ref b10)])) rfl (by rw [hml]; rfl) (Steps.refl _) (argsL := [(.double (FP.l2d la))]) (rest := []) (lenOf pd_3 rfl) rfl (by show 2 * 0 + _ ≤ _; exact Nat.le_of_eq rfl) (hb hby at_77) (fun _ _ => ⟨rfl, rfl, (by decide : 2 + 0 ≤ _), (by decide : 6 + 0 ≤ _)⟩)
  dsimp only [Pt.U, Pt.locs, Pt.cells, Pt.slots] at X12 l12 y12 z12 st12 hQ12
  subst l12 y12 z12
  obtain ⟨karx0, rarx0_0, rarx0_1, rarx0_2, rarx0_3, rfl, Nq12, Karx0, Fparx0, Fsarx0, Vaarx0, Rarx0⟩ := hQ12
  have N12 := Fr.app N11 Nq12
  replace Ex_b10 := Ex_b10.keep Karx0
  replace Ear := Ear.keep Karx0
  have Zs12 := Nat.le_trans Zs11 Karx0.1
  obtain ⟨cq13, kq13, q13a, q13b, q13c⟩ := isOf hZ rfl Ex_b10
  obtain ⟨_, _, ⟨T13, L13, k13_, n13⟩, -, X13, ⟨Lc13, hQ13, l13, y13, z13⟩, st13⟩ := X12.virtualBack hx (y := (⟨"com/example/prose_to_query/prosetoquery/retrieval/ExactSum", "add", "(D)V"⟩ : MethodName)) (z := (⟨"com/example/prose_to_query/prosetoquery/retrieval/ExactSum", "add", "(D)V"⟩ : MethodName)) hown (mvT hZ (hw _ (List.mem_of_getElem? (i := 12) rfl))) (mvT hZ (hw _ (List.mem_of_getElem? (i := 13) rfl))) (notFace_of_selects (args := #[]) (mvT hZ (hw _ (List.mem_of_getElem? (i := 15) rfl)))) (mvT hZ (hw _ (List.mem_of_getElem? (i := 15) rfl))) (mvT hZ (hw _ (List.mem_of_getElem? (i := 14) rfl))) (by decide) (backOf (W := 0) (rm2 l Z a0 hw [] b10 bg karx0 ar kc rarx0_0 rarx0_1 rarx0_2 rarx0_3 (own_ins [] (FP.l2d la)) T12.heap n0 Zs12 Ex_b10 Fparx0 Fsarx0 Vaarx0 ne_b10_ar g_b10 g_ar Rarx0 s1 n2) hZ (hw _ (List.mem_of_getElem? (i := 16) rfl)) (hw _ (List.mem_of_getElem? (i := 2) rfl)) (by decide) (by decide)) q13a q13c (g := (mkF m 84 #[.val (.int p1), .val (.int p2), .val (.int p3), .val (.int p4), .val (.int p5), .val (.double bg), .second, .val (.double nb), .second, .val (.long la), .second, .val (.long lb), .second, .val (.long lx), .second, .val (.long ly), .second, .val (.ref b10), .unset, .unset, .unset, .unset, .unset] [(.double bg), (.ref b10)])) rfl (by rw [hml]; rfl) (Steps.refl _) (argsL := [(.double bg)]) (rest := []) (lenOf pd_3 rfl) rfl (by show 2 * 0 + _ ≤ _; exact Nat.le_of_eq rfl) (hb hby at_84) (fun _ _ => ⟨rfl, rfl, (by decide : 2 + 0 ≤ _), (by decide : 6 + 0 ≤ _)⟩)
  dsimp only [Pt.U, Pt.locs, Pt.cells, Pt.slots] at X13 l13 y13 z13 st13 hQ13
  subst l13 y13 z13
  obtain ⟨karx1, rarx1_0, rarx1_1, rarx1_2, rarx1_3, rfl, Nq13, Karx1, Fparx1, Fsarx1, Vaarx1, Rarx1⟩ := hQ13
  have N13 := Fr.app N12 Nq13
  replace Ex_b10 := Ex_b10.keep Karx1
  replace Ear := Ear.keep Karx1
  have Zs13 := Nat.le_trans Zs12 Karx1.1
  obtain ⟨cq14, kq14, q14a, q14b, q14c⟩ := isOf hZ rfl Ex_b10
  obtain ⟨_, _, ⟨T14, L14, k14_, n14⟩, -, X14, ⟨Lc14, hQ14, l14, y14, z14⟩, st14⟩ := X13.virtualBack hx (y := (⟨"com/example/prose_to_query/prosetoquery/retrieval/ExactSum", "add", "(D)V"⟩ : MethodName)) (z := (⟨"com/example/prose_to_query/prosetoquery/retrieval/ExactSum", "add", "(D)V"⟩ : MethodName)) hown (mvT hZ (hw _ (List.mem_of_getElem? (i := 12) rfl))) (mvT hZ (hw _ (List.mem_of_getElem? (i := 13) rfl))) (notFace_of_selects (args := #[]) (mvT hZ (hw _ (List.mem_of_getElem? (i := 15) rfl)))) (mvT hZ (hw _ (List.mem_of_getElem? (i := 15) rfl))) (mvT hZ (hw _ (List.mem_of_getElem? (i := 14) rfl))) (by decide) (backOf (W := 0) (rm2 l Z a0 hw [] b10 (FP.l2d lb) karx1 ar kc rarx1_0 rarx1_1 rarx1_2 rarx1_3 (own_ins (own_ins [] (FP.l2d la)) bg) T13.heap n0 Zs13 Ex_b10 Fparx1 Fsarx1 Vaarx1 ne_b10_ar g_b10 g_ar Rarx1 s2 n3) hZ (hw _ (List.mem_of_getElem? (i := 16) rfl)) (hw _ (List.mem_of_getElem? (i := 2) rfl)) (by decide) (by decide)) q14a q14c (g := (mkF m 92 #[.val (.int p1), .val (.int p2), .val (.int p3), .val (.int p4), .val (.int p5), .val (.double bg), .second, .val (.double nb), .second, .val (.long la), .second, .val (.long lb), .second, .val (.long lx), .second, .val (.long ly), .second, .val (.ref b10), .unset, .unset, .unset, .unset, .unset] [(.double (FP.l2d lb)), (.ref b10)])) rfl (by rw [hml]; rfl) (Steps.refl _) (argsL := [(.double (FP.l2d lb))]) (rest := []) (lenOf pd_3 rfl) rfl (by show 2 * 0 + _ ≤ _; exact Nat.le_of_eq rfl) (hb hby at_92) (fun _ _ => ⟨rfl, rfl, (by decide : 2 + 0 ≤ _), (by decide : 6 + 0 ≤ _)⟩)
  dsimp only [Pt.U, Pt.locs, Pt.cells, Pt.slots] at X14 l14 y14 z14 st14 hQ14
  subst l14 y14 z14
  obtain ⟨karx2, rarx2_0, rarx2_1, rarx2_2, rarx2_3, rfl, Nq14, Karx2, Fparx2, Fsarx2, Vaarx2, Rarx2⟩ := hQ14
  have N14 := Fr.app N13 Nq14
  replace Ex_b10 := Ex_b10.keep Karx2
  replace Ear := Ear.keep Karx2
  have Zs14 := Nat.le_trans Zs13 Karx2.1
  obtain ⟨cq15, kq15, q15a, q15b, q15c⟩ := isOf hZ rfl Ex_b10
  obtain ⟨_, _, ⟨T15, L15, k15_, n15⟩, -, X15, ⟨Lc15, hQ15, l15, y15, z15⟩, st15⟩ := X14.virtualBack hx (y := (⟨"com/example/prose_to_query/prosetoquery/retrieval/ExactSum", "copy", "()Lcom/example/prose_to_query/prosetoquery/retrieval/ExactSum;"⟩ : MethodName)) (z := (⟨"com/example/prose_to_query/prosetoquery/retrieval/ExactSum", "copy", "()Lcom/example/prose_to_query/prosetoquery/retrieval/ExactSum;"⟩ : MethodName)) hown (mvT hZ (hw _ (List.mem_of_getElem? (i := 23) rfl))) (mvT hZ (hw _ (List.mem_of_getElem? (i := 24) rfl))) (notFace_of_selects (args := #[]) (mvT hZ (hw _ (List.mem_of_getElem? (i := 26) rfl)))) (mvT hZ (hw _ (List.mem_of_getElem? (i := 26) rfl))) (mvT hZ (hw _ (List.mem_of_getElem? (i := 25) rfl))) (by decide) (backOf (W := 0) (rm4 l Z a0 hw [] b10 karx2 ar kc rarx2_0 rarx2_1 rarx2_2 rarx2_3 T14.heap n0 Zs14 Fparx2 Fsarx2 Vaarx2 Ear) hZ (hw _ (List.mem_of_getElem? (i := 27) rfl)) (hw _ (List.mem_of_getElem? (i := 2) rfl)) (by decide) (by decide)) q15a q15c (g := (mkF m 97 #[.val (.int p1), .val (.int p2), .val (.int p3), .val (.int p4), .val (.int p5), .val (.double bg), .second, .val (.double nb), .second, .val (.long la), .second, .val (.long lb), .second, .val (.long lx), .second, .val (.long ly), .second, .val (.ref b10), .unset, .unset, .unset, .unset, .unset] [(.ref b10)])) rfl (by rw [hml]; rfl) (Steps.refl _) (argsL := []) (rest := []) (lenOf pd_4 rfl) rfl (by show 2 * 0 + _ ≤ _; exact Nat.le_of_eq rfl) (hb hby at_97) (fun _ _ => ⟨rfl, rfl, (by decide : 2 + 3 ≤ _), (by decide : 6 + 10 ≤ _)⟩)
  dsimp only [Pt.U, Pt.locs, Pt.cells, Pt.slots] at X15 l15 y15 z15 st15 hQ15
  subst l15 y15 z15
  obtain ⟨co, cr, rfl, Nq15, Kc, Eco, Fpc, Fsc, Vac, Ecr, Gco, Gcr, nec⟩ := hQ15
  have N15 := Fr.app N14 Nq15
  have ne_b10_co : b10 ≠ co := Nat.ne_of_lt (Nat.lt_of_lt_of_le Ex_b10.lt Gco)
  have ne_b10_cr : b10 ≠ cr := Nat.ne_of_lt (Nat.lt_of_lt_of_le Ex_b10.lt Gcr)
  have ne_ar_co : ar ≠ co := Nat.ne_of_lt (Nat.lt_of_lt_of_le Ear.lt Gco)
  have ne_ar_cr : ar ≠ cr := Nat.ne_of_lt (Nat.lt_of_lt_of_le Ear.lt Gcr)
  have g_co : n0 ≤ co := Nat.le_trans Zs14 Gco
  have g_cr : n0 ≤ cr := Nat.le_trans Zs14 Gcr
  replace Ex_b10 := Ex_b10.keep Kc
  replace Ear := Ear.keep Kc
  replace Fparx2 := Fparx2.keep Kc (by simp)
  replace Fsarx2 := Fsarx2.keep Kc (by simp)
  replace Vaarx2 := Vaarx2.keep Kc (by simp)
  have Zs15 := Nat.le_trans Zs14 Kc.1
  obtain ⟨cq16, kq16, q16a, q16b, q16c⟩ := isOf hZ rfl Eco
  obtain ⟨_, _, ⟨T16, L16, k16_, n16⟩, -, X16, ⟨Lc16, hQ16, l16, y16, z16⟩, st16⟩ := X15.virtualBack hx (y := (⟨"com/example/prose_to_query/prosetoquery/retrieval/ExactSum", "add", "(D)V"⟩ : MethodName)) (z := (⟨"com/example/prose_to_query/prosetoquery/retrieval/ExactSum", "add", "(D)V"⟩ : MethodName)) hown (mvT hZ (hw _ (List.mem_of_getElem? (i := 12) rfl))) (mvT hZ (hw _ (List.mem_of_getElem? (i := 13) rfl))) (notFace_of_selects (args := #[]) (mvT hZ (hw _ (List.mem_of_getElem? (i := 15) rfl)))) (mvT hZ (hw _ (List.mem_of_getElem? (i := 15) rfl))) (mvT hZ (hw _ (List.mem_of_getElem? (i := 14) rfl))) (by decide) (backOf (W := 0) (rm2 l Z a0 hw [] co nb karx2 cr kc rarx2_0 rarx2_1 rarx2_2 rarx2_3 (own_ins (own_ins (own_ins [] (FP.l2d la)) bg) (FP.l2d lb)) T15.heap n0 Zs15 Eco Fpc Fsc Vac nec g_co g_cr Rarx2 s3 n4) hZ (hw _ (List.mem_of_getElem? (i := 16) rfl)) (hw _ (List.mem_of_getElem? (i := 2) rfl)) (by decide) (by decide)) q16a q16c (g := (mkF m 106 #[.val (.int p1), .val (.int p2), .val (.int p3), .val (.int p4), .val (.int p5), .val (.double bg), .second, .val (.double nb), .second, .val (.long la), .second, .val (.long lb), .second, .val (.long lx), .second, .val (.long ly), .second, .val (.ref b10), .val (.ref co), .unset, .unset, .unset, .unset] [(.double nb), (.ref co)])) rfl (by rw [hml]; rfl) (Steps.refl _) (argsL := [(.double nb)]) (rest := []) (lenOf pd_3 rfl) rfl (by show 2 * 0 + _ ≤ _; exact Nat.le_of_eq rfl) (hb hby at_106) (fun _ _ => ⟨rfl, rfl, (by decide : 5 + 0 ≤ _), (by decide : 16 + 0 ≤ _)⟩)
  dsimp only [Pt.U, Pt.locs, Pt.cells, Pt.slots] at X16 l16 y16 z16 st16 hQ16
  subst l16 y16 z16
  obtain ⟨kcrx3, rcrx3_0, rcrx3_1, rcrx3_2, rcrx3_3, rfl, Nq16, Kcrx3, Fpcrx3, Fscrx3, Vacrx3, Rcrx3⟩ := hQ16
  have N16 := Fr.app N15 Nq16
  replace Ex_b10 := Ex_b10.keep Kcrx3
  replace Ear := Ear.keep Kcrx3
  replace Fparx2 := Fparx2.keep Kcrx3 (by simp; exact ⟨ne_b10_co, ne_b10_cr⟩)
  replace Fsarx2 := Fsarx2.keep Kcrx3 (by simp; exact ⟨ne_b10_co, ne_b10_cr⟩)
  replace Vaarx2 := Vaarx2.keep Kcrx3 (by simp; exact ⟨ne_ar_co, ne_ar_cr⟩)
  replace Eco := Eco.keep Kcrx3
  replace Ecr := Ecr.keep Kcrx3
  have Zs16 := Nat.le_trans Zs15 Kcrx3.1
  obtain ⟨cq17, kq17, q17a, q17b, q17c⟩ := isOf hZ rfl Eco
  obtain ⟨_, _, ⟨T17, L17, k17_, n17⟩, -, X17, ⟨Lc17, hQ17, l17, y17, z17⟩, st17⟩ := X16.virtualBack hx (y := (⟨"com/example/prose_to_query/prosetoquery/retrieval/ExactSum", "add", "(D)V"⟩ : MethodName)) (z := (⟨"com/example/prose_to_query/prosetoquery/retrieval/ExactSum", "add", "(D)V"⟩ : MethodName)) hown (mvT hZ (hw _ (List.mem_of_getElem? (i := 12) rfl))) (mvT hZ (hw _ (List.mem_of_getElem? (i := 13) rfl))) (notFace_of_selects (args := #[]) (mvT hZ (hw _ (List.mem_of_getElem? (i := 15) rfl)))) (mvT hZ (hw _ (List.mem_of_getElem? (i := 15) rfl))) (mvT hZ (hw _ (List.mem_of_getElem? (i := 14) rfl))) (by decide) (backOf (W := 0) (rm2 l Z a0 hw [] co (FP.l2d lx) kcrx3 cr kc rcrx3_0 rcrx3_1 rcrx3_2 rcrx3_3 (own_ins (own_ins (own_ins (own_ins [] (FP.l2d la)) bg) (FP.l2d lb)) nb) T16.heap n0 Zs16 Eco Fpcrx3 Fscrx3 Vacrx3 nec g_co g_cr Rcrx3 s4 n5) hZ (hw _ (List.mem_of_getElem? (i := 16) rfl)) (hw _ (List.mem_of_getElem? (i := 2) rfl)) (by decide) (by decide)) q17a q17c (g := (mkF m 114 #[.val (.int p1), .val (.int p2), .val (.int p3), .val (.int p4), .val (.int p5), .val (.double bg), .second, .val (.double nb), .second, .val (.long la), .second, .val (.long lb), .second, .val (.long lx), .second, .val (.long ly), .second, .val (.ref b10), .val (.ref co), .unset, .unset, .unset, .unset] [(.double (FP.l2d lx)), (.ref co)])) rfl (by rw [hml]; rfl) (Steps.refl _) (argsL := [(.double (FP.l2d lx))]) (rest := []) (lenOf pd_3 rfl) rfl (by show 2 * 0 + _ ≤ _; exact Nat.le_of_eq rfl) (hb hby at_114) (fun _ _ => ⟨rfl, rfl, (by decide : 5 + 0 ≤ _), (by decide : 16 + 0 ≤ _)⟩)
  dsimp only [Pt.U, Pt.locs, Pt.cells, Pt.slots] at X17 l17 y17 z17 st17 hQ17
  subst l17 y17 z17
  obtain ⟨kcrx4, rcrx4_0, rcrx4_1, rcrx4_2, rcrx4_3, rfl, Nq17, Kcrx4, Fpcrx4, Fscrx4, Vacrx4, Rcrx4⟩ := hQ17
  have N17 := Fr.app N16 Nq17
  replace Ex_b10 := Ex_b10.keep Kcrx4
  replace Ear := Ear.keep Kcrx4
  replace Fparx2 := Fparx2.keep Kcrx4 (by simp; exact ⟨ne_b10_co, ne_b10_cr⟩)
  replace Fsarx2 := Fsarx2.keep Kcrx4 (by simp; exact ⟨ne_b10_co, ne_b10_cr⟩)
  replace Vaarx2 := Vaarx2.keep Kcrx4 (by simp; exact ⟨ne_ar_co, ne_ar_cr⟩)
  replace Eco := Eco.keep Kcrx4
  replace Ecr := Ecr.keep Kcrx4
  have Zs17 := Nat.le_trans Zs16 Kcrx4.1
  obtain ⟨cq18, kq18, q18a, q18b, q18c⟩ := isOf hZ rfl Ex_b10
  obtain ⟨_, _, ⟨T18, L18, k18_, n18⟩, -, X18, ⟨Lc18, hQ18, l18, y18, z18⟩, st18⟩ := X17.virtualBack hx (y := (⟨"com/example/prose_to_query/prosetoquery/retrieval/ExactSum", "add", "(D)V"⟩ : MethodName)) (z := (⟨"com/example/prose_to_query/prosetoquery/retrieval/ExactSum", "add", "(D)V"⟩ : MethodName)) hown (mvT hZ (hw _ (List.mem_of_getElem? (i := 12) rfl))) (mvT hZ (hw _ (List.mem_of_getElem? (i := 13) rfl))) (notFace_of_selects (args := #[]) (mvT hZ (hw _ (List.mem_of_getElem? (i := 15) rfl)))) (mvT hZ (hw _ (List.mem_of_getElem? (i := 15) rfl))) (mvT hZ (hw _ (List.mem_of_getElem? (i := 14) rfl))) (by decide) (backOf (W := 0) (rm2 l Z a0 hw [] b10 nb karx2 ar kc rarx2_0 rarx2_1 rarx2_2 rarx2_3 (own_ins (own_ins (own_ins [] (FP.l2d la)) bg) (FP.l2d lb)) T17.heap n0 Zs17 Ex_b10 Fparx2 Fsarx2 Vaarx2 ne_b10_ar g_b10 g_ar Rarx2 s3 n4) hZ (hw _ (List.mem_of_getElem? (i := 16) rfl)) (hw _ (List.mem_of_getElem? (i := 2) rfl)) (by decide) (by decide)) q18a q18c (g := (mkF m 121 #[.val (.int p1), .val (.int p2), .val (.int p3), .val (.int p4), .val (.int p5), .val (.double bg), .second, .val (.double nb), .second, .val (.long la), .second, .val (.long lb), .second, .val (.long lx), .second, .val (.long ly), .second, .val (.ref b10), .val (.ref co), .unset, .unset, .unset, .unset] [(.double nb), (.ref b10)])) rfl (by rw [hml]; rfl) (Steps.refl _) (argsL := [(.double nb)]) (rest := []) (lenOf pd_3 rfl) rfl (by show 2 * 0 + _ ≤ _; exact Nat.le_of_eq rfl) (hb hby at_121) (fun _ _ => ⟨rfl, rfl, (by decide : 5 + 0 ≤ _), (by decide : 16 + 0 ≤ _)⟩)
  dsimp only [Pt.U, Pt.locs, Pt.cells, Pt.slots] at X18 l18 y18 z18 st18 hQ18
  subst l18 y18 z18
  obtain ⟨karx5, rarx5_0, rarx5_1, rarx5_2, rarx5_3, rfl, Nq18, Karx5, Fparx5, Fsarx5, Vaarx5, Rarx5⟩ := hQ18
  have N18 := Fr.app N17 Nq18
  replace Ex_b10 := Ex_b10.keep Karx5
  replace Ear := Ear.keep Karx5
  replace Eco := Eco.keep Karx5
  replace Ecr := Ecr.keep Karx5
  replace Fpcrx4 := Fpcrx4.keep Karx5 (by simp; exact ⟨Ne.symm ne_b10_co, Ne.symm ne_ar_co⟩)
  replace Fscrx4 := Fscrx4.keep Karx5 (by simp; exact ⟨Ne.symm ne_b10_co, Ne.symm ne_ar_co⟩)
  replace Vacrx4 := Vacrx4.keep Karx5 (by simp; exact ⟨Ne.symm ne_b10_cr, Ne.symm ne_ar_cr⟩)
  have Zs18 := Nat.le_trans Zs17 Karx5.1
  obtain ⟨cq19, kq19, q19a, q19b, q19c⟩ := isOf hZ rfl Ex_b10
  obtain ⟨_, _, ⟨T19, L19, k19_, n19⟩, -, X19, ⟨Lc19, hQ19, l19, y19, z19⟩, st19⟩ := X18.virtualBack hx (y := (⟨"com/example/prose_to_query/prosetoquery/retrieval/ExactSum", "add", "(D)V"⟩ : MethodName)) (z := (⟨"com/example/prose_to_query/prosetoquery/retrieval/ExactSum", "add", "(D)V"⟩ : MethodName)) hown (mvT hZ (hw _ (List.mem_of_getElem? (i := 12) rfl))) (mvT hZ (hw _ (List.mem_of_getElem? (i := 13) rfl))) (notFace_of_selects (args := #[]) (mvT hZ (hw _ (List.mem_of_getElem? (i := 15) rfl)))) (mvT hZ (hw _ (List.mem_of_getElem? (i := 15) rfl))) (mvT hZ (hw _ (List.mem_of_getElem? (i := 14) rfl))) (by decide) (backOf (W := 0) (rm2 l Z a0 hw [] b10 (FP.l2d ly) karx5 ar kc rarx5_0 rarx5_1 rarx5_2 rarx5_3 (own_ins (own_ins (own_ins (own_ins [] (FP.l2d la)) bg) (FP.l2d lb)) nb) T18.heap n0 Zs18 Ex_b10 Fparx5 Fsarx5 Vaarx5 ne_b10_ar g_b10 g_ar Rarx5 s4 n6) hZ (hw _ (List.mem_of_getElem? (i := 16) rfl)) (hw _ (List.mem_of_getElem? (i := 2) rfl)) (by decide) (by decide)) q19a q19c (g := (mkF m 129 #[.val (.int p1), .val (.int p2), .val (.int p3), .val (.int p4), .val (.int p5), .val (.double bg), .second, .val (.double nb), .second, .val (.long la), .second, .val (.long lb), .second, .val (.long lx), .second, .val (.long ly), .second, .val (.ref b10), .val (.ref co), .unset, .unset, .unset, .unset] [(.double (FP.l2d ly)), (.ref b10)])) rfl (by rw [hml]; rfl) (Steps.refl _) (argsL := [(.double (FP.l2d ly))]) (rest := []) (lenOf pd_3 rfl) rfl (by show 2 * 0 + _ ≤ _; exact Nat.le_of_eq rfl) (hb hby at_129) (fun _ _ => ⟨rfl, rfl, (by decide : 5 + 0 ≤ _), (by decide : 16 + 0 ≤ _)⟩)
  dsimp only [Pt.U, Pt.locs, Pt.cells, Pt.slots] at X19 l19 y19 z19 st19 hQ19
  subst l19 y19 z19
  obtain ⟨karx6, rarx6_0, rarx6_1, rarx6_2, rarx6_3, rfl, Nq19, Karx6, Fparx6, Fsarx6, Vaarx6, Rarx6⟩ := hQ19
  have N19 := Fr.app N18 Nq19
  replace Ex_b10 := Ex_b10.keep Karx6
  replace Ear := Ear.keep Karx6
  replace Eco := Eco.keep Karx6
  replace Ecr := Ecr.keep Karx6
  replace Fpcrx4 := Fpcrx4.keep Karx6 (by simp; exact ⟨Ne.symm ne_b10_co, Ne.symm ne_ar_co⟩)
  replace Fscrx4 := Fscrx4.keep Karx6 (by simp; exact ⟨Ne.symm ne_b10_co, Ne.symm ne_ar_co⟩)
  replace Vacrx4 := Vacrx4.keep Karx6 (by simp; exact ⟨Ne.symm ne_b10_cr, Ne.symm ne_ar_cr⟩)
  have Zs19 := Nat.le_trans Zs18 Karx6.1
  obtain ⟨rfl, rfl⟩ := own_res1 Rcrx4 ec
  obtain ⟨cq20, kq20, q20a, q20b, q20c⟩ := isOf hZ rfl Eco
  obtain ⟨_, _, ⟨T20, L20, k20_, n20⟩, -, X20, ⟨Lc20, hQ20, l20, y20, z20⟩, st20⟩ := X19.virtualBack hx (y := (⟨"com/example/prose_to_query/prosetoquery/retrieval/ExactSum", "value", "()D"⟩ : MethodName)) (z := (⟨"com/example/prose_to_query/prosetoquery/retrieval/ExactSum", "value", "()D"⟩ : MethodName)) hown (mvT hZ (hw _ (List.mem_of_getElem? (i := 43) rfl))) (mvT hZ (hw _ (List.mem_of_getElem? (i := 44) rfl))) (notFace_of_selects (args := #[]) (mvT hZ (hw _ (List.mem_of_getElem? (i := 46) rfl)))) (mvT hZ (hw _ (List.mem_of_getElem? (i := 46) rfl))) (mvT hZ (hw _ (List.mem_of_getElem? (i := 45) rfl))) (by decide) (backOf (W := 0) (rm5 l Z a0 hw [] co cr kc rcrx4_0 rcrx4_1 rcrx4_2 rcrx4_3 T19.heap n0 Zs19 Fpcrx4 Fscrx4 Vacrx4) hZ (hw _ (List.mem_of_getElem? (i := 47) rfl)) (hw _ (List.mem_of_getElem? (i := 2) rfl)) (by decide) (by decide)) q20a q20c (g := (mkF m 156 #[.val (.int p1), .val (.int p2), .val (.int p3), .val (.int p4), .val (.int p5), .val (.double bg), .second, .val (.double nb), .second, .val (.long la), .second, .val (.long lb), .second, .val (.long lx), .second, .val (.long ly), .second, .val (.ref b10), .val (.ref co), .val (.double (FP.l2d ((la + lb) + lx))), .second, .val (.double (FP.l2d ((la + lb) + ly))), .second] [(.ref co)])) rfl (by rw [hml]; rfl) (Steps.refl _) (argsL := []) (rest := []) (lenOf pd_5 rfl) rfl (by show 2 * 0 + _ ≤ _; exact Nat.le_of_eq rfl) (hb hby at_156) (fun _ _ => ⟨rfl, rfl, (by decide : 5 + 0 ≤ _), (by decide : 16 + 0 ≤ _)⟩)
  dsimp only [Pt.U, Pt.locs, Pt.cells, Pt.slots] at X20 l20 y20 z20 st20 hQ20
  subst l20 y20 z20
  obtain ⟨rfl, Nq20, e20⟩ := hQ20
  have N20 := Fr.app N19 Nq20
  obtain ⟨rfl, rfl⟩ := own_res1 Rarx6 es
  obtain ⟨cq21, kq21, q21a, q21b, q21c⟩ := isOf hZ e20 Ex_b10
  obtain ⟨_, _, ⟨T21, L21, k21_, n21⟩, -, X21, ⟨Lc21, hQ21, l21, y21, z21⟩, st21⟩ := X20.virtualBack hx (y := (⟨"com/example/prose_to_query/prosetoquery/retrieval/ExactSum", "value", "()D"⟩ : MethodName)) (z := (⟨"com/example/prose_to_query/prosetoquery/retrieval/ExactSum", "value", "()D"⟩ : MethodName)) hown (mvT hZ (hw _ (List.mem_of_getElem? (i := 43) rfl))) (mvT hZ (hw _ (List.mem_of_getElem? (i := 44) rfl))) (notFace_of_selects (args := #[]) (mvT hZ (hw _ (List.mem_of_getElem? (i := 46) rfl)))) (mvT hZ (hw _ (List.mem_of_getElem? (i := 46) rfl))) (mvT hZ (hw _ (List.mem_of_getElem? (i := 45) rfl))) (by decide) (backOf (W := 0) (rm5 l Z a0 hw [] b10 ar kc rarx6_0 rarx6_1 rarx6_2 rarx6_3 T19.heap n0 Zs19 Fparx6 Fsarx6 Vaarx6) hZ (hw _ (List.mem_of_getElem? (i := 47) rfl)) (hw _ (List.mem_of_getElem? (i := 2) rfl)) (by decide) (by decide)) q21a q21c (g := (mkF m 167 #[.val (.int p1), .val (.int p2), .val (.int p3), .val (.int p4), .val (.int p5), .val (.double bg), .second, .val (.double nb), .second, .val (.long la), .second, .val (.long lb), .second, .val (.long lx), .second, .val (.long ly), .second, .val (.ref b10), .val (.ref co), .val (.double (FP.l2d ((la + lb) + lx))), .second, .val (.double (FP.l2d ((la + lb) + ly))), .second] [(.ref b10)])) rfl (by rw [hml]; rfl) (Steps.refl _) (argsL := []) (rest := []) (lenOf pd_5 rfl) rfl (by show 2 * 0 + _ ≤ _; exact Nat.le_of_eq rfl) (hb hby at_167) (fun _ _ => ⟨rfl, e20, (by decide : 5 + 0 ≤ _), (by decide : 16 + 0 ≤ _)⟩)
  dsimp only [Pt.U, Pt.locs, Pt.cells, Pt.slots] at X21 l21 y21 z21 st21 hQ21
  subst l21 y21 z21
  obtain ⟨rfl, Nq21, e21⟩ := hQ21
  have N21 := Fr.app N20 Nq21
  obtain ⟨fs, hr, hrun, hended, hW, hsame⟩ := X21.leave (v := some (.int (1 : Int32))) (fun h => by rw [Bd.returns] at h; cases h) hlk
  refine ⟨_, _, ?_, hrun, hended, _, _, rfl, ?_, ⟨_, rfl⟩, hW, hsame.mono (by decide) (by decide)⟩
  · refine hA0 _ ?_
    refine k9 _ ?_
    refine st10 _ ?_
    show Steps p.tables e below (T10.setTop (mkF m 66 #[.val (.int p1), .val (.int p2), .val (.int p3), .val (.int p4), .val (.int p5), .val (.double bg), .second, .val (.double nb), .second, .val (.long la), .second, .val (.long lb), .second, .val (.long lx), .second, .val (.long ly), .second, .unset, .unset, .unset, .unset, .unset, .unset] [(.ref b10)])) _
    refine own_f_dup X10.here hx (hb hby at_66) rfl (rfl : _ = 67) ?_
    refine st11.trans ?_
    show Steps p.tables e below (T11.setTop (mkF m 70 #[.val (.int p1), .val (.int p2), .val (.int p3), .val (.int p4), .val (.int p5), .val (.double bg), .second, .val (.double nb), .second, .val (.long la), .second, .val (.long lb), .second, .val (.long lx), .second, .val (.long ly), .second, .unset, .unset, .unset, .unset, .unset, .unset] [(.ref b10)])) _
    refine own_f_astore X11.here hx (hb hby at_70) rfl (rfl : storeLocals _ _ _ = some #[.val (.int p1), .val (.int p2), .val (.int p3), .val (.int p4), .val (.int p5), .val (.double bg), .second, .val (.double nb), .second, .val (.long la), .second, .val (.long lb), .second, .val (.long lx), .second, .val (.long ly), .second, .val (.ref b10), .unset, .unset, .unset, .unset, .unset]) (rfl : _ = 72) ?_
    refine own_f_aload X11.here hx (hb hby at_72) rfl rfl (rfl : _ = 74) ?_
    refine own_f_lload X11.here hx (hb hby at_74) rfl (rfl : _ = 76) ?_
    refine own_f_l2d X11.here hx (hb hby at_76) rfl (rfl : _ = 77) ?_
    refine st12.trans ?_
    show Steps p.tables e below (T12.setTop (mkF m 80 #[.val (.int p1), .val (.int p2), .val (.int p3), .val (.int p4), .val (.int p5), .val (.double bg), .second, .val (.double nb), .second, .val (.long la), .second, .val (.long lb), .second, .val (.long lx), .second, .val (.long ly), .second, .val (.ref b10), .unset, .unset, .unset, .unset, .unset] [])) _
    refine own_f_aload X12.here hx (hb hby at_80) rfl rfl (rfl : _ = 82) ?_
    refine own_f_dload X12.here hx (hb hby at_82) rfl (rfl : _ = 84) ?_
    refine st13.trans ?_
    show Steps p.tables e below (T13.setTop (mkF m 87 #[.val (.int p1), .val (.int p2), .val (.int p3), .val (.int p4), .val (.int p5), .val (.double bg), .second, .val (.double nb), .second, .val (.long la), .second, .val (.long lb), .second, .val (.long lx), .second, .val (.long ly), .second, .val (.ref b10), .unset, .unset, .unset, .unset, .unset] [])) _
    refine own_f_aload X13.here hx (hb hby at_87) rfl rfl (rfl : _ = 89) ?_
    refine own_f_lload X13.here hx (hb hby at_89) rfl (rfl : _ = 91) ?_
    refine own_f_l2d X13.here hx (hb hby at_91) rfl (rfl : _ = 92) ?_
    refine st14.trans ?_
    show Steps p.tables e below (T14.setTop (mkF m 95 #[.val (.int p1), .val (.int p2), .val (.int p3), .val (.int p4), .val (.int p5), .val (.double bg), .second, .val (.double nb), .second, .val (.long la), .second, .val (.long lb), .second, .val (.long lx), .second, .val (.long ly), .second, .val (.ref b10), .unset, .unset, .unset, .unset, .unset] [])) _
    refine own_f_aload X14.here hx (hb hby at_95) rfl rfl (rfl : _ = 97) ?_
    refine st15.trans ?_
    show Steps p.tables e below (T15.setTop (mkF m 100 #[.val (.int p1), .val (.int p2), .val (.int p3), .val (.int p4), .val (.int p5), .val (.double bg), .second, .val (.double nb), .second, .val (.long la), .second, .val (.long lb), .second, .val (.long lx), .second, .val (.long ly), .second, .val (.ref b10), .unset, .unset, .unset, .unset, .unset] [(.ref co)])) _
    refine own_f_astore X15.here hx (hb hby at_100) rfl (rfl : storeLocals _ _ _ = some #[.val (.int p1), .val (.int p2), .val (.int p3), .val (.int p4), .val (.int p5), .val (.double bg), .second, .val (.double nb), .second, .val (.long la), .second, .val (.long lb), .second, .val (.long lx), .second, .val (.long ly), .second, .val (.ref b10), .val (.ref co), .unset, .unset, .unset, .unset]) (rfl : _ = 102) ?_
    refine own_f_aload X15.here hx (hb hby at_102) rfl rfl (rfl : _ = 104) ?_
    refine own_f_dload X15.here hx (hb hby at_104) rfl (rfl : _ = 106) ?_
    refine st16.trans ?_
    show Steps p.tables e below (T16.setTop (mkF m 109 #[.val (.int p1), .val (.int p2), .val (.int p3), .val (.int p4), .val (.int p5), .val (.double bg), .second, .val (.double nb), .second, .val (.long la), .second, .val (.long lb), .second, .val (.long lx), .second, .val (.long ly), .second, .val (.ref b10), .val (.ref co), .unset, .unset, .unset, .unset] [])) _
    refine own_f_aload X16.here hx (hb hby at_109) rfl rfl (rfl : _ = 111) ?_
    refine own_f_lload X16.here hx (hb hby at_111) rfl (rfl : _ = 113) ?_
    refine own_f_l2d X16.here hx (hb hby at_113) rfl (rfl : _ = 114) ?_
    refine st17.trans ?_
    show Steps p.tables e below (T17.setTop (mkF m 117 #[.val (.int p1), .val (.int p2), .val (.int p3), .val (.int p4), .val (.int p5), .val (.double bg), .second, .val (.double nb), .second, .val (.long la), .second, .val (.long lb), .second, .val (.long lx), .second, .val (.long ly), .second, .val (.ref b10), .val (.ref co), .unset, .unset, .unset, .unset] [])) _
    refine own_f_aload X17.here hx (hb hby at_117) rfl rfl (rfl : _ = 119) ?_
    refine own_f_dload X17.here hx (hb hby at_119) rfl (rfl : _ = 121) ?_
    refine st18.trans ?_
    show Steps p.tables e below (T18.setTop (mkF m 124 #[.val (.int p1), .val (.int p2), .val (.int p3), .val (.int p4), .val (.int p5), .val (.double bg), .second, .val (.double nb), .second, .val (.long la), .second, .val (.long lb), .second, .val (.long lx), .second, .val (.long ly), .second, .val (.ref b10), .val (.ref co), .unset, .unset, .unset, .unset] [])) _
    refine own_f_aload X18.here hx (hb hby at_124) rfl rfl (rfl : _ = 126) ?_
    refine own_f_lload X18.here hx (hb hby at_126) rfl (rfl : _ = 128) ?_
    refine own_f_l2d X18.here hx (hb hby at_128) rfl (rfl : _ = 129) ?_
    refine st19.trans ?_
    show Steps p.tables e below (T19.setTop (mkF m 132 #[.val (.int p1), .val (.int p2), .val (.int p3), .val (.int p4), .val (.int p5), .val (.double bg), .second, .val (.double nb), .second, .val (.long la), .second, .val (.long lb), .second, .val (.long lx), .second, .val (.long ly), .second, .val (.ref b10), .val (.ref co), .unset, .unset, .unset, .unset] [])) _
    refine own_f_lload X19.here hx (hb hby at_132) rfl (rfl : _ = 134) ?_
    refine own_f_lload X19.here hx (hb hby at_134) rfl (rfl : _ = 136) ?_
    refine own_f_ladd X19.here hx (hb hby at_136) rfl (rfl : _ = 137) ?_
    refine own_f_lload X19.here hx (hb hby at_137) rfl (rfl : _ = 139) ?_
    refine own_f_ladd X19.here hx (hb hby at_139) rfl (rfl : _ = 140) ?_
    refine own_f_l2d X19.here hx (hb hby at_140) rfl (rfl : _ = 141) ?_
    refine own_f_dstore X19.here hx (hb hby at_141) (rfl : storeLocals _ _ _ = some #[.val (.int p1), .val (.int p2), .val (.int p3), .val (.int p4), .val (.int p5), .val (.double bg), .second, .val (.double nb), .second, .val (.long la), .second, .val (.long lb), .second, .val (.long lx), .second, .val (.long ly), .second, .val (.ref b10), .val (.ref co), .val (.double (FP.l2d ((la + lb) + lx))), .second, .unset, .unset]) (rfl : _ = 143) ?_
    refine own_f_lload X19.here hx (hb hby at_143) rfl (rfl : _ = 145) ?_
    refine own_f_lload X19.here hx (hb hby at_145) rfl (rfl : _ = 147) ?_
    refine own_f_ladd X19.here hx (hb hby at_147) rfl (rfl : _ = 148) ?_
    refine own_f_lload X19.here hx (hb hby at_148) rfl (rfl : _ = 150) ?_
    refine own_f_ladd X19.here hx (hb hby at_150) rfl (rfl : _ = 151) ?_
    refine own_f_l2d X19.here hx (hb hby at_151) rfl (rfl : _ = 152) ?_
    refine own_f_dstore X19.here hx (hb hby at_152) (rfl : storeLocals _ _ _ = some #[.val (.int p1), .val (.int p2), .val (.int p3), .val (.int p4), .val (.int p5), .val (.double bg), .second, .val (.double nb), .second, .val (.long la), .second, .val (.long lb), .second, .val (.long lx), .second, .val (.long ly), .second, .val (.ref b10), .val (.ref co), .val (.double (FP.l2d ((la + lb) + lx))), .second, .val (.double (FP.l2d ((la + lb) + ly))), .second]) (rfl : _ = 154) ?_
    refine own_f_aload X19.here hx (hb hby at_154) rfl rfl (rfl : _ = 156) ?_
    refine st20.trans ?_
    show Steps p.tables e below (T20.setTop (mkF m 159 #[.val (.int p1), .val (.int p2), .val (.int p3), .val (.int p4), .val (.int p5), .val (.double bg), .second, .val (.double nb), .second, .val (.long la), .second, .val (.long lb), .second, .val (.long lx), .second, .val (.long ly), .second, .val (.ref b10), .val (.ref co), .val (.double (FP.l2d ((la + lb) + lx))), .second, .val (.double (FP.l2d ((la + lb) + ly))), .second] [(.double rcrx4_0)])) _
    refine own_f_dload X20.here hx (hb hby at_159) rfl (rfl : _ = 161) ?_
    refine own_f_dcmp X20.here hx (hb hby at_161) rfl (rfl : _ = 162) ?_
    refine own_f_ifNo X20.here hx (hb hby at_162) ((if0 _ _).trans (teq (fc)).2) (rfl : _ = 165) ?_
    refine own_f_aload X20.here hx (hb hby at_165) rfl rfl (rfl : _ = 167) ?_
    refine st21.trans ?_
    show Steps p.tables e below (T21.setTop (mkF m 170 #[.val (.int p1), .val (.int p2), .val (.int p3), .val (.int p4), .val (.int p5), .val (.double bg), .second, .val (.double nb), .second, .val (.long la), .second, .val (.long lb), .second, .val (.long lx), .second, .val (.long ly), .second, .val (.ref b10), .val (.ref co), .val (.double (FP.l2d ((la + lb) + lx))), .second, .val (.double (FP.l2d ((la + lb) + ly))), .second] [(.double rarx6_0)])) _
    refine own_f_dload X21.here hx (hb hby at_170) rfl (rfl : _ = 172) ?_
    refine own_f_dcmp X21.here hx (hb hby at_172) rfl (rfl : _ = 173) ?_
    refine own_f_ifNo X21.here hx (hb hby at_173) ((if0 _ _).trans (teq (fs_)).2) (rfl : _ = 176) ?_
    refine own_f_iconst X21.here hx (hb hby at_176) (rfl : _ = (1 : Int32)) (rfl : _ = 177) ?_
    refine own_f_goto X21.here hx (hb hby at_177) (by decide) (by decide : _ = 181) ?_
    exact retN X21 hx (t := .boolean) Bd.returns (by simp) (hb hby at_181) hr
  · show Q0 Z p1 p2 p3 p4 p5 h0 n0 _ T21.heap _
    rw [e21]
    exact ⟨rfl, N21⟩
set_option maxRecDepth 65536 in
set_option maxHeartbeats 40000000 in
theorem comes_1 {Post : Tables → Env → Array Value → State → Outcome → State → Prop} (hpost : ∀ tb e args s v u, (limb_1_1.after args s (.returned v) u = true ∧ limb_1_2.after args s (.returned v) u = true ∧ True) → FrameEnd s (.returned v) u (Jvm.fieldLocs frame_1_writes args s ++ Jvm.arrayLocs frame_1_arrays args s ++ Jvm.staticLocs frame_1_statics s) 24 128 → Post tb e args s (.returned v) u) :
    ArmFor flags0 classFile x code maxLocals ret World_1 tables_1 room_1 Calls_1 rest_1 Pre_1 Post := by
  intro l hfl _ _ p e ha hc hk s m args below hf hA hF happ hP
  obtain ⟨hcalls, hrest, hpre⟩ := hP
  obtain ⟨-, -, -, hnamed, -, -, -, hat⟩ := (Spec.applies_iff hf).mp happ
  obtain ⟨hg, hn⟩ := and_e (Cond.before_iff.mp (show (Jvm.Cond.and given_1 narrow_1).before args s = true from hpre))
  obtain ⟨gc, gr0⟩ := and_e hg
  obtain ⟨g0, gr1⟩ := and_e gr0
  obtain ⟨g1, gr2⟩ := and_e gr1
  obtain ⟨g2, gr3⟩ := and_e gr2
  obtain ⟨g3, gr4⟩ := and_e gr3
  have g4 := gr4
  obtain ⟨w0, w1, w2, w3, w4, rfl⟩ : ∃ w0 w1 w2 w3 w4 : Value, args = #[w0, w1, w2, w3, w4] := by
    have hs : args.size = 5 := by simpa [Cond.value, given_1] using gc
    obtain ⟨L⟩ := args
    match L, hs with
    | [w0, w1, w2, w3, w4], _ => exact ⟨w0, w1, w2, w3, w4, rfl⟩
  have hw := fun d (hd : d ∈ tables_1) => atoms_spec (ws := Jvm.Cond.code x code maxLocals ret :: tables_1) hat d (List.mem_cons_of_mem _ hd)
  have hfit : Fit s := fun {y c} hc i hi => by
    obtain ⟨ha, rfl⟩ := Array.getElem?_eq_some_iff.mp hc
    have q := List.all_eq_true.mp ((Array.all_eq_true_iff_forall_mem.mp hF) _ (Array.getElem_mem ha)) i (List.mem_range.mpr hi)
    simpa [Array.getElem?_eq_getElem hi] using q
  obtain ⟨i0, ei0⟩ := is_v g0
  obtain rfl : w0 = (.int i0) := Option.some.inj ei0
  obtain ⟨i1, ei1⟩ := is_v g1
  obtain rfl : w1 = (.int i1) := Option.some.inj ei1
  obtain ⟨i2, ei2⟩ := is_v g2
  obtain rfl : w2 = (.int i2) := Option.some.inj ei2
  obtain ⟨i3, ei3⟩ := is_v g3
  obtain rfl : w3 = (.int i3) := Option.some.inj ei3
  obtain ⟨i4, ei4⟩ := is_v g4
  obtain rfl : w4 = (.int i4) := Option.some.inj ei4
  obtain ⟨n, o, h1, h2, h3, _, L, rfl, ⟨rfl, N⟩, hq⟩ := rm0 l s _ hw tables_1 i0 i1 i2 i3 i4  s.heap s.heap.size (Nat.le_refl _)  p e ha hc hk s m _ below hf ((Spec.applies_iff_loose hf).mp happ).1 ⟨rfl, State.Warmed39.refl s, rfl⟩ trivial
  refine ⟨n, _, h1, h2, h3, hpost _ _ _ _ _ _ ⟨Cond.after_iff.mpr rfl, Cond.after_iff.mpr (eq_i res_at (Term.int_eval (1)) rfl), trivial⟩ ⟨hq.1, hq.2.1, (hq.2.2.sift fun y hy => Or.inr (N y hy)).mono (by decide) (by decide)⟩⟩
theorem main_1_1 : Claimed_1_1 := comes_1 fun _ _ _ _ _ _ h hF => ⟨h.1, hF⟩
theorem main_1_2 : Claimed_1_2 := comes_1 fun _ _ _ _ _ _ h hF => ⟨h.2.1, hF⟩
end Jvm.Pilot.@@N@@
namespace Jvm.Pilot.@@N@@
open Jvm Jvm.ClassFile Sem Op Lib Jvm.Free Jvm.Stand Jvm.Pilot.@@N@@.Jvm.D
/-! MADE BY PROGRAM (witnessworld.py) out of the Statement's table words and the real class files: 13 classes; the members and pool entries that the words name. The judged class is class 1, her method 1. -/
namespace start1
open Jvm.ClassFile
def u (s : String) : CpInfo := .utf8 (stringToUtf16 s)
/-- a pool by its gaps: so many unusable entries, then the entry; so many at the end -/
def gap : Nat → List CpInfo → List CpInfo
  | 0, r => r
  | n + 1, r => .unusable :: gap n r
def poolList (es : List (Nat × CpInfo)) (last : Nat) : List CpInfo := es.foldr (fun e r => gap e.1 (e.2 :: r)) (gap last [])
def pool (es : List (Nat × CpInfo)) (last : Nat) : Array CpInfo := ⟨poolList es last⟩
def fileOf (pool : Array CpInfo) (this : Nat) (attrs : Array Attribute := #[]) (ms : Array MethodInfo := #[]) (fl : Nat := 33) (sup : Nat := 0) (ifs : Array Nat := #[]) (fds : Array FieldInfo := #[]) : ClassFile where
  minorVersion := 0
  majorVersion := 65
  constantPool := pool
  accessFlags := fl
  thisClass := this
  superClass := sup
  interfaces := ifs
  fields := fds
  methods := ms
  attributes := attrs
def plain (name : String) (sup : Option ClassId) : Class where
  name := name
  kind := .ordinary
  loader := none
  accessFlags := 33
  super := sup
  interfaces := #[]
  cf := none
  fields := #[]
  methods := #[]
  instanceTypes := #[]
  staticTypes := #[]
  resolved := #[]
  callSites := []
  init := .initialized
  statics := none
  mirror := none

def pool0 : Array CpInfo := pool [(5, u "<init>"), (0, u "()V"), (1, .class_ 10), (1, u "java/lang/Object"), (85, u "clone"), (0, u "()Ljava/lang/Object;")] 26

def k0c0 : Code := { maxStack := 0, maxLocals := 1, code := object_method_1_code, exceptionTable := #[], attributes := #[] }
def k0m0 : Method := { name := "<init>", desc := "()V", sig := { parameters := [], returnType := none }, accessFlags := 1, code := some k0c0 }
def k0m1 : Method := { name := "clone", desc := "()Ljava/lang/Object;", sig := { parameters := [], returnType := some (.object "java/lang/Object") }, accessFlags := 260, code := none }
/-- java/lang/Object -/
def k0 : Class := { plain "java/lang/Object" none with
  accessFlags := 33
  interfaces := #[]
  cf := some (fileOf pool0 8 #[] #[{ accessFlags := 1, nameIndex := 5, descriptorIndex := 6, attributes := #[] }, { accessFlags := 260, nameIndex := 96, descriptorIndex := 97, attributes := #[] }] 33 0 #[] #[])
  fields := #[]
  methods := #[k0m0, k0m1]
  instanceTypes := #[]
  staticTypes := #[]
  resolved := Array.replicate 124 none
  statics := none }

def pool1 : Array CpInfo := pool [(2, .class_ 4), (0, .nameAndType 5 6), (0, u "java/lang/Object"), (0, u "<init>"), (0, u "()V"), (0, .double 4850376798678024192), (1, .class_ 10), (0, u "com/example/prose_to_query/prosetoquery/retrieval/ExactSum"), (0, .methodref 9 3), (0, .methodref 9 13), (0, .nameAndType 14 15), (0, u "add"), (0, u "(D)V"), (0, .methodref 9 17), (0, .nameAndType 18 19), (0, u "copy"), (0, u "()Lcom/example/prose_to_query/prosetoquery/retrieval/ExactSum;"), (0, .methodref 9 21), (0, .nameAndType 22 23), (0, u "value"), (0, u "()D"), (0, .class_ 25), (0, u "com/example/prose_to_query/prosetoquery/retrieval/ExactSumCopyPinLaw"), (2, u "law"), (0, u "(IIIII)Z")] 3

def k1m0 : Method := { name := "<init>", desc := "()V", sig := { parameters := [], returnType := none }, accessFlags := 1, code := none }
def k1c1 : Code := { maxStack := 4, maxLocals := 23, code := code, exceptionTable := #[], attributes := #[] }
def k1m1 : Method := { name := "law", desc := "(IIIII)Z", sig := { parameters := [.int, .int, .int, .int, .int], returnType := some .boolean }, accessFlags := 9, code := some k1c1 }
/-- com/example/prose_to_query/prosetoquery/retrieval/ExactSumCopyPinLaw -/
def k1 : Class := { plain "com/example/prose_to_query/prosetoquery/retrieval/ExactSumCopyPinLaw" (some 0) with
  accessFlags := 49
  interfaces := #[]
  cf := some (fileOf pool1 24 #[] #[{ accessFlags := 1, nameIndex := 5, descriptorIndex := 6, attributes := #[] }, { accessFlags := 9, nameIndex := 28, descriptorIndex := 29, attributes := #[] }] 49 2 #[] #[])
  fields := #[]
  methods := #[k1m0, k1m1]
  instanceTypes := #[]
  staticTypes := #[]
  resolved := Array.replicate 33 none
  statics := none }

def pool2 : Array CpInfo := pool [(1, .methodref 2 3), (0, .class_ 4), (0, .nameAndType 5 6), (0, u "java/lang/Object"), (0, u "<init>"), (0, u "()V"), (0, .fieldref 8 9), (0, .class_ 10), (0, .nameAndType 11 12), (0, u "com/example/prose_to_query/prosetoquery/retrieval/ExactSum"), (0, u "partials"), (0, u "[D"), (0, .fieldref 8 14), (0, .nameAndType 15 16), (0, u "size"), (0, u "I"), (0, .methodref 18 19), (0, .class_ 20), (0, .nameAndType 21 22), (0, u "java/lang/Math"), (0, u "abs"), (0, u "(D)D"), (0, .methodref 24 25), (0, .class_ 26), (0, .nameAndType 27 28), (0, u "java/util/Arrays"), (0, u "copyOf"), (0, u "([DI)[D"), (2, u "add"), (0, u "(D)V"), (4, .double 4611686018427387904), (1, .methodref 8 3), (4, u "value"), (0, u "()D"), (0, u "copy"), (0, u "()Lcom/example/prose_to_query/prosetoquery/retrieval/ExactSum;")] 2

def k2c0 : Code := { maxStack := 2, maxLocals := 1, code := prog_8_method_1_code, exceptionTable := #[], attributes := #[] }
def k2m0 : Method := { name := "<init>", desc := "()V", sig := { parameters := [], returnType := none }, accessFlags := 1, code := some k2c0 }
def k2c1 : Code := { maxStack := 6, maxLocals := 13, code := prog_8_method_2_code, exceptionTable := #[], attributes := #[] }
def k2m1 : Method := { name := "add", desc := "(D)V", sig := { parameters := [.double], returnType := none }, accessFlags := 1, code := some k2c1 }
def k2c2 : Code := { maxStack := 6, maxLocals := 10, code := prog_8_method_4_code, exceptionTable := #[], attributes := #[] }
def k2m2 : Method := { name := "value", desc := "()D", sig := { parameters := [], returnType := some .double }, accessFlags := 1, code := some k2c2 }
def k2c3 : Code := { maxStack := 3, maxLocals := 2, code := prog_8_method_5_code, exceptionTable := #[], attributes := #[] }
def k2m3 : Method := { name := "copy", desc := "()Lcom/example/prose_to_query/prosetoquery/retrieval/ExactSum;", sig := { parameters := [], returnType := some (.object "com/example/prose_to_query/prosetoquery/retrieval/ExactSum") }, accessFlags := 1, code := some k2c3 }
/-- com/example/prose_to_query/prosetoquery/retrieval/ExactSum -/
def k2 : Class := { plain "com/example/prose_to_query/prosetoquery/retrieval/ExactSum" (some 0) with
  accessFlags := 49
  interfaces := #[]
  cf := some (fileOf pool2 8 #[] #[{ accessFlags := 1, nameIndex := 5, descriptorIndex := 6, attributes := #[] }, { accessFlags := 1, nameIndex := 31, descriptorIndex := 32, attributes := #[] }, { accessFlags := 1, nameIndex := 44, descriptorIndex := 45, attributes := #[] }, { accessFlags := 1, nameIndex := 46, descriptorIndex := 47, attributes := #[] }] 49 2 #[] #[{ accessFlags := 2, nameIndex := 11, descriptorIndex := 12, attributes := #[] }, { accessFlags := 2, nameIndex := 15, descriptorIndex := 16, attributes := #[] }])
  fields := #[{ name := "partials", type := (.array .double), accessFlags := 2, slot := 0, constantValue := 0 }, { name := "size", type := .int, accessFlags := 2, slot := 1, constantValue := 0 }]
  methods := #[k2m0, k2m1, k2m2, k2m3]
  instanceTypes := #[(.array .double), .int]
  staticTypes := #[]
  resolved := Array.replicate 50 none
  statics := none }

def pool3 : Array CpInfo := pool [(1, .class_ 2), (0, u "java/lang/Math"), (1, .class_ 6), (1, u "java/lang/Object"), (0, u "<init>"), (0, u "()V"), (5, u "(D)D"), (83, .class_ 100), (1, u "java/lang/Math$RandomNumberGeneratorHolder"), (23, u "abs"), (47, u "negativeZeroFloatBits"), (0, u "J"), (2, u "negativeZeroDoubleBits"), (68, u "$assertionsDisabled"), (0, u "Z"), (91, u "twoToTheDoubleScaleDown"), (0, u "D"), (4, u "twoToTheDoubleScaleUp"), (9, u "E"), (3, u "PI"), (2, u "TAU"), (2, u "DEGREES_TO_RADIANS"), (0, u "RADIANS_TO_DEGREES")] 94

def k3m0 : Method := { name := "<init>", desc := "()V", sig := { parameters := [], returnType := none }, accessFlags := 2, code := none }
def k3c1 : Code := { maxStack := 4, maxLocals := 2, code := jdk_29_method_64_code, exceptionTable := #[], attributes := #[] }
def k3m1 : Method := { name := "abs", desc := "(D)D", sig := { parameters := [.double], returnType := some .double }, accessFlags := 9, code := some k3c1 }
/-- java/lang/Math -/
def k3 : Class := { plain "java/lang/Math" (some 0) with
  accessFlags := 49
  interfaces := #[]
  cf := some (fileOf pool3 1 #[.nestMembers #[98]] #[{ accessFlags := 2, nameIndex := 7, descriptorIndex := 8, attributes := #[] }, { accessFlags := 9, nameIndex := 124, descriptorIndex := 14, attributes := #[] }] 49 4 #[] #[{ accessFlags := 25, nameIndex := 354, descriptorIndex := 339, attributes := #[] }, { accessFlags := 25, nameIndex := 358, descriptorIndex := 339, attributes := #[] }, { accessFlags := 25, nameIndex := 361, descriptorIndex := 339, attributes := #[] }, { accessFlags := 26, nameIndex := 364, descriptorIndex := 339, attributes := #[] }, { accessFlags := 26, nameIndex := 365, descriptorIndex := 339, attributes := #[] }, { accessFlags := 26, nameIndex := 172, descriptorIndex := 173, attributes := #[] }, { accessFlags := 26, nameIndex := 176, descriptorIndex := 173, attributes := #[] }, { accessFlags := 8, nameIndex := 344, descriptorIndex := 339, attributes := #[] }, { accessFlags := 8, nameIndex := 338, descriptorIndex := 339, attributes := #[] }, { accessFlags := 4120, nameIndex := 245, descriptorIndex := 246, attributes := #[] }])
  fields := #[{ name := "E", type := .double, accessFlags := 25, slot := 0, constantValue := 0 }, { name := "PI", type := .double, accessFlags := 25, slot := 1, constantValue := 0 }, { name := "TAU", type := .double, accessFlags := 25, slot := 2, constantValue := 0 }, { name := "DEGREES_TO_RADIANS", type := .double, accessFlags := 26, slot := 3, constantValue := 0 }, { name := "RADIANS_TO_DEGREES", type := .double, accessFlags := 26, slot := 4, constantValue := 0 }, { name := "negativeZeroFloatBits", type := .long, accessFlags := 26, slot := 5, constantValue := 0 }, { name := "negativeZeroDoubleBits", type := .long, accessFlags := 26, slot := 6, constantValue := 0 }, { name := "twoToTheDoubleScaleUp", type := .double, accessFlags := 8, slot := 7, constantValue := 0 }, { name := "twoToTheDoubleScaleDown", type := .double, accessFlags := 8, slot := 8, constantValue := 0 }, { name := "$assertionsDisabled", type := .boolean, accessFlags := 4120, slot := 9, constantValue := 0 }]
  methods := #[k3m0, k3m1]
  instanceTypes := #[]
  staticTypes := #[.double, .double, .double, .double, .double, .long, .long, .double, .double, .boolean]
  resolved := Array.replicate 460 none
  statics := none }

def pool4 : Array CpInfo := pool [(2, .class_ 4), (1, u "java/lang/Object"), (0, u "<init>"), (0, u "()V"), (7, .class_ 16), (1, u "java/util/Arrays"), (57, .class_ 76), (1, u "java/util/Arrays$NaturalOrder"), (32, u "()Ljava/lang/Object;"), (3, .class_ 115), (1, u "java/util/Arrays$LegacyMergeSort"), (1, u "Z"), (10, .nameAndType 129 109), (0, u "clone"), (172, u "copyOf"), (25, .methodref 329 128), (0, .class_ 330), (0, u "[D"), (44, .class_ 376), (0, u "java/util/Arrays$ArrayList"), (68, u "$assertionsDisabled"), (269, u "MIN_ARRAY_SORT_GRAN"), (0, u "I"), (2, u "INSERTIONSORT_THRESHOLD"), (155, u "([DI)[D"), (99, .class_ 976), (0, u "java/util/Arrays$ArrayItr")] 52

def k4m0 : Method := { name := "<init>", desc := "()V", sig := { parameters := [], returnType := none }, accessFlags := 2, code := none }
def k4c1 : Code := { maxStack := 6, maxLocals := 3, code := jdk_65_method_127_code, exceptionTable := #[], attributes := #[] }
def k4m1 : Method := { name := "copyOf", desc := "([DI)[D", sig := { parameters := [(.array .double), .int], returnType := some (.array .double) }, accessFlags := 9, code := some k4c1 }
/-- java/util/Arrays -/
def k4 : Class := { plain "java/util/Arrays" (some 0) with
  accessFlags := 49
  interfaces := #[]
  cf := some (fileOf pool4 14 #[.nestMembers #[975, 375, 113, 74]] #[{ accessFlags := 2, nameIndex := 5, descriptorIndex := 6, attributes := #[] }, { accessFlags := 9, nameIndex := 302, descriptorIndex := 875, attributes := #[] }] 49 2 #[] #[{ accessFlags := 26, nameIndex := 715, descriptorIndex := 716, attributes := #[] }, { accessFlags := 26, nameIndex := 719, descriptorIndex := 716, attributes := #[] }, { accessFlags := 4120, nameIndex := 445, descriptorIndex := 117, attributes := #[] }])
  fields := #[{ name := "MIN_ARRAY_SORT_GRAN", type := .int, accessFlags := 26, slot := 0, constantValue := 0 }, { name := "INSERTIONSORT_THRESHOLD", type := .int, accessFlags := 26, slot := 1, constantValue := 0 }, { name := "$assertionsDisabled", type := .boolean, accessFlags := 4120, slot := 2, constantValue := 0 }]
  methods := #[k4m0, k4m1]
  instanceTypes := #[]
  staticTypes := #[.int, .int, .boolean]
  resolved := Array.replicate 1029 none
  statics := none }

def pool5 : Array CpInfo := pool [(1, .class_ 2), (0, u "java/lang/Cloneable"), (0, .class_ 4), (0, u "java/lang/Object")] 2

/-- java/lang/Cloneable -/
def k5 : Class := { plain "java/lang/Cloneable" (some 0) with
  accessFlags := 1537
  interfaces := #[]
  cf := some (fileOf pool5 1 #[] #[] 1537 3 #[] #[])
  fields := #[]
  methods := #[]
  instanceTypes := #[]
  staticTypes := #[]
  resolved := Array.replicate 7 none
  statics := none }

def pool6 : Array CpInfo := pool [(1, u "java/io/Serializable"), (0, .class_ 1), (0, u "java/lang/Object"), (0, .class_ 3)] 3

/-- java/io/Serializable -/
def k6 : Class := { plain "java/io/Serializable" (some 0) with
  accessFlags := 1537
  interfaces := #[]
  cf := some (fileOf pool6 2 #[] #[] 1537 4 #[] #[])
  fields := #[]
  methods := #[]
  instanceTypes := #[]
  staticTypes := #[]
  resolved := Array.replicate 8 none
  statics := none }

/-- the primitive byte -/
def k7 : Class := { plain "byte" none with kind := .primitive 'B', accessFlags := 0x411 }
/-- [B -/
def k8 : Class := { plain "[B" (some 0) with kind := .array 7 .byte, interfaces := #[5, 6], accessFlags := 1041 }

/-- the primitive double -/
def k9 : Class := { plain "double" none with kind := .primitive 'D', accessFlags := 0x411 }
/-- [D -/
def k10 : Class := { plain "[D" (some 0) with kind := .array 9 .double, interfaces := #[5, 6], accessFlags := 1041 }

/-- the primitive int -/
def k11 : Class := { plain "int" none with kind := .primitive 'I', accessFlags := 0x411 }
/-- [I -/
def k12 : Class := { plain "[I" (some 0) with kind := .array 11 .int, interfaces := #[5, 6], accessFlags := 1041 }

def heap : Heap := #[]
def classes : Array Class := #[k0, k1, k2, k3, k4, k5, k6, k7, k8, k9, k10, k11, k12]
def interned : List (Array UInt16 × Addr) := []
def slotsUsed : Nat := 0
def theMethod : MethodId := ⟨1, 1⟩
def args0 : Array Value := #[.int 3, .int 4, .int 5, .int 6, .int 7]
def aboutOver (below : List Frame) : State where
  vm := { classes := classes, interned := interned.toArray }
  heap := heap
  slotsUsed := slotsUsed
  threads := #[{ frames := .invoking theMethod args0 :: below }]
def below0 : List Frame := [.native { method := ⟨0, 0⟩, args := #[] }]
def about1 : State := aboutOver below0
def p0 : Program := .bare "" "" ""
def e0 : Env := launch0.env 0 0 0
theorem w_frames : about1.frames = Frame.invoking theMethod args0 :: below0 := rfl
set_option maxRecDepth 65536 in
theorem w_args : argsFit about1.vm theMethod args0 = true := by decide +kernel
set_option maxRecDepth 65536 in
theorem w_heap : heapFits about1 = true := by decide +kernel
set_option maxRecDepth 65536 in
theorem w_runnable : about1.curStatus? = some .runnable := by decide +kernel
set_option maxRecDepth 65536 in
theorem w_alone : about1.alone = true := by decide +kernel
set_option maxRecDepth 65536 in
theorem w_named : about1.methodNamed? x = some theMethod := by decide +kernel
set_option maxRecDepth 65536 in
theorem w_hears : about1.hears theMethod below0 = true := by decide +kernel
set_option maxRecDepth 65536 in
theorem w_ripe : about1.ripe theMethod args0 below0 = true := by decide +kernel
theorem w_running : about1.status = .running := rfl
set_option maxRecDepth 65536 in
theorem w_room : about1.hasRoom e0.platform room_1 = true :=
  launch0.hasRoom_least _ room_1 (by decide +kernel) (by decide +kernel) (by decide +kernel) (by decide +kernel) (by decide +kernel) (by decide +kernel)
theorem allAtoms_all (ts : List Jvm.Cond) (a : Array Jvm.Value) (st : Jvm.State) : (allAtoms ts).before a st = ts.all (fun c => c.before a st) := by
  induction ts with
  | nil => rfl
  | cons c t ih =>
    show (Jvm.Cond.and c (allAtoms t)).before a st = _
    rw [Jvm.Cond.before_and, ih, List.all_cons]
def words1 : List Jvm.Cond := Jvm.Cond.code x code maxLocals ret :: tables_1
/-- a 'code' word, met by the world's own term for the bytes: nothing is compared byte by byte -/
theorem code_word {y : MethodName} {bytes : ByteArray} {mx : Nat} {rt : Option FieldType} {a : Array Value} {s : State} {m : MethodId} {meth : Method} {c : Code} (h1 : s.methodNamed? y = some m) (h2 : s.vm.method? m = some meth) (h3 : meth.code = some c) (h4 : c.code = bytes)
    (h5 : (c.maxLocals == mx && c.exceptionTable.isEmpty && decide (c.maxStack ≤ mostOperands) && decide (meth.sig.returnType = rt) && !meth.locks && decide (parseMethodDescriptor y.desc = some meth.sig)) = true) : (Jvm.Cond.code y bytes mx rt).before a s = true := by
  simp only [Bool.and_eq_true, beq_iff_eq, Bool.not_eq_true', decide_eq_true_eq] at h5
  obtain ⟨⟨⟨⟨⟨g1, g2⟩, g3⟩, g4⟩, g5⟩, g6⟩ := h5
  simp [Cond.before, Cond.holds, Cond.value, h1, h2, h3, h4, g1, g2, g3, g4, g5, g6]
def isCode : Jvm.Cond → Bool
  | .code _ _ _ _ => true
  | _ => false
theorem all_split {L : List Jvm.Cond} {P : Jvm.Cond → Bool} (h1 : L.all (fun c => isCode c || P c) = true) (h2 : ∀ c ∈ L.filter isCode, P c = true) : L.all P = true := by
  refine List.all_eq_true.mpr fun c hc => ?_
  have h := List.all_eq_true.mp h1 c hc
  rcases Bool.eq_false_or_eq_true (isCode c) with hi | hi
  · exact h2 c (List.mem_filter.mpr ⟨hc, hi⟩)
  · simpa [hi] using h
set_option maxRecDepth 65536 in
theorem w_c0 : (Jvm.Cond.code x code maxLocals ret).before args0 about1 = true := code_word (m := ⟨1, 1⟩) (meth := k1m1) (c := k1c1) (by decide +kernel) rfl rfl rfl (by decide +kernel)
set_option maxRecDepth 65536 in
theorem w_c1 : (Jvm.Cond.code ({ cls := "com/example/prose_to_query/prosetoquery/retrieval/ExactSum", name := "<init>", desc := "()V" } : Jvm.MethodName) prog_8_method_1_code (1 : Nat) (Option.none : Option Jvm.ClassFile.FieldType)).before args0 about1 = true := code_word (m := ⟨2, 0⟩) (meth := k2m0) (c := k2c0) (by decide +kernel) rfl rfl rfl (by decide +kernel)
set_option maxRecDepth 65536 in
theorem w_c2 : (Jvm.Cond.code ({ cls := "java/lang/Object", name := "<init>", desc := "()V" } : Jvm.MethodName) object_method_1_code (1 : Nat) (Option.none : Option Jvm.ClassFile.FieldType)).before args0 about1 = true := code_word (m := ⟨0, 0⟩) (meth := k0m0) (c := k0c0) (by decide +kernel) rfl rfl rfl (by decide +kernel)
set_option maxRecDepth 65536 in
theorem w_c3 : (Jvm.Cond.code ({ cls := "com/example/prose_to_query/prosetoquery/retrieval/ExactSum", name := "add", desc := "(D)V" } : Jvm.MethodName) prog_8_method_2_code (13 : Nat) (Option.none : Option Jvm.ClassFile.FieldType)).before args0 about1 = true := code_word (m := ⟨2, 1⟩) (meth := k2m1) (c := k2c1) (by decide +kernel) rfl rfl rfl (by decide +kernel)
set_option maxRecDepth 65536 in
theorem w_c4 : (Jvm.Cond.code ({ cls := "java/lang/Math", name := "abs", desc := "(D)D" } : Jvm.MethodName) jdk_29_method_64_code (2 : Nat) (Option.some Jvm.ClassFile.FieldType.double)).before args0 about1 = true := code_word (m := ⟨3, 1⟩) (meth := k3m1) (c := k3c1) (by decide +kernel) rfl rfl rfl (by decide +kernel)
set_option maxRecDepth 65536 in
theorem w_c5 : (Jvm.Cond.code ({ cls := "com/example/prose_to_query/prosetoquery/retrieval/ExactSum", name := "copy", desc := "()Lcom/example/prose_to_query/prosetoquery/retrieval/ExactSum;" } : Jvm.MethodName) prog_8_method_5_code (2 : Nat) (Option.some (Jvm.ClassFile.FieldType.object "com/example/prose_to_query/prosetoquery/retrieval/ExactSum"))).before args0 about1 = true := code_word (m := ⟨2, 3⟩) (meth := k2m3) (c := k2c3) (by decide +kernel) rfl rfl rfl (by decide +kernel)
set_option maxRecDepth 65536 in
theorem w_c6 : (Jvm.Cond.code ({ cls := "java/util/Arrays", name := "copyOf", desc := "([DI)[D" } : Jvm.MethodName) jdk_65_method_127_code (3 : Nat) (Option.some (Jvm.ClassFile.FieldType.array Jvm.ClassFile.FieldType.double))).before args0 about1 = true := code_word (m := ⟨4, 1⟩) (meth := k4m1) (c := k4c1) (by decide +kernel) rfl rfl rfl (by decide +kernel)
set_option maxRecDepth 65536 in
theorem w_c7 : (Jvm.Cond.code ({ cls := "com/example/prose_to_query/prosetoquery/retrieval/ExactSum", name := "value", desc := "()D" } : Jvm.MethodName) prog_8_method_4_code (10 : Nat) (Option.some Jvm.ClassFile.FieldType.double)).before args0 about1 = true := code_word (m := ⟨2, 2⟩) (meth := k2m2) (c := k2c2) (by decide +kernel) rfl rfl rfl (by decide +kernel)
def codes1 : List Jvm.Cond := [Jvm.Cond.code x code maxLocals ret, Jvm.Cond.code ({ cls := "com/example/prose_to_query/prosetoquery/retrieval/ExactSum", name := "<init>", desc := "()V" } : Jvm.MethodName) prog_8_method_1_code (1 : Nat) (Option.none : Option Jvm.ClassFile.FieldType), Jvm.Cond.code ({ cls := "java/lang/Object", name := "<init>", desc := "()V" } : Jvm.MethodName) object_method_1_code (1 : Nat) (Option.none : Option Jvm.ClassFile.FieldType), Jvm.Cond.code ({ cls := "com/example/prose_to_query/prosetoquery/retrieval/ExactSum", name := "add", desc := "(D)V" } : Jvm.MethodName) prog_8_method_2_code (13 : Nat) (Option.none : Option Jvm.ClassFile.FieldType), Jvm.Cond.code ({ cls := "java/lang/Math", name := "abs", desc := "(D)D" } : Jvm.MethodName) jdk_29_method_64_code (2 : Nat) (Option.some Jvm.ClassFile.FieldType.double), Jvm.Cond.code ({ cls := "com/example/prose_to_query/prosetoquery/retrieval/ExactSum", name := "copy", desc := "()Lcom/example/prose_to_query/prosetoquery/retrieval/ExactSum;" } : Jvm.MethodName) prog_8_method_5_code (2 : Nat) (Option.some (Jvm.ClassFile.FieldType.object "com/example/prose_to_query/prosetoquery/retrieval/ExactSum")), Jvm.Cond.code ({ cls := "java/util/Arrays", name := "copyOf", desc := "([DI)[D" } : Jvm.MethodName) jdk_65_method_127_code (3 : Nat) (Option.some (Jvm.ClassFile.FieldType.array Jvm.ClassFile.FieldType.double)), Jvm.Cond.code ({ cls := "com/example/prose_to_query/prosetoquery/retrieval/ExactSum", name := "value", desc := "()D" } : Jvm.MethodName) prog_8_method_4_code (10 : Nat) (Option.some Jvm.ClassFile.FieldType.double)]
set_option maxRecDepth 65536 in
theorem codes_eq : words1.filter isCode = codes1 := rfl
theorem w_codes : ∀ c ∈ words1.filter isCode, c.before args0 about1 = true := by
  rw [codes_eq]
  intro c hc
  simp only [codes1, List.mem_cons, List.not_mem_nil, or_false] at hc
  rcases hc with rfl | rfl | rfl | rfl | rfl | rfl | rfl | rfl
  · exact w_c0
  · exact w_c1
  · exact w_c2
  · exact w_c3
  · exact w_c4
  · exact w_c5
  · exact w_c6
  · exact w_c7
set_option maxRecDepth 65536 in
theorem w_t1 : (words1.take 24).all (fun c => isCode c || c.before args0 about1) = true := by decide +kernel
set_option maxRecDepth 65536 in
theorem w_t2 : ((words1.drop 24).take 24).all (fun c => isCode c || c.before args0 about1) = true := by decide +kernel
set_option maxRecDepth 65536 in
theorem w_t3 : ((words1.drop 24).drop 24).all (fun c => isCode c || c.before args0 about1) = true := by decide +kernel
theorem w_tables : (allAtoms (Jvm.Cond.code x code maxLocals ret :: tables_1)).before args0 about1 = true := by
  rw [allAtoms_all]
  show words1.all (fun c => c.before args0 about1) = true
  refine all_split ?_ w_codes
  rw [← List.take_append_drop 24 words1, List.all_append, w_t1, ← List.take_append_drop 24 (words1.drop 24), List.all_append, w_t2, w_t3]
  rfl
set_option maxRecDepth 65536 in
theorem w_case : (Jvm.Cond.and given_1 narrow_1).before args0 about1 = true := by decide +kernel
theorem w_applies : (headSpec (Jvm.Cond.code x code maxLocals ret :: tables_1) room_1).applies x e0.platform about1 = true :=
  (Spec.applies_iff w_frames).mpr ⟨w_running, w_runnable, w_alone, w_named, w_hears, w_ripe, w_room, w_tables⟩
theorem atStart : AtStart classFile x code maxLocals ret World_1 tables_1 room_1 Calls_1 rest_1 Pre_1 launch0 p0 e0 about1 theMethod args0 below0 :=
  ⟨lists_1, trivial, launch0.admits_env _ _ _, launch0.least_env, fairChoices_fair.cas, fairChoices_fair.clock, w_frames, w_args, w_heap, w_applies, trivial, trivial, w_case⟩
end start1
theorem witness_1 : WitnessClaimed_1 := ⟨start1.p0, start1.e0, start1.about1, start1.theMethod, start1.args0, start1.below0, start1.atStart⟩
end Jvm.Pilot.@@N@@
