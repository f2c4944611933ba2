import JvmDerived
import JvmDerived.Pilot.@@N@@Statement
import JvmDerived.Pilot.@@N@@Code
set_option linter.unusedVariables false
set_option linter.unusedSimpArgs false
namespace Jvm.RoadKit
open Sem ClassFile Op Lib Jvm.Stand Jvm.Free Jvm.LawKit
section New
variable {p : Program} {l : Launch} {e : Env} {R : Room} {s : State} {m : MethodId} {args : Array Value} {below : List Frame} {meth : Method} {c : Code} {T : State} {locs : List Loc} {cells slots : Nat}
theorem retI (X : Stand p l e R s m args below meth c T locs cells slots) (hx : p.tables.exec = Jvm.exec) {pc : Nat} {Ls : Array Slot} {z : Int32} {rest : List Value} (hret : meth.sig.returnType = some .int) (hd : decode c.code pc = .ok (.ireturn, 1)) {fs : List Frame}
    (hl : ∀ (f : JFrame) (acts : List Action), f.method = m → f.locked = none → f.entered = [] → (doReturn e (T.setTop f) acts (some (.int z))).1 = T.setFrames fs) : Steps p.tables e below (T.setTop (mkF m pc Ls (.int z :: rest))) (T.setFrames fs) := by
  have hm' : T.vm.method? m = some meth := X.method'
  have hn : narrow .int (.int z) = .int z := rfl
  show Steps p.tables e below (T.setTop { method := m, pc := pc, locals := Ls, stack := _ :: rest, locked := none }) _
  jvm_step X.here [X.here.top, hx, hd, hm', hret, hn]
  first | (intro acts; rw [hl _ acts rfl rfl rfl]) | rw [hl _ _ rfl rfl rfl]
  exact Steps.refl _
theorem retD (X : Stand p l e R s m args below meth c T locs cells slots) (hx : p.tables.exec = Jvm.exec) {pc : Nat} {Ls : Array Slot} {z : UInt64} {rest : List Value} (hret : meth.sig.returnType = some .double) (hd : decode c.code pc = .ok (.dreturn, 1)) {fs : List Frame}
    (hl : ∀ (f : JFrame) (acts : List Action), f.method = m → f.locked = none → f.entered = [] → (doReturn e (T.setTop f) acts (some (.double z))).1 = T.setFrames fs) : Steps p.tables e below (T.setTop (mkF m pc Ls (.double z :: rest))) (T.setFrames fs) := by
  have hm' : T.vm.method? m = some meth := X.method'
  show Steps p.tables e below (T.setTop { method := m, pc := pc, locals := Ls, stack := _ :: rest, locked := none }) _
  jvm_step X.here [X.here.top, hx, hd, hm', hret]
  first | (intro acts; rw [hl _ acts rfl rfl rfl]) | rw [hl _ _ rfl rfl rfl]
  exact Steps.refl _
end New
end Jvm.RoadKit
/- laws to paste: Road.backArv (cut by pick.py; bodies as the Statement names them) -/
namespace Jvm.Pilot.@@N@@
namespace StrChars
open Jvm Sem ClassFile Op Lib Jvm.Stand Jvm.Free.XT Jvm.Free.ALB Jvm.Free.JM Jvm.Free
open Jvm.Lib.Cold (StaticIs)
/-- a char array whose places are chars -/
def Ch (a : Addr) (A : Cell) (U : State) : Prop := Arr .char a A U ∧ Typed .char A
theorem Ch.mv {a : Addr} {A : Cell} {U U' : State} (h : Ch a A U) (hal : U.vm.Alike U'.vm) (hh : U'.heap = U.heap) : Ch a A U' := ⟨h.1.mv hal hh, h.2⟩
theorem Ch.keep {a : Addr} {A : Cell} {U U' : State} (h : Ch a A U) (hal : U.vm.Alike U'.vm) (hk : U'.heap[a]? = some A) : Ch a A U' := ⟨h.1.keep hal hk, h.2⟩
/-- what place i of a char[]'s cell holds -/
def cv (A : Cell) (i : Nat) : Int32 := match A.slots[i]? with | some (.int x) => x | _ => 0
theorem Ch.get {a : Addr} {A : Cell} {U : State} (h : Ch a A U) {i : Nat} (hi : i < A.slots.size) : A.slots[i]? = some (.int (cv A i)) := by
  have e := Array.getElem?_eq_getElem hi
  have f := h.2 i _ e
  unfold cv; rw [e]
  generalize A.slots[i] = v at f
  cases v <;> simp [fits] at f ⊢
/-- the byte that i2b leaves of a char -/
def lo8 (x : Int32) : Int32 := x.toInt8.toInt32
theorem fits_lo8 (y : Int32) : fits .byte (.int (lo8 y)) = true := by
  have h1 := y.toInt8.le_toInt
  have h2 := y.toInt8.toInt_lt
  simp only [lo8, fits, Bool.and_eq_true, decide_eq_true_eq, Int32.le_iff_toInt_le, Int8.toInt_toInt32, show (-128 : Int32).toInt = -128 from by decide, show (127 : Int32).toInt = 127 from by decide]
  omega
/-- A' is A but that each place j of lo .. hi - 1 holds f j -/
def Laid (A A' : Cell) (lo hi : Nat) (f : Nat → Value) : Prop := A'.cls = A.cls ∧ A'.vm = A.vm ∧ A'.slots.size = A.slots.size ∧ ∀ i, A'.slots[i]? = if lo ≤ i ∧ i < hi then some (f i) else A.slots[i]?
theorem Laid.zero (A : Cell) (lo : Nat) (f : Nat → Value) : Laid A A lo (lo + 0) f := ⟨rfl, rfl, rfl, fun i => by rw [if_neg (by omega)]⟩
theorem Laid.step {A Ak : Cell} {lo k : Nat} {f : Nat → Value} {v : Value} (h : Laid A Ak lo k f) (hlo : lo ≤ k) (hk : k < Ak.slots.size) (hv : v = f k) : Laid A (Ak.setSlot k v) lo (k + 1) f := by
  refine ⟨h.1, h.2.1, by simpa [Cell.setSlot] using h.2.2.1, fun i => ?_⟩
  by_cases e : k = i
  · subst e; rw [Cell.slots_setSlot_self v hk, if_pos (by omega), hv]
  · rw [Cell.slots_setSlot_ne v e, h.2.2.2 i]
    by_cases q : lo ≤ i ∧ i < k
    · rw [if_pos q, if_pos (by omega)]
    · rw [if_neg q, if_neg (by omega)]
def U16 : String := "java/lang/StringUTF16"
namespace Cmp5
def yN : MethodName := ⟨"java/lang/StringUTF16", "compress", "([CI[BII)I"⟩
abbrev yB : ByteArray := jdk_52_method_21_code
theorem d0 : decode yB 0 = .ok (.iconst 0, 1) := by decide +kernel
theorem d1 : decode yB 1 = .ok (.istore 5, 2) := by decide +kernel
theorem d3 : decode yB 3 = .ok (.iload 5, 2) := by decide +kernel
theorem d5 : decode yB 5 = .ok (.iload 4, 2) := by decide +kernel
theorem d7 : decode yB 7 = .ok (.if_icmp (.ge) 37, 3) := by decide +kernel
theorem d10 : decode yB 10 = .ok (.aload_n 0, 1) := by decide +kernel
theorem d11 : decode yB 11 = .ok (.iload_n 1, 1) := by decide +kernel
theorem d12 : decode yB 12 = .ok (.caload, 1) := by decide +kernel
theorem d13 : decode yB 13 = .ok (.istore 6, 2) := by decide +kernel
theorem d15 : decode yB 15 = .ok (.iload 6, 2) := by decide +kernel
theorem d17 : decode yB 17 = .ok (.sipush 255, 3) := by decide +kernel
theorem d20 : decode yB 20 = .ok (.if_icmp (.le) 6, 3) := by decide +kernel
theorem d26 : decode yB 26 = .ok (.aload_n 2, 1) := by decide +kernel
theorem d27 : decode yB 27 = .ok (.iload_n 3, 1) := by decide +kernel
theorem d28 : decode yB 28 = .ok (.iload 6, 2) := by decide +kernel
theorem d30 : decode yB 30 = .ok (.i2b, 1) := by decide +kernel
theorem d31 : decode yB 31 = .ok (.bastore, 1) := by decide +kernel
theorem d32 : decode yB 32 = .ok (.iinc 1 1, 3) := by decide +kernel
theorem d35 : decode yB 35 = .ok (.iinc 3 1, 3) := by decide +kernel
theorem d38 : decode yB 38 = .ok (.iinc 5 1, 3) := by decide +kernel
theorem d41 : decode yB 41 = .ok (.goto (-38), 3) := by decide +kernel
theorem d44 : decode yB 44 = .ok (.iload 4, 2) := by decide +kernel
theorem d46 : decode yB 46 = .ok (.ireturn, 1) := by decide +kernel
def site : List Cond := []
def tab : Cond := tabOf yN yB 7 (some .int) site
def P (b : Addr) (A : Cell) (d : Addr) (B : Cell) (o q len : Nat) (args : Array Value) (s : State) : Prop := args = #[.ref b, .int (Int32.ofNat o), .ref d, .int (Int32.ofNat q), .int (Int32.ofNat len)] ∧ Ch b A s ∧ Arr .byte d B s ∧ b ≠ d ∧ o + len ≤ A.slots.size ∧ q + len ≤ B.slots.size ∧ ∀ i, i < len → ¬ 255 < cv A (o + i)
def E (b : Addr) (A : Cell) (d : Addr) (B : Cell) (o q len : Nat) (r : Option Value) (s u : State) : Prop := r = some (.int (Int32.ofNat len)) ∧ ∃ B', Put d B' s u ∧ Laid B B' q (q + len) (fun j => Value.int (lo8 (cv A (o + (j - q)))))
/-- no char of the range above 255: len; the places written hold each char's low byte -/
theorem law (l : Launch) (b : Addr) (A : Cell) (d : Addr) (B : Cell) (o q len : Nat) : Law l yN 5 5 0 0 yB 7 (some .int) site (P b A d B o q len) (E b A d B o q len) (copyLocs d q len) 0 0 := by
  refine Law.of_walk (plainFor_of_name (by decide +kernel)) (by decide +kernel) (by decide +kernel) (by decide) (fun _ _ h => by rw [h.1]; rfl) (fun _ U U' hal hh h => ⟨h.1, h.2.1.mv hal hh, h.2.2.1.mv hal hh, h.2.2.2⟩) (fun r U U' V V' h1 hal h2 h => ⟨h.1, h.2.elim fun B' q => ⟨B', q.1.mv h1 h2, q.2⟩⟩) ?_
  intro p e s m args below meth c s₁ X0 hexec hbytes hml hret hlk hnm hown hh0 W hP
  obtain ⟨rfl, hA, hB, hne, l1, l2, hp⟩ := hP
  have c1 : Steps p.tables e below (s₁.setTop (entryFrame m #[.ref b, .int (Int32.ofNat o), .ref d, .int (Int32.ofNat q), .int (Int32.ofNat len)] 7)) (s₁.setTop (mkF m 0 #[.val (.ref b), .val (.int (Int32.ofNat o)), .val (.ref d), .val (.int (Int32.ofNat q)), .val (.int (Int32.ofNat len)), .unset, .unset] [])) := entry rfl
  have hA0 := hA.1.mv X0.warmed.alike hh0
  have hB0 := hB.mv X0.warmed.alike hh0
  have a31 := hA.1.2.2.2
  have c2 : Steps p.tables e below (s₁.setTop (entryFrame m #[.ref b, .int (Int32.ofNat o), .ref d, .int (Int32.ofNat q), .int (Int32.ofNat len)] 7)) (s₁.setTop (mkF m 3 #[.val (.ref b), .val (.int (Int32.ofNat o)), .val (.ref d), .val (.int (Int32.ofNat q)), .val (.int (Int32.ofNat len)), .val (.int 0), .unset] [])) := c1.trans (by
    refine iconstV X0.here hexec rfl 0 (hb hbytes d0) (by decide) ?_
    refine XS.istore X0.here hexec rfl (hb hbytes d1) rfl rfl ?_
    exact Steps.refl _)
  have loop : ∀ (r i : Nat), i + r = len → ∀ (z : Slot), (z = .unset ∨ ∃ w, z = .val w ∧ w.category = 1) → ∀ (Tl : State) (Bk : Cell), Stand p l e { frames := 0, locals := 0, cells := 0, slots := 0 } s m #[.ref b, .int (Int32.ofNat o), .ref d, .int (Int32.ofNat q), .int (Int32.ofNat len)] below meth c Tl ([] ++ copyLocs d q i) 0 0 → Put d Bk s₁ Tl → Laid B Bk q (q + i) (fun j => Value.int (lo8 (cv A (o + (j - q))))) →
      Steps p.tables e below (s₁.setTop (entryFrame m #[.ref b, .int (Int32.ofNat o), .ref d, .int (Int32.ofNat q), .int (Int32.ofNat len)] 7)) (Tl.setTop (mkF m 3 #[.val (.ref b), .val (.int (Int32.ofNat (o + i))), .val (.ref d), .val (.int (Int32.ofNat (q + i))), .val (.int (Int32.ofNat len)), .val (.int (Int32.ofNat i)), z] [])) → ∃ (T' : State) (B' : Cell) (z' : Slot), Stand p l e { frames := 0, locals := 0, cells := 0, slots := 0 } s m #[.ref b, .int (Int32.ofNat o), .ref d, .int (Int32.ofNat q), .int (Int32.ofNat len)] below meth c T' ([] ++ copyLocs d q len) 0 0 ∧ Put d B' s₁ T' ∧ Laid B B' q (q + len) (fun j => Value.int (lo8 (cv A (o + (j - q))))) ∧
      Steps p.tables e below (s₁.setTop (entryFrame m #[.ref b, .int (Int32.ofNat o), .ref d, .int (Int32.ofNat q), .int (Int32.ofNat len)] 7)) (T'.setTop (mkF m 3 #[.val (.ref b), .val (.int (Int32.ofNat (o + len))), .val (.ref d), .val (.int (Int32.ofNat (q + len))), .val (.int (Int32.ofNat len)), .val (.int (Int32.ofNat len)), z'] [])) := by
    intro r
    induction r with
    | zero =>
      intro i hi z hz Tl Bk Xl pl fl cl
      have hil : i = len := by omega
      rw [hil] at Xl fl cl
      exact ⟨Tl, Bk, z, Xl, pl, fl, cl⟩
    | succ r ih =>
      intro i hi z hz Tl Bk Xl pl fl cl
      have all := X0.warmed.alike.symm.trans Xl.warmed.alike
      have hAl := hA0.keep all (pl.other hne hA0.1)
      have hBk := hB0.like all pl.1 fl.1 fl.2.1 fl.2.2.1
      have hlt : q + i < Bk.slots.size := by rw [fl.2.2.1]; omega
      have c3 : Steps p.tables e below (s₁.setTop (entryFrame m #[.ref b, .int (Int32.ofNat o), .ref d, .int (Int32.ofNat q), .int (Int32.ofNat len)] 7)) (Tl.setTop (mkF m 12 #[.val (.ref b), .val (.int (Int32.ofNat (o + i))), .val (.ref d), .val (.int (Int32.ofNat (q + i))), .val (.int (Int32.ofNat len)), .val (.int (Int32.ofNat i)), z] [.int (Int32.ofNat (o + i)), .ref b])) := cl.trans (by
        refine XS.iload Xl.here hexec rfl (hb hbytes d3) rfl ?_
        refine XS.iload Xl.here hexec rfl (hb hbytes d5) rfl ?_
        refine XS.icmpNo Xl.here hexec rfl (hb hbytes d7) rfl (ii_ge_f (lt32 (by omega) (by omega))) ?_
        refine XS.aloadN Xl.here hexec rfl (hb hbytes d10) rfl rfl ?_
        refine XS.iloadN Xl.here hexec rfl (hb hbytes d11) rfl ?_
        exact Steps.refl _)
      have c4 : Steps p.tables e below (s₁.setTop (entryFrame m #[.ref b, .int (Int32.ofNat o), .ref d, .int (Int32.ofNat q), .int (Int32.ofNat len)] 7)) (Tl.setTop (mkF m 13 #[.val (.ref b), .val (.int (Int32.ofNat (o + i))), .val (.ref d), .val (.int (Int32.ofNat (q + i))), .val (.int (Int32.ofNat len)), .val (.int (Int32.ofNat i)), z] [.int (cv A (o + i))])) := c3.trans (by
        refine Xl.aget hexec hAl rfl (hA.get (i := o + i) (by omega)) rfl rfl (hb hbytes d12) ?_
        exact Steps.refl _)
      have c5 : Steps p.tables e below (s₁.setTop (entryFrame m #[.ref b, .int (Int32.ofNat o), .ref d, .int (Int32.ofNat q), .int (Int32.ofNat len)] 7)) (Tl.setTop (mkF m 15 #[.val (.ref b), .val (.int (Int32.ofNat (o + i))), .val (.ref d), .val (.int (Int32.ofNat (q + i))), .val (.int (Int32.ofNat len)), .val (.int (Int32.ofNat i)), .val (.int (cv A (o + i)))] [])) := c4.trans (by
        refine XS.istoreS Xl.here hexec rfl (hb hbytes d13) rfl rfl hz ?_
        exact Steps.refl _)
      have c6 : Steps p.tables e below (s₁.setTop (entryFrame m #[.ref b, .int (Int32.ofNat o), .ref d, .int (Int32.ofNat q), .int (Int32.ofNat len)] 7)) (Tl.setTop (mkF m 31 #[.val (.ref b), .val (.int (Int32.ofNat (o + i))), .val (.ref d), .val (.int (Int32.ofNat (q + i))), .val (.int (Int32.ofNat len)), .val (.int (Int32.ofNat i)), .val (.int (cv A (o + i)))] [.int (lo8 (cv A (o + i))), .int (Int32.ofNat (q + i)), .ref d])) := c5.trans (by
        refine XS.iload Xl.here hexec rfl (hb hbytes d15) rfl ?_
        refine sipushV Xl.here hexec rfl 255 (hb hbytes d17) (by decide) ?_
        refine XS.icmpYes Xl.here hexec rfl (pc0 := 20) rfl (hb hbytes d20) rfl (ii_le_t (hp i (by omega))) (by decide) rfl ?_
        refine XS.aloadN Xl.here hexec rfl (hb hbytes d26) rfl rfl ?_
        refine XS.iloadN Xl.here hexec rfl (hb hbytes d27) rfl ?_
        refine XS.iload Xl.here hexec rfl (hb hbytes d28) rfl ?_
        refine i2b Xl.here hexec rfl (hb hbytes d30) rfl ?_
        exact Steps.refl _)
      obtain ⟨T7, X7, p7, st7⟩ := Xl.aput hexec hBk rfl hlt rfl (fits_lo8 (cv A (o + i))) (g := (mkF m 31 #[.val (.ref b), .val (.int (Int32.ofNat (o + i))), .val (.ref d), .val (.int (Int32.ofNat (q + i))), .val (.int (Int32.ofNat len)), .val (.int (Int32.ofNat i)), .val (.int (cv A (o + i)))] [.int (lo8 (cv A (o + i))), .int (Int32.ofNat (q + i)), .ref d])) rfl (rest := []) rfl (hb hbytes d31)
      have c8 : Steps p.tables e below (s₁.setTop (entryFrame m #[.ref b, .int (Int32.ofNat o), .ref d, .int (Int32.ofNat q), .int (Int32.ofNat len)] 7)) (T7.setTop (mkF m 32 #[.val (.ref b), .val (.int (Int32.ofNat (o + i))), .val (.ref d), .val (.int (Int32.ofNat (q + i))), .val (.int (Int32.ofNat len)), .val (.int (Int32.ofNat i)), .val (.int (cv A (o + i)))] [])) := c6.trans (st7 _ (Steps.refl _))
      have c9 : Steps p.tables e below (s₁.setTop (entryFrame m #[.ref b, .int (Int32.ofNat o), .ref d, .int (Int32.ofNat q), .int (Int32.ofNat len)] 7)) (T7.setTop (mkF m 3 #[.val (.ref b), .val (.int (Int32.ofNat (o + i) + 1)), .val (.ref d), .val (.int (Int32.ofNat (q + i) + 1)), .val (.int (Int32.ofNat len)), .val (.int (Int32.ofNat i + 1)), .val (.int (cv A (o + i)))] [])) := c8.trans (by
        refine iincV X7.here hexec rfl 1 (hb hbytes d32) (by decide) rfl rfl ?_
        refine iincV X7.here hexec rfl 1 (hb hbytes d35) (by decide) rfl rfl ?_
        refine iincV X7.here hexec rfl 1 (hb hbytes d38) (by decide) rfl rfl ?_
        refine XS.goto X7.here hexec rfl (pc0 := 41) rfl (hb hbytes d41) (by decide) rfl ?_
        exact Steps.refl _)
      have c10 : Steps p.tables e below (s₁.setTop (entryFrame m #[.ref b, .int (Int32.ofNat o), .ref d, .int (Int32.ofNat q), .int (Int32.ofNat len)] 7)) (T7.setTop (mkF m 3 #[.val (.ref b), .val (.int (Int32.ofNat (o + (i + 1)))), .val (.ref d), .val (.int (Int32.ofNat (q + (i + 1)))), .val (.int (Int32.ofNat len)), .val (.int (Int32.ofNat (i + 1))), .val (.int (cv A (o + i)))] [])) := by
        have := c9
        rw [succ32, succ32, succ32] at this
        exact this
      exact ih (i + 1) (by omega) _ (Or.inr ⟨_, rfl, rfl⟩) T7 _ (by rw [copyLocs_step, ← List.append_assoc]; exact X7) (pl.trans p7) (fl.step (by omega) hlt (by simp)) c10
  obtain ⟨T9, B9, z9, X9, p9, f9, g9⟩ := loop len 0 (by omega) .unset (Or.inl rfl) s₁ B (by simpa [copyLocs] using X0) ⟨hB0.1, fun _ _ => rfl, rfl⟩ (Laid.zero _ _ _) c2
  have c11 : Steps p.tables e below (s₁.setTop (entryFrame m #[.ref b, .int (Int32.ofNat o), .ref d, .int (Int32.ofNat q), .int (Int32.ofNat len)] 7)) (T9.setTop (mkF m 46 #[.val (.ref b), .val (.int (Int32.ofNat (o + len))), .val (.ref d), .val (.int (Int32.ofNat (q + len))), .val (.int (Int32.ofNat len)), .val (.int (Int32.ofNat len)), z9] [.int (Int32.ofNat len)])) := g9.trans (by
    refine XS.iload X9.here hexec rfl (hb hbytes d3) rfl ?_
    refine XS.iload X9.here hexec rfl (hb hbytes d5) rfl ?_
    refine XS.icmpYes X9.here hexec rfl (pc0 := 7) rfl (hb hbytes d7) rfl (ii_ge_t (nlt32 (by omega) (Nat.le_refl _))) (by decide) rfl ?_
    refine XS.iload X9.here hexec rfl (hb hbytes d44) rfl ?_
    exact Steps.refl _)
  exact ⟨T9, some (.int (Int32.ofNat len)), _, _, _, X9, by simp, rfl, rfl, (fun h => by cases h), ⟨rfl, B9, p9.from hh0, f9⟩, fun fs hl => c11.trans (X9.ireturnOut hexec hret rfl (Or.inl rfl) (hb hbytes d46) hl)⟩
end Cmp5
namespace Cmp3
def yN : MethodName := ⟨"java/lang/StringUTF16", "compress", "([CII)[B"⟩
abbrev yB : ByteArray := jdk_52_method_16_code
theorem d0 : decode yB 0 = .ok (.iload_n 2, 1) := by decide +kernel
theorem d1 : decode yB 1 = .ok (.newarray .byte, 2) := by decide +kernel
theorem d3 : decode yB 3 = .ok (.astore_n 3, 1) := by decide +kernel
theorem d4 : decode yB 4 = .ok (.aload_n 0, 1) := by decide +kernel
theorem d5 : decode yB 5 = .ok (.iload_n 1, 1) := by decide +kernel
theorem d6 : decode yB 6 = .ok (.aload_n 3, 1) := by decide +kernel
theorem d7 : decode yB 7 = .ok (.iconst 0, 1) := by decide +kernel
theorem d8 : decode yB 8 = .ok (.iload_n 2, 1) := by decide +kernel
theorem d9 : decode yB 9 = .ok (.invokestatic 115, 3) := by decide +kernel
theorem d12 : decode yB 12 = .ok (.istore 4, 2) := by decide +kernel
theorem d14 : decode yB 14 = .ok (.iload 4, 2) := by decide +kernel
theorem d16 : decode yB 16 = .ok (.iload_n 2, 1) := by decide +kernel
theorem d17 : decode yB 17 = .ok (.if_icmp (.eq) 40, 3) := by decide +kernel
theorem d57 : decode yB 57 = .ok (.aload_n 3, 1) := by decide +kernel
theorem d58 : decode yB 58 = .ok (.areturn, 1) := by decide +kernel
def site : List Cond := [.arrayClass .byte, Cmp5.tab] ++ staticW U16 115 Cmp5.yN
def tab : Cond := tabOf yN yB 6 (some (.array .byte)) site
def P (b : Addr) (A : Cell) (o len : Nat) (args : Array Value) (s : State) : Prop := args = #[.ref b, .int (Int32.ofNat o), .int (Int32.ofNat len)] ∧ Ch b A s ∧ o + len ≤ A.slots.size ∧ len ≤ 536870912 ∧ ∀ i, i < len → ¬ 255 < cv A (o + i)
def E (b : Addr) (A : Cell) (o len : Nat) (r : Option Value) (s u : State) : Prop := NewArr .byte "[B" len (fun j => .int (lo8 (cv A (o + j)))) r s u ∧ u.heap.size = s.heap.size + 1
/-- no char of the range above 255: a new byte[] of their low bytes -/
theorem law (l : Launch) (b : Addr) (A : Cell) (o len : Nat) : Law l yN 3 3 1 18 yB 6 (some (.array .byte)) site (P b A o len) (E b A o len) [] 1 len := by
  refine Law.of_walk (plainFor_of_name (by decide +kernel)) (by decide +kernel) (by decide +kernel) (by decide) (fun _ _ h => by rw [h.1]; rfl) (fun _ U U' hal hh h => ⟨h.1, h.2.1.mv hal hh, h.2.2⟩) (fun r U U' V V' h1 hal h2 h => ⟨NewArr.mv r U U' V V' h1 hal h2 h.1, by rw [h1, h2]; exact h.2⟩) ?_
  intro p e s m args below meth c s₁ X0 hexec hbytes hml hret hlk hnm hown hh0 W hP
  obtain ⟨rfl, hA, l1, l2, hp⟩ := hP
  have a31 := hA.1.2.2.2
  have c1 : Steps p.tables e below (s₁.setTop (entryFrame m #[.ref b, .int (Int32.ofNat o), .int (Int32.ofNat len)] 6)) (s₁.setTop (mkF m 0 #[.val (.ref b), .val (.int (Int32.ofNat o)), .val (.int (Int32.ofNat len)), .unset, .unset, .unset] [])) := entry rfl
  have c2 : Steps p.tables e below (s₁.setTop (entryFrame m #[.ref b, .int (Int32.ofNat o), .int (Int32.ofNat len)] 6)) (s₁.setTop (mkF m 1 #[.val (.ref b), .val (.int (Int32.ofNat o)), .val (.int (Int32.ofNat len)), .unset, .unset, .unset] [.int (Int32.ofNat len)])) := c1.trans (by
    refine XS.iloadN X0.here hexec rfl (hb hbytes d0) rfl ?_
    exact Steps.refl _)
  obtain ⟨T3, B3, X3, ba3, bs3, bv3, bh3, bf3, st3⟩ := X0.anew hexec (atype := .byte) (wk W (.arrayClass .byte)) rfl (by show len * 1 ≤ _; omega) (by omega) (g := (mkF m 1 #[.val (.ref b), .val (.int (Int32.ofNat o)), .val (.int (Int32.ofNat len)), .unset, .unset, .unset] [.int (Int32.ofNat len)])) rfl (hb hbytes d1) (rest := []) rfl (Nat.le_refl _) (by show 0 + len ≤ len; omega)
  rw [hh0] at ba3 st3
  have kp3 : XT.Kept s T3 := (XT.Kept.of_eq hh0).push bh3
  have hA3 := hA.keep X3.warmed.alike (kp3 _ _ hA.1.1)
  have hne : b ≠ s.heap.size := hA.1.ne
  have c4 : Steps p.tables e below (s₁.setTop (entryFrame m #[.ref b, .int (Int32.ofNat o), .int (Int32.ofNat len)] 6)) (T3.setTop (mkF m 3 #[.val (.ref b), .val (.int (Int32.ofNat o)), .val (.int (Int32.ofNat len)), .unset, .unset, .unset] [.ref s.heap.size])) := c2.trans (st3 _ (Steps.refl _))
  have c5 : Steps p.tables e below (s₁.setTop (entryFrame m #[.ref b, .int (Int32.ofNat o), .int (Int32.ofNat len)] 6)) (T3.setTop (mkF m 9 #[.val (.ref b), .val (.int (Int32.ofNat o)), .val (.int (Int32.ofNat len)), .val (.ref s.heap.size), .unset, .unset] [.int (Int32.ofNat len), .int 0, .ref s.heap.size, .int (Int32.ofNat o), .ref b])) := c4.trans (by
    refine XS.astoreN X3.here hexec rfl (hb hbytes d3) rfl rfl rfl ?_
    refine XS.aloadN X3.here hexec rfl (hb hbytes d4) rfl rfl ?_
    refine XS.iloadN X3.here hexec rfl (hb hbytes d5) rfl ?_
    refine XS.aloadN X3.here hexec rfl (hb hbytes d6) rfl rfl ?_
    refine iconstV X3.here hexec rfl 0 (hb hbytes d7) (by decide) ?_
    refine XS.iloadN X3.here hexec rfl (hb hbytes d8) rfl ?_
    exact Steps.refl _)
  obtain ⟨v6, T6, X6, E6, g6⟩ := X3.callS hexec (Cmp5.law l b A s.heap.size B3 o 0 len) hown (wks W (staticW U16 115 Cmp5.yN)) (wk W Cmp5.tab) (W := 0) (Nat.le_of_ble_eq_true rfl) (Nat.le_of_ble_eq_true rfl) (Nat.le_refl _) (by show 0 + len + 0 ≤ len; omega) (g := (mkF m 9 #[.val (.ref b), .val (.int (Int32.ofNat o)), .val (.int (Int32.ofNat len)), .val (.ref s.heap.size), .unset, .unset] [.int (Int32.ofNat len), .int (Int32.ofNat 0), .ref s.heap.size, .int (Int32.ofNat o), .ref b])) rfl (by rw [hml]; rfl) c5 (argsL := [.ref b, .int (Int32.ofNat o), .ref s.heap.size, .int (Int32.ofNat 0), .int (Int32.ofNat len)]) (rest := []) rfl rfl (by show 2 * 0 + 0 ≤ _; decide) (hb hbytes d9) (⟨rfl, hA3, ba3, hne, l1, by rw [bs3]; simp, hp⟩)
  obtain ⟨rfl, B6, p6, f6⟩ := E6
  have c7 : Steps p.tables e below (s₁.setTop (entryFrame m #[.ref b, .int (Int32.ofNat o), .int (Int32.ofNat len)] 6)) (T6.setTop (mkF m 12 #[.val (.ref b), .val (.int (Int32.ofNat o)), .val (.int (Int32.ofNat len)), .val (.ref s.heap.size), .unset, .unset] [.int (Int32.ofNat len)])) := g6
  have c8 : Steps p.tables e below (s₁.setTop (entryFrame m #[.ref b, .int (Int32.ofNat o), .int (Int32.ofNat len)] 6)) (T6.setTop (mkF m 58 #[.val (.ref b), .val (.int (Int32.ofNat o)), .val (.int (Int32.ofNat len)), .val (.ref s.heap.size), .val (.int (Int32.ofNat len)), .unset] [.ref s.heap.size])) := c7.trans (by
    refine XS.istore X6.here hexec rfl (hb hbytes d12) rfl rfl ?_
    refine XS.iload X6.here hexec rfl (hb hbytes d14) rfl ?_
    refine XS.iloadN X6.here hexec rfl (hb hbytes d16) rfl ?_
    refine XS.icmpYes X6.here hexec rfl (pc0 := 17) rfl (hb hbytes d17) rfl (ii_eq_t rfl) (by decide) rfl ?_
    refine XS.aloadN X6.here hexec rfl (hb hbytes d57) rfl rfl ?_
    exact Steps.refl _)
  have X8 := X6.wide (L' := []) (cells' := 1) (slots' := len) (fun x hx hlt => by
    simp only [List.nil_append, copyLocs, List.mem_map, List.mem_range] at hx
    obtain ⟨i, -, rfl⟩ := hx
    exact absurd hlt (Nat.lt_irrefl _)) (Nat.le_refl _) (by omega)
  exact ⟨T6, some (.ref s.heap.size), _, _, _, X8, rfl, rfl, rfl, (fun h => by cases h), ⟨⟨rfl, B6, ba3.like (X3.warmed.alike.symm.trans X6.warmed.alike) p6.1 f6.1 f6.2.1 f6.2.2.1, f6.2.1.trans bv3, by rw [X6.warmed.alike.findClass, f6.1]; exact bf3, by rw [f6.2.2.1, bs3]; simp, fun j hj => by rw [f6.2.2.2 j, if_pos (by omega)]; rfl, kp3.put p6 (Nat.le_refl _)⟩, by rw [p6.2.2, bh3, hh0]; simp⟩, fun fs hl => c8.trans (X8.areturnOut hexec rfl hret rfl (hb hbytes d58) hl)⟩
end Cmp3
namespace CodL
def yN : MethodName := ⟨"java/lang/StringUTF16", "coderFromArrayLen", "([BI)B"⟩
abbrev yB : ByteArray := jdk_52_method_15_code
theorem d0 : decode yB 0 = .ok (.iload_n 1, 1) := by decide +kernel
theorem d1 : decode yB 1 = .ok (.aload_n 0, 1) := by decide +kernel
theorem d2 : decode yB 2 = .ok (.arraylength, 1) := by decide +kernel
theorem d3 : decode yB 3 = .ok (.isub, 1) := by decide +kernel
theorem d4 : decode yB 4 = .ok (.bipush 31, 2) := by decide +kernel
theorem d6 : decode yB 6 = .ok (.iushr, 1) := by decide +kernel
theorem d7 : decode yB 7 = .ok (.i2b, 1) := by decide +kernel
theorem d8 : decode yB 8 = .ok (.ireturn, 1) := by decide +kernel
def site : List Cond := []
def tab : Cond := tabOf yN yB 2 (some .byte) site
def P (d : Addr) (B : Cell) (args : Array Value) (s : State) : Prop := args = #[.ref d, .int (Int32.ofNat B.slots.size)] ∧ Arr .byte d B s
def E (r : Option Value) (s u : State) : Prop := XT.PureE (some (.int 0)) r s u
/-- an array as long as the number of chars: LATIN1 -/
theorem law (l : Launch) (d : Addr) (B : Cell) : Law l yN 2 2 0 0 yB 2 (some .byte) site (P d B) E [] 0 0 := by
  refine Law.of_walk (plainFor_of_name (by decide +kernel)) (by decide +kernel) (by decide +kernel) (by decide) (fun _ _ h => by rw [h.1]; rfl) (fun _ U U' hal hh h => ⟨h.1, h.2.mv hal hh⟩) (fun r U U' V V' h1 hal h2 h => XT.PureE.mv r U U' V V' h1 hal h2 h) ?_
  intro p e s m args below meth c s₁ X0 hexec hbytes hml hret hlk hnm hown hh0 W hP
  obtain ⟨rfl, hB⟩ := hP
  have hB0 := hB.mv X0.warmed.alike hh0
  have c1 : Steps p.tables e below (s₁.setTop (entryFrame m #[.ref d, .int (Int32.ofNat B.slots.size)] 2)) (s₁.setTop (mkF m 0 #[.val (.ref d), .val (.int (Int32.ofNat B.slots.size))] [])) := entry rfl
  have c2 : Steps p.tables e below (s₁.setTop (entryFrame m #[.ref d, .int (Int32.ofNat B.slots.size)] 2)) (s₁.setTop (mkF m 2 #[.val (.ref d), .val (.int (Int32.ofNat B.slots.size))] [.ref d, .int (Int32.ofNat B.slots.size)])) := c1.trans (by
    refine XS.iloadN X0.here hexec rfl (hb hbytes d0) rfl ?_
    refine XS.aloadN X0.here hexec rfl (hb hbytes d1) rfl rfl ?_
    exact Steps.refl _)
  have c3 : Steps p.tables e below (s₁.setTop (entryFrame m #[.ref d, .int (Int32.ofNat B.slots.size)] 2)) (s₁.setTop (mkF m 8 #[.val (.ref d), .val (.int (Int32.ofNat B.slots.size))] [.int (lo8 (ushr (Int32.ofNat B.slots.size - Int32.ofNat B.slots.size) 31))])) := c2.trans (by
    refine X0.alen hexec hB0 rfl rfl (hb hbytes d2) ?_
    refine XS.isub X0.here hexec rfl (hb hbytes d3) rfl ?_
    refine bipushV X0.here hexec rfl 31 (hb hbytes d4) (by decide) ?_
    refine iushr X0.here hexec rfl (hb hbytes d6) rfl ?_
    refine i2b X0.here hexec rfl (hb hbytes d7) rfl ?_
    exact Steps.refl _)
  have e0 : lo8 (ushr (Int32.ofNat B.slots.size - Int32.ofNat B.slots.size) 31) = 0 := by rw [Int32.sub_self]; decide
  rw [e0] at c3
  exact ⟨s₁, some (.int 0), _, _, _, X0, rfl, rfl, rfl, (fun h => by cases h), ⟨rfl, hh0⟩, fun fs hl => c3.trans (X0.ireturnOut hexec hret rfl (Or.inr (Or.inr (Or.inl rfl))) (hb hbytes d8) hl)⟩
end CodL
/-- the String at a is Latin-1 over a new byte[] (the heap's one new cell): the low bytes of the len chars of A from o on; every cell but a is kept -/
def Got (a : Addr) (D : Cell) (fV fC : Field) (A : Cell) (o len : Nat) (r : Option Value) (s u : State) : Prop := r = none ∧ ∃ D' V : Cell, Blank "java/lang/String" a D' u ∧ Same D D' [fV.slot, fC.slot] ∧ D'.slots[fV.slot]? = some (.ref s.heap.size) ∧ D'.slots[fC.slot]? = some (.int 0) ∧ Arr .byte s.heap.size V u ∧ V.vm = .none ∧ u.vm.findClass "[B" = some V.cls ∧ V.slots.size = len ∧ (∀ j, j < len → V.slots[j]? = some (.int (lo8 (cv A (o + j))))) ∧ (∀ (y : Addr) (c : Cell), y ≠ a → s.heap[y]? = some c → u.heap[y]? = some c) ∧ u.heap.size = s.heap.size + 1
theorem Got.mv {a : Addr} {D A : Cell} {fV fC : Field} {o len : Nat} : ∀ r (U U' V V' : State), U'.heap = U.heap → V.vm.Alike V'.vm → V'.heap = V.heap → Got a D fV fC A o len r U V → Got a D fV fC A o len r U' V' :=
  fun r U U' V V' h1 hal h2 ⟨e0, D', X, a1, a2, a3, a4, a5, a6, a7, a8, a9, a10, a11⟩ => ⟨e0, D', X, a1.mv hal h2, a2, by rw [h1]; exact a3, a4, by rw [h1]; exact a5.mv hal h2, a6, by rw [hal.findClass]; exact a7, a8, a9, by rw [h1, h2]; exact a10, by rw [h1, h2]; exact a11⟩
namespace New4
def yN : MethodName := ⟨"java/lang/String", "<init>", "([CIILjava/lang/Void;)V"⟩
abbrev yB : ByteArray := jdk_42_method_149_code
theorem d0 : decode yB 0 = .ok (.aload_n 0, 1) := by decide +kernel
theorem d1 : decode yB 1 = .ok (.invokespecial 1, 3) := by decide +kernel
theorem d4 : decode yB 4 = .ok (.iload_n 3, 1) := by decide +kernel
theorem d5 : decode yB 5 = .ok (.ifCond (.ne) 22, 3) := by decide +kernel
theorem d27 : decode yB 27 = .ok (.getstatic 38, 3) := by decide +kernel
theorem d30 : decode yB 30 = .ok (.ifCond (.eq) 28, 3) := by decide +kernel
theorem d33 : decode yB 33 = .ok (.aload_n 1, 1) := by decide +kernel
theorem d34 : decode yB 34 = .ok (.iload_n 2, 1) := by decide +kernel
theorem d35 : decode yB 35 = .ok (.iload_n 3, 1) := by decide +kernel
theorem d36 : decode yB 36 = .ok (.invokestatic 177, 3) := by decide +kernel
theorem d39 : decode yB 39 = .ok (.astore 5, 2) := by decide +kernel
theorem d41 : decode yB 41 = .ok (.aload_n 0, 1) := by decide +kernel
theorem d42 : decode yB 42 = .ok (.aload 5, 2) := by decide +kernel
theorem d44 : decode yB 44 = .ok (.iload_n 3, 1) := by decide +kernel
theorem d45 : decode yB 45 = .ok (.invokestatic 47, 3) := by decide +kernel
theorem d48 : decode yB 48 = .ok (.putfield 15, 3) := by decide +kernel
theorem d51 : decode yB 51 = .ok (.aload_n 0, 1) := by decide +kernel
theorem d52 : decode yB 52 = .ok (.aload 5, 2) := by decide +kernel
theorem d54 : decode yB 54 = .ok (.putfield 9, 3) := by decide +kernel
theorem d57 : decode yB 57 = .ok (.return_, 1) := by decide +kernel
def site : List Cond := [.fieldLink "java/lang/String" 38 "java/lang/String" "COMPACT_STRINGS" "Z", Cmp3.tab, CodL.tab, .laysFinal "java/lang/String" "java/lang/String" "value" "[B", .fieldLink "java/lang/String" 9 "java/lang/String" "value" "[B", .laysFinal "java/lang/String" "java/lang/String" "coder" "B", .fieldLink "java/lang/String" 15 "java/lang/String" "coder" "B"] ++ objW "java/lang/String" 1 ++ staticW "java/lang/String" 177 Cmp3.yN ++ staticW "java/lang/String" 47 CodL.yN
def tab : Cond := tabOf yN yB 6 none site
def P (a : Addr) (D : Cell) (fV fC : Field) (b : Addr) (A : Cell) (z : Int32) (o len : Nat) (args : Array Value) (s : State) : Prop := args = #[.ref a, .ref b, .int (Int32.ofNat o), .int (Int32.ofNat len), .null] ∧ Blank "java/lang/String" a D s ∧ Found "java/lang/String" "value" "[B" fV s ∧ Found "java/lang/String" "coder" "B" fC s ∧ Ch b A s ∧ StaticIs s "java/lang/String" "COMPACT_STRINGS" "Z" (.int z) ∧ ¬ z = 0 ∧ 0 < len ∧ o + len ≤ A.slots.size ∧ len ≤ 536870912 ∧ ∀ i, i < len → ¬ 255 < cv A (o + i)
def E (a : Addr) (D : Cell) (fV fC : Field) (A : Cell) (o len : Nat) (r : Option Value) (s u : State) : Prop := Got a D fV fC A o len r s u
/-- len > 0, no char of the range above 255: a Latin-1 String of their low bytes -/
theorem law (l : Launch) (a : Addr) (D : Cell) (fV fC : Field) (b : Addr) (A : Cell) (z : Int32) (o len : Nat) : Law l yN 5 4 2 35 yB 6 none site (P a D fV fC b A z o len) (E a D fV fC A o len) [⟨a, fC.slot⟩, ⟨a, fV.slot⟩] 1 len := by
  refine Law.of_walk (plainFor_of_name (by decide +kernel)) (by decide +kernel) (by decide +kernel) (by decide) (fun _ _ h => by rw [h.1]; rfl) (fun _ U U' hal hh h => ⟨h.1, h.2.1.mv hal hh, h.2.2.1.al hal, h.2.2.2.1.al hal, h.2.2.2.2.1.mv hal hh, h.2.2.2.2.2.1.there hal hh, h.2.2.2.2.2.2⟩) (fun r U U' V V' h1 hal h2 h => Got.mv r U U' V V' h1 hal h2 h) ?_
  intro p e s m args below meth c s₁ X0 hexec hbytes hml hret hlk hnm hown hh0 W hP
  obtain ⟨rfl, hB, f1, f2, hA, s1, hz, l0, l1, l2, hp⟩ := hP
  have a31 := hA.1.2.2.2
  have c1 : Steps p.tables e below (s₁.setTop (entryFrame m #[.ref a, .ref b, .int (Int32.ofNat o), .int (Int32.ofNat len), .null] 6)) (s₁.setTop (mkF m 0 #[.val (.ref a), .val (.ref b), .val (.int (Int32.ofNat o)), .val (.int (Int32.ofNat len)), .val .null, .unset] [])) := entry rfl
  have c2 : Steps p.tables e below (s₁.setTop (entryFrame m #[.ref a, .ref b, .int (Int32.ofNat o), .int (Int32.ofNat len), .null] 6)) (s₁.setTop (mkF m 1 #[.val (.ref a), .val (.ref b), .val (.int (Int32.ofNat o)), .val (.int (Int32.ofNat len)), .val .null, .unset] [.ref a])) := c1.trans (by
    refine XS.aloadN X0.here hexec rfl (hb hbytes d0) rfl rfl ?_
    exact Steps.refl _)
  obtain ⟨T3, X3, q3, st3⟩ := X0.oinit hexec hown (wks W (objW "java/lang/String" 1)) (g := (mkF m 1 #[.val (.ref a), .val (.ref b), .val (.int (Int32.ofNat o)), .val (.int (Int32.ofNat len)), .val .null, .unset] [.ref a])) rfl (by rw [hml]; rfl) (rest := []) rfl (hb hbytes d1) (W := 0) (by show 2 * 0 + 0 ≤ _; decide) (Nat.le_of_ble_eq_true rfl) (Nat.le_of_ble_eq_true rfl)
  have hh3 := q3.trans hh0
  have c4 : Steps p.tables e below (s₁.setTop (entryFrame m #[.ref a, .ref b, .int (Int32.ofNat o), .int (Int32.ofNat len), .null] 6)) (T3.setTop (mkF m 27 #[.val (.ref a), .val (.ref b), .val (.int (Int32.ofNat o)), .val (.int (Int32.ofNat len)), .val .null, .unset] [])) := (c2.trans (st3 _ (Steps.refl _))).trans (by
    refine XS.iloadN X3.here hexec rfl (hb hbytes d4) rfl ?_
    refine XS.ifYes X3.here hexec rfl (pc0 := 5) rfl (hb hbytes d5) rfl (i0_ne_t (nz32 (by omega) l0)) (by decide) rfl ?_
    exact Steps.refl _)
  obtain ⟨T5, X5, q5, st5⟩ := X3.sget hexec hown (wk W (.fieldLink "java/lang/String" 38 "java/lang/String" "COMPACT_STRINGS" "Z")) s1 (fun _ _ h => by rw [hh3]; exact h) (g := (mkF m 27 #[.val (.ref a), .val (.ref b), .val (.int (Int32.ofNat o)), .val (.int (Int32.ofNat len)), .val .null, .unset] [])) rfl (hb hbytes d27)
  have hh5 := q5.trans hh3
  have c6 : Steps p.tables e below (s₁.setTop (entryFrame m #[.ref a, .ref b, .int (Int32.ofNat o), .int (Int32.ofNat len), .null] 6)) (T5.setTop (mkF m 30 #[.val (.ref a), .val (.ref b), .val (.int (Int32.ofNat o)), .val (.int (Int32.ofNat len)), .val .null, .unset] [.int z])) := c4.trans (st5 _ (Steps.refl _))
  have c7 : Steps p.tables e below (s₁.setTop (entryFrame m #[.ref a, .ref b, .int (Int32.ofNat o), .int (Int32.ofNat len), .null] 6)) (T5.setTop (mkF m 36 #[.val (.ref a), .val (.ref b), .val (.int (Int32.ofNat o)), .val (.int (Int32.ofNat len)), .val .null, .unset] [.int (Int32.ofNat len), .int (Int32.ofNat o), .ref b])) := c6.trans (by
    refine XS.ifNo X5.here hexec rfl (hb hbytes d30) rfl (i0_eq_f hz) ?_
    refine XS.aloadN X5.here hexec rfl (hb hbytes d33) rfl rfl ?_
    refine XS.iloadN X5.here hexec rfl (hb hbytes d34) rfl ?_
    refine XS.iloadN X5.here hexec rfl (hb hbytes d35) rfl ?_
    exact Steps.refl _)
  obtain ⟨v8, T8, X8, E8, g8⟩ := X5.callS hexec (Cmp3.law l b A o len) hown (wks W (staticW "java/lang/String" 177 Cmp3.yN)) (wk W Cmp3.tab) (W := 0) (Nat.le_of_ble_eq_true rfl) (Nat.le_of_ble_eq_true rfl) (Nat.le_refl _) (by show 0 + len ≤ len; omega) (g := (mkF m 36 #[.val (.ref a), .val (.ref b), .val (.int (Int32.ofNat o)), .val (.int (Int32.ofNat len)), .val .null, .unset] [.int (Int32.ofNat len), .int (Int32.ofNat o), .ref b])) rfl (by rw [hml]; rfl) c7 (argsL := [.ref b, .int (Int32.ofNat o), .int (Int32.ofNat len)]) (rest := []) rfl rfl (by show 2 * 0 + 0 ≤ _; decide) (hb hbytes d36) (⟨rfl, hA.mv X5.warmed.alike hh5, l1, l2, hp⟩)
  obtain ⟨e8, z8⟩ := E8
  obtain ⟨rfl, N, n1, n2, n3, n4, n5, n6⟩ := NewArr.mv _ T5 s _ _ hh5.symm (Vm.Alike.refl _) rfl e8
  rw [hh5] at z8
  have hB1 := hB.keep X8.warmed.alike (n6 _ _ hB.1)
  have hne : s.heap.size ≠ a := (Nat.ne_of_lt (Array.getElem?_eq_some_iff.mp hB.1).1).symm
  have c9 : Steps p.tables e below (s₁.setTop (entryFrame m #[.ref a, .ref b, .int (Int32.ofNat o), .int (Int32.ofNat len), .null] 6)) (T8.setTop (mkF m 39 #[.val (.ref a), .val (.ref b), .val (.int (Int32.ofNat o)), .val (.int (Int32.ofNat len)), .val .null, .unset] [.ref s.heap.size])) := g8
  have c10 : Steps p.tables e below (s₁.setTop (entryFrame m #[.ref a, .ref b, .int (Int32.ofNat o), .int (Int32.ofNat len), .null] 6)) (T8.setTop (mkF m 45 #[.val (.ref a), .val (.ref b), .val (.int (Int32.ofNat o)), .val (.int (Int32.ofNat len)), .val .null, .val (.ref s.heap.size)] [.int (Int32.ofNat N.slots.size), .ref s.heap.size, .ref a])) := by
    have hc : Steps p.tables e below (s₁.setTop (entryFrame m #[.ref a, .ref b, .int (Int32.ofNat o), .int (Int32.ofNat len), .null] 6)) (T8.setTop (mkF m 45 #[.val (.ref a), .val (.ref b), .val (.int (Int32.ofNat o)), .val (.int (Int32.ofNat len)), .val .null, .val (.ref s.heap.size)] [.int (Int32.ofNat len), .ref s.heap.size, .ref a])) := c9.trans (by
      refine XS.astore X8.here hexec rfl (hb hbytes d39) rfl rfl rfl ?_
      refine XS.aloadN X8.here hexec rfl (hb hbytes d41) rfl rfl ?_
      refine XS.aload X8.here hexec rfl (hb hbytes d42) rfl rfl ?_
      refine XS.iloadN X8.here hexec rfl (hb hbytes d44) rfl ?_
      exact Steps.refl _)
    rw [n4]; exact hc
  obtain ⟨v11, T11, X11, E11, g11⟩ := X8.callS hexec (CodL.law l s.heap.size N) hown (wks W (staticW "java/lang/String" 47 CodL.yN)) (wk W CodL.tab) (W := 1) (Nat.le_of_ble_eq_true rfl) (Nat.le_of_ble_eq_true rfl) (Nat.le_refl _) (by show 0 + len + 0 ≤ len; omega) (g := (mkF m 45 #[.val (.ref a), .val (.ref b), .val (.int (Int32.ofNat o)), .val (.int (Int32.ofNat len)), .val .null, .val (.ref s.heap.size)] [.int (Int32.ofNat N.slots.size), .ref s.heap.size, .ref a])) rfl (by rw [hml]; rfl) c10 (argsL := [.ref s.heap.size, .int (Int32.ofNat N.slots.size)]) (rest := [.ref a]) rfl rfl (by show 2 * 0 + (1 + 0) ≤ _; decide) (hb hbytes d45) (⟨rfl, n1⟩)
  obtain ⟨rfl, q11⟩ := E11
  have hB11 := hB1.mv (X8.warmed.alike.symm.trans X11.warmed.alike) q11
  have c12 : Steps p.tables e below (s₁.setTop (entryFrame m #[.ref a, .ref b, .int (Int32.ofNat o), .int (Int32.ofNat len), .null] 6)) (T11.setTop (mkF m 48 #[.val (.ref a), .val (.ref b), .val (.int (Int32.ofNat o)), .val (.int (Int32.ofNat len)), .val .null, .val (.ref s.heap.size)] [.int 0, .ref a])) := g11
  obtain ⟨T13, X13, p13, bl13, sl13, st13⟩ := X11.finit hexec hown (wk W (.fieldLink "java/lang/String" 15 "java/lang/String" "coder" "B")) (Or.inr ⟨_, (wk W (.laysFinal "java/lang/String" "java/lang/String" "coder" "B"))⟩) (Or.inl ⟨rfl, hnm⟩) f2 (Or.inl rfl) hB11 (t := .byte) (by decide +kernel) rfl (g := (mkF m 48 #[.val (.ref a), .val (.ref b), .val (.int (Int32.ofNat o)), .val (.int (Int32.ofNat len)), .val .null, .val (.ref s.heap.size)] [.int 0, .ref a])) rfl (rest := []) rfl (hb hbytes d48)
  have c14 : Steps p.tables e below (s₁.setTop (entryFrame m #[.ref a, .ref b, .int (Int32.ofNat o), .int (Int32.ofNat len), .null] 6)) (T13.setTop (mkF m 54 #[.val (.ref a), .val (.ref b), .val (.int (Int32.ofNat o)), .val (.int (Int32.ofNat len)), .val .null, .val (.ref s.heap.size)] [.ref s.heap.size, .ref a])) := (c12.trans (st13 _ (Steps.refl _))).trans (by
    refine XS.aloadN X13.here hexec rfl (hb hbytes d51) rfl rfl ?_
    refine XS.aload X13.here hexec rfl (hb hbytes d52) rfl rfl ?_
    exact Steps.refl _)
  obtain ⟨T15, X15, p15, bl15, sl15, st15⟩ := X13.finit hexec hown (wk W (.fieldLink "java/lang/String" 9 "java/lang/String" "value" "[B")) (Or.inr ⟨_, (wk W (.laysFinal "java/lang/String" "java/lang/String" "value" "[B"))⟩) (Or.inl ⟨rfl, hnm⟩) f1 (Or.inl rfl) bl13 (t := (.array .byte)) (by decide +kernel) rfl (g := (mkF m 54 #[.val (.ref a), .val (.ref b), .val (.int (Int32.ofNat o)), .val (.int (Int32.ofNat len)), .val .null, .val (.ref s.heap.size)] [.ref s.heap.size, .ref a])) rfl (rest := []) rfl (hb hbytes d54)
  have c16 : Steps p.tables e below (s₁.setTop (entryFrame m #[.ref a, .ref b, .int (Int32.ofNat o), .int (Int32.ofNat len), .null] 6)) (T15.setTop (mkF m 57 #[.val (.ref a), .val (.ref b), .val (.int (Int32.ofNat o)), .val (.int (Int32.ofNat len)), .val .null, .val (.ref s.heap.size)] [])) := c14.trans (st15 _ (Steps.refl _))
  have ap := apart (Or.inr ⟨_, (wk W (.laysFinal "java/lang/String" "java/lang/String" "value" "[B"))⟩) (Or.inr ⟨_, (wk W (.laysFinal "java/lang/String" "java/lang/String" "coder" "B"))⟩) f1 f2 (t₁ := .array .byte) (t₂ := .byte) (by decide +kernel) (by decide +kernel) (by decide)
  have al := X8.warmed.alike.symm.trans X15.warmed.alike
  have n7 : T11.heap[s.heap.size]? = some N := by rw [q11]; exact n1.1
  exact ⟨T15, none, _, _, _, X15, by simp, rfl, by omega, (fun _ => rfl), ⟨rfl, _, N, bl15, ((Same.refl D _).set _ (by simp)).set _ (by simp), sl15, (Cell.slots_setSlot_ne _ ap).trans sl13, n1.keep al (p15.other hne (p13.other hne n7)), n2, by rw [al.findClass]; exact n3, n4, n5, fun y c h1 h2 => p15.other h1 (p13.other h1 (by rw [q11]; exact n6 y c h2)), by rw [p15.2.2, p13.2.2, q11]; exact z8⟩, fun fs hl => c16.trans (X15.returnOut hexec hret (hb hbytes d57) hl)⟩
end New4
namespace New1
def yN : MethodName := ⟨"java/lang/String", "<init>", "([C)V"⟩
abbrev yB : ByteArray := jdk_42_method_3_code
theorem d0 : decode yB 0 = .ok (.aload_n 0, 1) := by decide +kernel
theorem d1 : decode yB 1 = .ok (.aload_n 1, 1) := by decide +kernel
theorem d2 : decode yB 2 = .ok (.iconst 0, 1) := by decide +kernel
theorem d3 : decode yB 3 = .ok (.aload_n 1, 1) := by decide +kernel
theorem d4 : decode yB 4 = .ok (.arraylength, 1) := by decide +kernel
theorem d5 : decode yB 5 = .ok (.aconst_null, 1) := by decide +kernel
theorem d6 : decode yB 6 = .ok (.invokespecial 27, 3) := by decide +kernel
theorem d9 : decode yB 9 = .ok (.return_, 1) := by decide +kernel
def site : List Cond := [New4.tab] ++ initW "java/lang/String" 27 New4.yN
def tab : Cond := tabOf yN yB 2 none site
def P (a : Addr) (D : Cell) (fV fC : Field) (b : Addr) (A : Cell) (z : Int32) (args : Array Value) (s : State) : Prop := args = #[.ref a, .ref b] ∧ Blank "java/lang/String" a D s ∧ Found "java/lang/String" "value" "[B" fV s ∧ Found "java/lang/String" "coder" "B" fC s ∧ Ch b A s ∧ StaticIs s "java/lang/String" "COMPACT_STRINGS" "Z" (.int z) ∧ ¬ z = 0 ∧ 0 < A.slots.size ∧ A.slots.size ≤ 536870912 ∧ ∀ i, i < A.slots.size → ¬ 255 < cv A i
def E (a : Addr) (D : Cell) (fV fC : Field) (A : Cell) (r : Option Value) (s u : State) : Prop := Got a D fV fC A 0 A.slots.size r s u
/-- new String(chars), not empty, no char above 255: a Latin-1 String of their low bytes -/
theorem law (l : Launch) (a : Addr) (D : Cell) (fV fC : Field) (b : Addr) (A : Cell) (z : Int32) : Law l yN 2 1 3 52 yB 2 none site (P a D fV fC b A z) (E a D fV fC A) [⟨a, fC.slot⟩, ⟨a, fV.slot⟩] 1 A.slots.size := by
  refine Law.of_walk (plainFor_of_name (by decide +kernel)) (by decide +kernel) (by decide +kernel) (by decide) (fun _ _ h => by rw [h.1]; rfl) (fun _ U U' hal hh h => ⟨h.1, h.2.1.mv hal hh, h.2.2.1.al hal, h.2.2.2.1.al hal, h.2.2.2.2.1.mv hal hh, h.2.2.2.2.2.1.there hal hh, h.2.2.2.2.2.2⟩) (fun r U U' V V' h1 hal h2 h => Got.mv r U U' V V' h1 hal h2 h) ?_
  intro p e s m args below meth c s₁ X0 hexec hbytes hml hret hlk hnm hown hh0 W hP
  obtain ⟨rfl, hB, f1, f2, hA, s1, hz, l0, l2, hp⟩ := hP
  have c1 : Steps p.tables e below (s₁.setTop (entryFrame m #[.ref a, .ref b] 2)) (s₁.setTop (mkF m 0 #[.val (.ref a), .val (.ref b)] [])) := entry rfl
  have c2 : Steps p.tables e below (s₁.setTop (entryFrame m #[.ref a, .ref b] 2)) (s₁.setTop (mkF m 6 #[.val (.ref a), .val (.ref b)] [.null, .int (Int32.ofNat A.slots.size), .int 0, .ref b, .ref a])) := c1.trans (by
    refine XS.aloadN X0.here hexec rfl (hb hbytes d0) rfl rfl ?_
    refine XS.aloadN X0.here hexec rfl (hb hbytes d1) rfl rfl ?_
    refine iconstV X0.here hexec rfl 0 (hb hbytes d2) (by decide) ?_
    refine XS.aloadN X0.here hexec rfl (hb hbytes d3) rfl rfl ?_
    refine X0.alen hexec (hA.1.mv X0.warmed.alike hh0) rfl rfl (hb hbytes d4) ?_
    refine XS.aconstNull X0.here hexec rfl (hb hbytes d5) ?_
    exact Steps.refl _)
  obtain ⟨v3, T3, X3, E3, g3⟩ := X0.callN hexec (New4.law l a D fV fC b A z 0 A.slots.size) rfl hown (wks W (initW "java/lang/String" 27 New4.yN)) (W New4.tab (by simp only [site, List.mem_cons, List.mem_append, true_or, or_true])) (W := 0) (Nat.le_of_ble_eq_true rfl) (Nat.le_of_ble_eq_true rfl) (Nat.le_refl _) (by show 0 + A.slots.size ≤ A.slots.size; omega) (g := (mkF m 6 #[.val (.ref a), .val (.ref b)] [.null, .int (Int32.ofNat A.slots.size), .int (Int32.ofNat 0), .ref b, .ref a])) rfl (by rw [hml]; rfl) c2 (argsL := [.ref b, .int (Int32.ofNat 0), .int (Int32.ofNat A.slots.size), .null]) (rest := []) rfl rfl (by show 2 * 0 + 0 ≤ _; decide) (hb hbytes d6) (⟨rfl, hB.mv X0.warmed.alike hh0, f1.al X0.warmed.alike, f2.al X0.warmed.alike, hA.mv X0.warmed.alike hh0, s1.there X0.warmed.alike hh0, hz, l0, by omega, l2, fun i hi => by rw [Nat.zero_add]; exact hp i hi⟩)
  have e0 := Got.mv _ s₁ s _ _ hh0.symm (Vm.Alike.refl _) rfl E3
  obtain rfl := e0.1
  have c4 : Steps p.tables e below (s₁.setTop (entryFrame m #[.ref a, .ref b] 2)) (T3.setTop (mkF m 9 #[.val (.ref a), .val (.ref b)] [])) := g3
  exact ⟨T3, none, _, _, _, X3, by simp, rfl, by omega, (fun _ => rfl), e0, fun fs hl => c4.trans (X3.returnOut hexec hret (hb hbytes d9) hl)⟩
theorem pays {l : Launch} {R : Room} {p : Program} {e : Env} {below : List Frame} {s : State} {sargs : Array Value} {len W : Nat} (a : Addr) (D : Cell) (fV fC : Field) (b : Addr) (A : Cell) (z : Int32) (htab : tab.before sargs s = true) (hfr : 4 ≤ R.frames) (hlo : W + 65 ≤ R.locals) :
    Back l R p e below s sargs yN len W (fun A₁ a₁ => A₁.cells + 1 ≤ R.cells ∧ A₁.slots + A.slots.size ≤ R.slots ∧ P a D fV fC b A z a₁ A₁.U) (fun A₁ _ v₁ B₁ => E a D fV fC A v₁ A₁.U B₁.U ∧ B₁.locs = A₁.locs ++ [⟨a, fC.slot⟩, ⟨a, fV.slot⟩] ∧ B₁.cells = A₁.cells + 1 ∧ B₁.slots = A₁.slots + A.slots.size) :=
  (law l a D fV fC b A z).pays htab hfr (by omega)
end New1
end StrChars
namespace StrChars.Road
open Jvm Sem ClassFile Op Lib Jvm.Stand Jvm.Free Jvm.Free.XT
open Jvm.Lib.Cold (StaticIs)
abbrev ST : String := "java/lang/String"
/-- every table word that New1's law asks, flat -/
abbrev words : List Jvm.Cond := [.code New1.yN New1.yB 2 none, .initialized ST, .methodLink ST 27 New4.yN, .instanceMethod New4.yN,
  .code New4.yN New4.yB 6 none, .fieldLink ST 38 ST "COMPACT_STRINGS" "Z", .laysFinal ST ST "value" "[B", .fieldLink ST 9 ST "value" "[B", .laysFinal ST ST "coder" "B", .fieldLink ST 15 ST "coder" "B",
  .methodLink ST 1 Lib.objectInit, .instanceMethod Lib.objectInit, .code Lib.objectInit ⟨#[0xb1]⟩ 1 none, .methodLink ST 177 Cmp3.yN, .static Cmp3.yN, .methodLink ST 47 CodL.yN, .static CodL.yN,
  .code Cmp3.yN Cmp3.yB 6 (some (.array .byte)), .initialized U16, .arrayClass .byte, .methodLink U16 115 Cmp5.yN, .static Cmp5.yN, .code Cmp5.yN Cmp5.yB 7 (some .int), .code CodL.yN CodL.yB 2 (some .byte)]
theorem tab_of {a : Array Value} {s : State} (h : ∀ w ∈ words, w.before a s = true) : New1.tab.before a s = true := by
  have h5 : Cmp5.tab.before a s = true := unparts (wk h (.code Cmp5.yN Cmp5.yB 7 (some .int))) (wks h (.initialized Cmp5.yN.cls :: Cmp5.site))
  have hc : CodL.tab.before a s = true := unparts (wk h (.code CodL.yN CodL.yB 2 (some .byte))) (wks h (.initialized CodL.yN.cls :: CodL.site))
  have q5 : ∀ w ∈ Cmp5.tab :: words, w.before a s = true := fun w hw => (List.mem_cons.mp hw).elim (fun e => e ▸ h5) (h w)
  have h3 : Cmp3.tab.before a s = true := unparts (wk q5 (.code Cmp3.yN Cmp3.yB 6 (some (.array .byte)))) (wks q5 (.initialized Cmp3.yN.cls :: Cmp3.site))
  have q3 : ∀ w ∈ Cmp3.tab :: CodL.tab :: words, w.before a s = true := fun w hw => (List.mem_cons.mp hw).elim (fun e => e ▸ h3) fun hw => (List.mem_cons.mp hw).elim (fun e => e ▸ hc) (h w)
  have h4 : New4.tab.before a s = true := unparts (wk q3 (.code New4.yN New4.yB 6 none)) (wks q3 (.initialized New4.yN.cls :: New4.site))
  have q4 : ∀ w ∈ New4.tab :: words, w.before a s = true := fun w hw => (List.mem_cons.mp hw).elim (fun e => e ▸ h4) (h w)
  exact unparts (wk q4 (.code New1.yN New1.yB 2 none)) (wks q4 (.initialized New1.yN.cls :: New1.site))
/-- the words ride from the start Z to the walk's own state -/
theorem moved {Z s : State} {a0 args : Array Value} (hZ : Z.Warmed39 s.vm) (hw : ∀ d ∈ words, d.before a0 Z = true) : ∀ d ∈ words, d.before args s = true := fun d hd => by
  have q := hw d hd
  have t : ∀ d ∈ words, d = .arrayClass .byte ∨ (d.onTables && d.keepsFace) = true := by decide +kernel
  rcases t d hd with rfl | t
  · exact RoadKit.mvA hZ q
  · exact RoadKit.mv hZ q t
/-- WHAT COMES BACK, over the tables of the start Z: h the heap at the call, h' behind it -/
def Q (Z : State) (x : Addr) (A : Cell) (h : Heap) (v : Option Value) (h' : Heap) (L : List Loc) : Prop := v = none ∧ (∀ y ∈ L, y.base = x) ∧ RoadKit.Keep h h' [x] ∧ h'.size = h.size + 1 ∧ RoadKit.Exa Z h' x ST ∧ RoadKit.Fld Z h' x ST "value" "[B" (.ref h.size) ∧ RoadKit.Fld Z h' x ST "coder" "B" (.int 0) ∧
  (∃ V : Cell, RoadKit.Arr Z h' h.size V .byte ∧ V.vm = .none ∧ Z.vm.findClass "[B" = some V.cls ∧ V.slots.size = A.slots.size ∧ ∀ j, j < A.slots.size → V.slots[j]? = some (.int (lo8 (cv A j)))) ∧
  ∀ (O n d : String) (w : Value), RoadKit.Fld Z h x O n d w → RoadKit.slotOf Z O n d ≠ RoadKit.slotOf Z ST "value" "[B" → RoadKit.slotOf Z O n d ≠ RoadKit.slotOf Z ST "coder" "B" → RoadKit.Fld Z h' x O n d w
/-- **new String(chars) AT A CALL, IN THE ROAD'S FORM**: for specialBack behind newO: x the fresh String, b the char[] with the cell A -/
theorem back {p : Program} {l : Launch} {e : Env} {R : Room} {s : State} {args : Array Value} {below : List Frame} {len W : Nat} {Z : State} {a0 : Array Value} {h : Heap} (hZ : Z.Warmed39 s.vm) (hw : ∀ d ∈ words, d.before a0 Z = true) {kI : Nat} (wi : (Jvm.Cond.instantiable ST kI).before a0 Z = true)
    {x b : Addr} {A : Cell} {z : Int32} {v0 c0 : Value} (E : RoadKit.Exa Z h x ST) (V : RoadKit.Fld Z h x ST "value" "[B" v0) (C : RoadKit.Fld Z h x ST "coder" "B" c0) (K : RoadKit.Arr Z h b A .char) (hty : Typed .char A) (S : RoadKit.Sta Z h ST "COMPACT_STRINGS" "Z" (.int z)) (hz : ¬ z = 0)
    (l0 : 0 < A.slots.size) (l2 : A.slots.size ≤ 536870912) (hp : ∀ i, i < A.slots.size → ¬ 255 < cv A i) (hfr : 4 ≤ R.frames) (hlo : W + 65 ≤ R.locals) :
    Back l R p e below s args New1.yN len W (fun P a => a = #[.ref x, .ref b] ∧ P.U.heap = h ∧ P.cells + 1 ≤ R.cells ∧ P.slots + A.slots.size ≤ R.slots)
      (fun P _ v B => ∃ L, Q Z x A h v B.U.heap L ∧ B.locs = P.locs ++ L ∧ B.cells = P.cells + 1 ∧ B.slots = P.slots + A.slots.size) := by
  intro m meth c P g ig mk a X hg hsize hdg hW hn hp'
  obtain ⟨rfl, rfl, r1, r2⟩ := hp'
  have al : Z.vm.Alike P.U.vm := hZ.alike.trans X.warmed.alike
  obtain ⟨D, cfV, kV, iV, fV, hD, gV, stV, knV, obV, asV, slV⟩ := id V
  obtain ⟨D', cfC, kC, iC, fC, hD', gC, stC, -, -, asC, slC⟩ := id C
  cases hD.symm.trans hD'
  obtain ⟨D2, kD, e1, e2, e3, e4, e5⟩ := id E
  cases hD.symm.trans e1
  obtain ⟨c2, k2, i1, i2, i3, -⟩ := Cond.instantiable_spec wi
  cases e2.symm.trans i1
  cases e3.symm.trans i2
  obtain ⟨kU, u1, u2⟩ := al.2.2 _ _ e3
  have hB : Blank ST x D P.U := ⟨hD, ⟨knV, fun q hq => by rw [hq] at obV; cases obV⟩, by rw [al.findClass]; exact e2, kU, u1, by rw [u2]; exact i3, by rw [u2]; exact e5 i3⟩
  have F1 : Found ST "value" "[B" fV P.U := ⟨SBG.found_only al ⟨cfV, kV, iV, gV⟩, stV⟩
  have F2 : Found ST "coder" "B" fC P.U := ⟨SBG.found_only al ⟨cfC, kC, iC, gC⟩, stC⟩
  have hA : Ch b A P.U := ⟨⟨K.1, State.isArrayOf_alike al K.2.1, K.2.2, by omega⟩, hty⟩
  have hS : StaticIs P.U ST "COMPACT_STRINGS" "Z" (.int z) := by
    obtain ⟨cfS, iS, kS, fS, st, cS, t1, t2, t3, t4, t5, t6, t7⟩ := S
    exact StaticIs.there (s := { Z with heap := P.U.heap }) ⟨cfS, iS, kS, fS, st, cS, t1, t2, t3, t4, t5, (fun q => by rw [q] at t6; cases t6), t7⟩ al rfl
  obtain ⟨v, B, X', ⟨⟨hv, E', V', q1, q2, q3, q4, q5, q6, q7, q8, q9, q10, q11⟩, hl, hc, hs⟩, st⟩ := New1.pays x D fV fC b A z (tab_of (moved hZ hw)) hfr hlo m meth c P g ig mk _ X hg hsize hdg hW hn ⟨r1, r2, rfl, hB, F1, F2, hA, hS, hz, l0, l2, hp⟩
  have al' : Z.vm.Alike B.U.vm := hZ.alike.trans X'.warmed.alike
  have hsz : E'.slots.size = D.slots.size := by
    obtain ⟨-, -, -, kB, w1, w2, w3⟩ := q1
    obtain ⟨kB', y1, y2⟩ := al'.2.2 _ _ e3
    rw [q2.2.1] at w1
    cases w1.symm.trans y1
    rw [w3, e5 i3, y2]
  refine ⟨v, B, X', ⟨_, ⟨hv, ?_, ⟨by omega, fun y cy hy hn' => q10 y cy (by simpa using hn') hy, fun y cy hy => ?_⟩, q11, ⟨E', _, q1.1, by rw [q2.2.1]; exact e2, by rw [q2.2.1]; exact e3, by rw [q2.1]; exact obV, fun _ => by rw [hsz]; exact e5 i3⟩,
    ⟨E', cfV, kV, iV, fV, q1.1, gV, stV, by rw [q2.1]; exact knV, by rw [q2.1]; exact obV, by rw [q2.2.1]; exact asV, q3⟩, ⟨E', cfC, kC, iC, fC, q1.1, gC, stC, by rw [q2.1]; exact knV, by rw [q2.1]; exact obV, by rw [q2.2.1]; exact asC, q4⟩,
    ⟨V', ⟨q5.1, State.isArrayOf_alike al'.symm q5.2.1, q5.2.2.1⟩, q6, by rw [← al'.findClass]; exact q7, q8, fun j hj => by have := q9 j hj; rwa [Nat.zero_add] at this⟩, fun O n d w F n1 n2 => ?_⟩, hl, hc, hs⟩, st⟩
  · intro y hy
    simp only [List.mem_cons, List.not_mem_nil, or_false] at hy
    rcases hy with rfl | rfl <;> rfl
  · by_cases q : y = x
    · subst q
      cases hD.symm.trans hy
      exact ⟨E', q1.1, q2.2.1, q2.1, hsz⟩
    · exact ⟨cy, q10 y cy q hy, rfl, rfl, rfl⟩
  · obtain ⟨D3, cf, k, i, f, g1, g2, g3, g4, g5, g6, g7⟩ := F
    cases hD.symm.trans g1
    simp only [RoadKit.slotOf, g2, gV, gC, Option.map_some, Option.getD_some] at n1 n2
    exact ⟨E', cf, k, i, f, q1.1, g2, g3, by rw [q2.1]; exact g4, by rw [q2.1]; exact g5, by rw [q2.2.1]; exact g6, by rw [q2.2.2 f.slot (by simp [n1, n2])]; exact g7⟩
end StrChars.Road
namespace StrChars.Road
open Jvm Sem ClassFile Op Lib Jvm.Stand Jvm.Free Jvm.Free.XT
/-- WHAT COMES BACK, the byte[] as a list of values -/
def QA (Z : State) (x : Addr) (zn : Int32) (cs : List Int32) (h : Heap) (v : Option Value) (h' : Heap) (L : List Loc) : Prop := v = none ∧ (∀ y ∈ L, y.base = x) ∧ RoadKit.Keep h h' [x] ∧ h'.size = h.size + 1 ∧ RoadKit.Exa Z h' x ST ∧ RoadKit.Fld Z h' x ST "value" "[B" (.ref h.size) ∧ RoadKit.Fld Z h' x ST "coder" "B" (.int 0) ∧
  (∃ kb, Z.vm.findClass "[B" = some kb ∧ RoadKit.Arv Z h' h.size kb .byte zn (cs.map fun c => .int (lo8 c)) (.int 0)) ∧
  ∀ (O n d : String) (w : Value), RoadKit.Fld Z h x O n d w → RoadKit.slotOf Z O n d ≠ RoadKit.slotOf Z ST "value" "[B" → RoadKit.slotOf Z O n d ≠ RoadKit.slotOf Z ST "coder" "B" → RoadKit.Fld Z h' x O n d w
/-- **new String(chars) AT A CALL, THE ARRAYS AS LISTS**: the char[] at b holds cs, not empty, no char above 255 -/
theorem backArv {p : Program} {l : Launch} {e : Env} {R : Room} {s : State} {args : Array Value} {below : List Frame} {len W : Nat} {Z : State} {a0 : Array Value} {h : Heap} (hZ : Z.Warmed39 s.vm) (hw : ∀ d ∈ words, d.before a0 Z = true) {kI : Nat} (wi : (Jvm.Cond.instantiable ST kI).before a0 Z = true)
    {x b : Addr} {k : ClassId} {zn z : Int32} {cs : List Int32} {dv v0 c0 : Value} (E : RoadKit.Exa Z h x ST) (V : RoadKit.Fld Z h x ST "value" "[B" v0) (C : RoadKit.Fld Z h x ST "coder" "B" c0) (K : RoadKit.Arv Z h b k .char zn (cs.map Value.int) dv) (S : RoadKit.Sta Z h ST "COMPACT_STRINGS" "Z" (.int z)) (hz : ¬ z = 0)
    (hlen : zn.toNatClampNeg = cs.length) (h0 : 0 < cs.length) (hbig : cs.length ≤ 536870912) (hall : ∀ c ∈ cs, ¬ 255 < c) (hfr : 4 ≤ R.frames) (hlo : W + 65 ≤ R.locals) :
    Back l R p e below s args New1.yN len W (fun P a => a = #[.ref x, .ref b] ∧ P.U.heap = h ∧ P.cells + 1 ≤ R.cells ∧ P.slots + cs.length ≤ R.slots)
      (fun P _ v B => ∃ L, QA Z x zn cs h v B.U.heap L ∧ B.locs = P.locs ++ L ∧ B.cells = P.cells + 1 ∧ B.slots = P.slots + cs.length) := by
  obtain ⟨A, K1, K2, K3, K4, K5, K6⟩ := K
  have e : A.slots.size = cs.length := K3.trans hlen
  have hat : ∀ (i : Nat) (hi : i < cs.length), A.slots[i]? = some (.int cs[i]) := fun i hi => by rw [K5 i (by omega)]; simp [List.getD_eq_getElem?_getD, hi]
  have hcv : ∀ (i : Nat) (hi : i < cs.length), cv A i = cs[i] := fun i hi => by unfold cv; rw [hat i hi]
  have hty : Typed .char A := fun i v hv => by
    have hi : i < A.slots.size := (Array.getElem?_eq_some_iff.mp hv).1
    have q := K5 i hi
    rw [hv] at q
    rw [Option.some.inj q]
    exact K6 i hi
  refine Back.mono (back hZ hw wi E V C K1 hty S hz (by omega) (by omega) (fun i hi => by rw [hcv i (by omega)]; exact hall _ (List.getElem_mem _)) hfr hlo) (fun P a hp => ⟨hp.1, hp.2.1, hp.2.2.1, by rw [e]; exact hp.2.2.2⟩) (fun P a v B hp hq => ?_)
  obtain ⟨L, ⟨q1, q2, q3, q4, q5, q6, q7, ⟨V', v1, v2, v3, v4, v5⟩, q9⟩, hl, hc, hs⟩ := hq
  refine ⟨L, ⟨q1, q2, q3, q4, q5, q6, q7, ⟨V'.cls, v3, V', v1, rfl, by rw [v4, e, hlen], K4, fun i hi => ?_, fun i hi => ?_⟩, q9⟩, hl, hc, by rw [hs, e]⟩
  · have hi' : i < cs.length := by omega
    rw [v5 i (by omega), hcv i hi']; simp [List.getD_eq_getElem?_getD, hi']
  · have hi' : i < cs.length := by omega
    simp only [List.getD_eq_getElem?_getD, List.getElem?_map, List.getElem?_eq_getElem hi', Option.map_some, Option.getD_some]
    exact fits_lo8 _
end StrChars.Road
end Jvm.Pilot.@@N@@
namespace Jvm.Pilot.@@N@@
open Jvm
section OwnSteps
open Jvm Jvm.ClassFile Sem Op Lib Jvm.Free Jvm.Stand
open Jvm.RoadKit (lcmpW)
theorem own_f_iload {tb : Tables} [Ours tb] {e : Env} {below : List Frame} {T target : State} {m : MethodId} {c : Code} {Ls : Array Slot} {S : List Value} {pc pc' : Nat} {k : Nat} {v : Int32} (h : At T m c below) (hx : tb.exec = Jvm.exec) (hd : decode c.code pc = .ok (.iload k, 2)) (hl : Ls[k]? = some (.val (.int v))) (hp : pc + 2 = pc') (hr : Steps tb e below (T.setTop (mkF m pc' Ls (.int v :: S))) target) : Steps tb e below (T.setTop (mkF m pc Ls (S))) target := by subst hp; exact XS.iload h hx rfl hd hl hr
theorem own_f_iloadN {tb : Tables} [Ours tb] {e : Env} {below : List Frame} {T target : State} {m : MethodId} {c : Code} {Ls : Array Slot} {S : List Value} {pc pc' : Nat} {k : Fin 4} {v : Int32} (h : At T m c below) (hx : tb.exec = Jvm.exec) (hd : decode c.code pc = .ok (.iload_n k, 1)) (hl : Ls[k.val]? = some (.val (.int v))) (hp : pc + 1 = pc') (hr : Steps tb e below (T.setTop (mkF m pc' Ls (.int v :: S))) target) : Steps tb e below (T.setTop (mkF m pc Ls (S))) target := by subst hp; exact XS.iloadN h hx rfl hd hl hr
theorem own_f_istore {tb : Tables} [Ours tb] {e : Env} {below : List Frame} {T target : State} {m : MethodId} {c : Code} {Ls : Array Slot} {S : List Value} {pc pc' : Nat} {k : Nat} {v : Int32} {Ls' : Array Slot} (h : At T m c below) (hx : tb.exec = Jvm.exec) (hd : decode c.code pc = .ok (.istore k, 2)) (hl : storeLocals Ls k (.int v) = some Ls') (hp : pc + 2 = pc') (hr : Steps tb e below (T.setTop (mkF m pc' Ls' (S))) target) : Steps tb e below (T.setTop (mkF m pc Ls (.int v :: S))) target := by subst hp; exact XS.istore h hx rfl hd rfl hl hr
theorem own_f_istoreN {tb : Tables} [Ours tb] {e : Env} {below : List Frame} {T target : State} {m : MethodId} {c : Code} {Ls : Array Slot} {S : List Value} {pc pc' : Nat} {k : Fin 4} {v : Int32} {Ls' : Array Slot} (h : At T m c below) (hx : tb.exec = Jvm.exec) (hd : decode c.code pc = .ok (.istore_n k, 1)) (hl : storeLocals Ls k.val (.int v) = some Ls') (hp : pc + 1 = pc') (hr : Steps tb e below (T.setTop (mkF m pc' Ls' (S))) target) : Steps tb e below (T.setTop (mkF m pc Ls (.int v :: S))) target := by subst hp; exact XS.istoreN h hx rfl hd rfl hl hr
theorem own_f_lloadN {tb : Tables} [Ours tb] {e : Env} {below : List Frame} {T target : State} {m : MethodId} {c : Code} {Ls : Array Slot} {S : List Value} {pc pc' : Nat} {k : Fin 4} {v : Int64} (h : At T m c below) (hx : tb.exec = Jvm.exec) (hd : decode c.code pc = .ok (.lload_n k, 1)) (hl : Ls[k.val]? = some (.val (.long v))) (hp : pc + 1 = pc') (hr : Steps tb e below (T.setTop (mkF m pc' Ls (.long v :: S))) target) : Steps tb e below (T.setTop (mkF m pc Ls (S))) target := by subst hp; exact XS.lloadN h hx rfl hd hl hr
theorem own_f_lstoreN {tb : Tables} [Ours tb] {e : Env} {below : List Frame} {T target : State} {m : MethodId} {c : Code} {Ls : Array Slot} {S : List Value} {pc pc' : Nat} {k : Fin 4} {v : Int64} {Ls' : Array Slot} (h : At T m c below) (hx : tb.exec = Jvm.exec) (hd : decode c.code pc = .ok (.lstore_n k, 1)) (hl : storeLocals Ls k.val (.long v) = some Ls') (hp : pc + 1 = pc') (hr : Steps tb e below (T.setTop (mkF m pc' Ls' (S))) target) : Steps tb e below (T.setTop (mkF m pc Ls (.long v :: S))) target := by subst hp; exact XS.lstoreN h hx rfl hd rfl hl hr
theorem own_f_aload {tb : Tables} [Ours tb] {e : Env} {below : List Frame} {T target : State} {m : MethodId} {c : Code} {Ls : Array Slot} {S : List Value} {pc pc' : Nat} {k : Nat} {v : Value} (h : At T m c below) (hx : tb.exec = Jvm.exec) (hd : decode c.code pc = .ok (.aload k, 2)) (hl : Ls[k]? = some (.val v)) (hv : v.isRef = true) (hp : pc + 2 = pc') (hr : Steps tb e below (T.setTop (mkF m pc' Ls (v :: S))) target) : Steps tb e below (T.setTop (mkF m pc Ls (S))) target := by subst hp; exact XS.aload h hx rfl hd hl hv hr
theorem own_f_aloadN {tb : Tables} [Ours tb] {e : Env} {below : List Frame} {T target : State} {m : MethodId} {c : Code} {Ls : Array Slot} {S : List Value} {pc pc' : Nat} {k : Fin 4} {v : Value} (h : At T m c below) (hx : tb.exec = Jvm.exec) (hd : decode c.code pc = .ok (.aload_n k, 1)) (hl : Ls[k.val]? = some (.val v)) (hv : v.isRef = true) (hp : pc + 1 = pc') (hr : Steps tb e below (T.setTop (mkF m pc' Ls (v :: S))) target) : Steps tb e below (T.setTop (mkF m pc Ls (S))) target := by subst hp; exact XS.aloadN h hx rfl hd hl hv hr
theorem own_f_astore {tb : Tables} [Ours tb] {e : Env} {below : List Frame} {T target : State} {m : MethodId} {c : Code} {Ls : Array Slot} {S : List Value} {pc pc' : Nat} {k : Nat} {v : Value} {Ls' : Array Slot} (h : At T m c below) (hx : tb.exec = Jvm.exec) (hd : decode c.code pc = .ok (.astore k, 2)) (hv : v.isRef = true) (hl : storeLocals Ls k v = some Ls') (hp : pc + 2 = pc') (hr : Steps tb e below (T.setTop (mkF m pc' Ls' (S))) target) : Steps tb e below (T.setTop (mkF m pc Ls (v :: S))) target := by subst hp; exact XS.astore h hx rfl hd rfl hv hl hr
theorem own_f_astoreN {tb : Tables} [Ours tb] {e : Env} {below : List Frame} {T target : State} {m : MethodId} {c : Code} {Ls : Array Slot} {S : List Value} {pc pc' : Nat} {k : Fin 4} {v : Value} {Ls' : Array Slot} (h : At T m c below) (hx : tb.exec = Jvm.exec) (hd : decode c.code pc = .ok (.astore_n k, 1)) (hv : v.isRef = true) (hl : storeLocals Ls k.val v = some Ls') (hp : pc + 1 = pc') (hr : Steps tb e below (T.setTop (mkF m pc' Ls' (S))) target) : Steps tb e below (T.setTop (mkF m pc Ls (v :: S))) target := by subst hp; exact XS.astoreN h hx rfl hd rfl hv hl hr
theorem own_f_iconst {tb : Tables} [Ours tb] {e : Env} {below : List Frame} {T target : State} {m : MethodId} {c : Code} {Ls : Array Slot} {S : List Value} {pc pc' : Nat} {i : Int} {v : Int32} (h : At T m c below) (hx : tb.exec = Jvm.exec) (hd : decode c.code pc = .ok (.iconst i, 1)) (hv : Int32.ofInt i = v) (hp : pc + 1 = pc') (hr : Steps tb e below (T.setTop (mkF m pc' Ls (.int v :: S))) target) : Steps tb e below (T.setTop (mkF m pc Ls (S))) target := by subst hp; exact XS.iconst h hx rfl hd (hv ▸ hr)
theorem own_f_bipush {tb : Tables} [Ours tb] {e : Env} {below : List Frame} {T target : State} {m : MethodId} {c : Code} {Ls : Array Slot} {S : List Value} {pc pc' : Nat} {i : Int} {v : Int32} (h : At T m c below) (hx : tb.exec = Jvm.exec) (hd : decode c.code pc = .ok (.bipush i, 2)) (hv : (Int8.ofInt i).toInt32 = v) (hp : pc + 2 = pc') (hr : Steps tb e below (T.setTop (mkF m pc' Ls (.int v :: S))) target) : Steps tb e below (T.setTop (mkF m pc Ls (S))) target := by subst hp; exact XS.bipush h hx rfl hd (hv ▸ hr)
theorem own_f_sipush {tb : Tables} [Ours tb] {e : Env} {below : List Frame} {T target : State} {m : MethodId} {c : Code} {Ls : Array Slot} {S : List Value} {pc pc' : Nat} {i : Int} {v : Int32} (h : At T m c below) (hx : tb.exec = Jvm.exec) (hd : decode c.code pc = .ok (.sipush i, 3)) (hv : (Int16.ofInt i).toInt32 = v) (hp : pc + 3 = pc') (hr : Steps tb e below (T.setTop (mkF m pc' Ls (.int v :: S))) target) : Steps tb e below (T.setTop (mkF m pc Ls (S))) target := by subst hp; exact XS.sipush h hx rfl hd (hv ▸ hr)
theorem own_f_aconstNull {tb : Tables} [Ours tb] {e : Env} {below : List Frame} {T target : State} {m : MethodId} {c : Code} {Ls : Array Slot} {S : List Value} {pc pc' : Nat}  (h : At T m c below) (hx : tb.exec = Jvm.exec) (hd : decode c.code pc = .ok (.aconst_null, 1)) (hp : pc + 1 = pc') (hr : Steps tb e below (T.setTop (mkF m pc' Ls (.null :: S))) target) : Steps tb e below (T.setTop (mkF m pc Ls (S))) target := by subst hp; exact XS.aconstNull h hx rfl hd hr
theorem own_f_iadd {tb : Tables} [Ours tb] {e : Env} {below : List Frame} {T target : State} {m : MethodId} {c : Code} {Ls : Array Slot} {S : List Value} {pc pc' : Nat} {x y v : Int32} (h : At T m c below) (hx : tb.exec = Jvm.exec) (hd : decode c.code pc = .ok (.iadd, 1)) (hv : x + y = v) (hp : pc + 1 = pc') (hr : Steps tb e below (T.setTop (mkF m pc' Ls (.int v :: S))) target) : Steps tb e below (T.setTop (mkF m pc Ls (.int y :: .int x :: S))) target := by subst hp; exact XS.iadd h hx rfl hd rfl (hv ▸ hr)
theorem own_f_ladd {tb : Tables} [Ours tb] {e : Env} {below : List Frame} {T target : State} {m : MethodId} {c : Code} {Ls : Array Slot} {S : List Value} {pc pc' : Nat} {x y v : Int64} (h : At T m c below) (hx : tb.exec = Jvm.exec) (hd : decode c.code pc = .ok (.ladd, 1)) (hv : x + y = v) (hp : pc + 1 = pc') (hr : Steps tb e below (T.setTop (mkF m pc' Ls (.long v :: S))) target) : Steps tb e below (T.setTop (mkF m pc Ls (.long y :: .long x :: S))) target := by subst hp; exact XS.ladd h hx rfl hd rfl (hv ▸ hr)
theorem own_f_isub {tb : Tables} [Ours tb] {e : Env} {below : List Frame} {T target : State} {m : MethodId} {c : Code} {Ls : Array Slot} {S : List Value} {pc pc' : Nat} {x y v : Int32} (h : At T m c below) (hx : tb.exec = Jvm.exec) (hd : decode c.code pc = .ok (.isub, 1)) (hv : x - y = v) (hp : pc + 1 = pc') (hr : Steps tb e below (T.setTop (mkF m pc' Ls (.int v :: S))) target) : Steps tb e below (T.setTop (mkF m pc Ls (.int y :: .int x :: S))) target := by subst hp; exact XS.isub h hx rfl hd rfl (hv ▸ hr)
theorem own_f_imul {tb : Tables} [Ours tb] {e : Env} {below : List Frame} {T target : State} {m : MethodId} {c : Code} {Ls : Array Slot} {S : List Value} {pc pc' : Nat} {x y v : Int32} (h : At T m c below) (hx : tb.exec = Jvm.exec) (hd : decode c.code pc = .ok (.imul, 1)) (hv : x * y = v) (hp : pc + 1 = pc') (hr : Steps tb e below (T.setTop (mkF m pc' Ls (.int v :: S))) target) : Steps tb e below (T.setTop (mkF m pc Ls (.int y :: .int x :: S))) target := by subst hp; exact XS.imul h hx rfl hd rfl (hv ▸ hr)
theorem own_f_lmul {tb : Tables} [Ours tb] {e : Env} {below : List Frame} {T target : State} {m : MethodId} {c : Code} {Ls : Array Slot} {S : List Value} {pc pc' : Nat} {x y v : Int64} (h : At T m c below) (hx : tb.exec = Jvm.exec) (hd : decode c.code pc = .ok (.lmul, 1)) (hv : x * y = v) (hp : pc + 1 = pc') (hr : Steps tb e below (T.setTop (mkF m pc' Ls (.long v :: S))) target) : Steps tb e below (T.setTop (mkF m pc Ls (.long y :: .long x :: S))) target := by subst hp; exact XS.lmul h hx rfl hd rfl (hv ▸ hr)
theorem own_f_iand {tb : Tables} [Ours tb] {e : Env} {below : List Frame} {T target : State} {m : MethodId} {c : Code} {Ls : Array Slot} {S : List Value} {pc pc' : Nat} {x y v : Int32} (h : At T m c below) (hx : tb.exec = Jvm.exec) (hd : decode c.code pc = .ok (.iand, 1)) (hv : x &&& y = v) (hp : pc + 1 = pc') (hr : Steps tb e below (T.setTop (mkF m pc' Ls (.int v :: S))) target) : Steps tb e below (T.setTop (mkF m pc Ls (.int y :: .int x :: S))) target := by subst hp; exact XS.iand h hx rfl hd rfl (hv ▸ hr)
theorem own_f_ior {tb : Tables} [Ours tb] {e : Env} {below : List Frame} {T target : State} {m : MethodId} {c : Code} {Ls : Array Slot} {S : List Value} {pc pc' : Nat} {x y v : Int32} (h : At T m c below) (hx : tb.exec = Jvm.exec) (hd : decode c.code pc = .ok (.ior, 1)) (hv : x ||| y = v) (hp : pc + 1 = pc') (hr : Steps tb e below (T.setTop (mkF m pc' Ls (.int v :: S))) target) : Steps tb e below (T.setTop (mkF m pc Ls (.int y :: .int x :: S))) target := by subst hp; exact XS.ior h hx rfl hd rfl (hv ▸ hr)
theorem own_f_ixor {tb : Tables} [Ours tb] {e : Env} {below : List Frame} {T target : State} {m : MethodId} {c : Code} {Ls : Array Slot} {S : List Value} {pc pc' : Nat} {x y v : Int32} (h : At T m c below) (hx : tb.exec = Jvm.exec) (hd : decode c.code pc = .ok (.ixor, 1)) (hv : x ^^^ y = v) (hp : pc + 1 = pc') (hr : Steps tb e below (T.setTop (mkF m pc' Ls (.int v :: S))) target) : Steps tb e below (T.setTop (mkF m pc Ls (.int y :: .int x :: S))) target := by subst hp; exact XS.ixor h hx rfl hd rfl (hv ▸ hr)
theorem own_f_ishl {tb : Tables} [Ours tb] {e : Env} {below : List Frame} {T target : State} {m : MethodId} {c : Code} {Ls : Array Slot} {S : List Value} {pc pc' : Nat} {x : Int32} {y : Int32} (h : At T m c below) (hx : tb.exec = Jvm.exec) (hd : decode c.code pc = .ok (.ishl, 1)) (hp : pc + 1 = pc') (hr : Steps tb e below (T.setTop (mkF m pc' Ls (.int (x <<< (y &&& 31)) :: S))) target) : Steps tb e below (T.setTop (mkF m pc Ls (.int y :: .int x :: S))) target := by subst hp; exact XS.ishl h hx rfl hd rfl hr
theorem own_f_ishr {tb : Tables} [Ours tb] {e : Env} {below : List Frame} {T target : State} {m : MethodId} {c : Code} {Ls : Array Slot} {S : List Value} {pc pc' : Nat} {x : Int32} {y : Int32} (h : At T m c below) (hx : tb.exec = Jvm.exec) (hd : decode c.code pc = .ok (.ishr, 1)) (hp : pc + 1 = pc') (hr : Steps tb e below (T.setTop (mkF m pc' Ls (.int (x >>> (y &&& 31)) :: S))) target) : Steps tb e below (T.setTop (mkF m pc Ls (.int y :: .int x :: S))) target := by subst hp; exact XS.ishr h hx rfl hd rfl hr
theorem own_f_iushr {tb : Tables} [Ours tb] {e : Env} {below : List Frame} {T target : State} {m : MethodId} {c : Code} {Ls : Array Slot} {S : List Value} {pc pc' : Nat} {x : Int32} {y : Int32} (h : At T m c below) (hx : tb.exec = Jvm.exec) (hd : decode c.code pc = .ok (.iushr, 1)) (hp : pc + 1 = pc') (hr : Steps tb e below (T.setTop (mkF m pc' Ls (.int ((x.toUInt32 >>> (y &&& 31).toUInt32).toInt32) :: S))) target) : Steps tb e below (T.setTop (mkF m pc Ls (.int y :: .int x :: S))) target := by subst hp; exact XS.iushr h hx rfl hd rfl hr
theorem own_f_idiv {tb : Tables} [Ours tb] {e : Env} {below : List Frame} {T target : State} {m : MethodId} {c : Code} {Ls : Array Slot} {S : List Value} {pc pc' : Nat} {x y : Int32} (h : At T m c below) (hx : tb.exec = Jvm.exec) (hd : decode c.code pc = .ok (.idiv, 1)) (hy : y ≠ 0) (hp : pc + 1 = pc') (hr : Steps tb e below (T.setTop (mkF m pc' Ls (.int (x / y) :: S))) target) : Steps tb e below (T.setTop (mkF m pc Ls (.int y :: .int x :: S))) target := by subst hp; exact XS.idiv h hx rfl hd rfl hy hr
theorem own_f_irem {tb : Tables} [Ours tb] {e : Env} {below : List Frame} {T target : State} {m : MethodId} {c : Code} {Ls : Array Slot} {S : List Value} {pc pc' : Nat} {x y : Int32} (h : At T m c below) (hx : tb.exec = Jvm.exec) (hd : decode c.code pc = .ok (.irem, 1)) (hy : y ≠ 0) (hp : pc + 1 = pc') (hr : Steps tb e below (T.setTop (mkF m pc' Ls (.int (x - (x / y) * y) :: S))) target) : Steps tb e below (T.setTop (mkF m pc Ls (.int y :: .int x :: S))) target := by subst hp; exact XS.irem h hx rfl hd rfl hy hr
theorem own_f_ldiv {tb : Tables} [Ours tb] {e : Env} {below : List Frame} {T target : State} {m : MethodId} {c : Code} {Ls : Array Slot} {S : List Value} {pc pc' : Nat} {x y : Int64} (h : At T m c below) (hx : tb.exec = Jvm.exec) (hd : decode c.code pc = .ok (.ldiv, 1)) (hy : y ≠ 0) (hp : pc + 1 = pc') (hr : Steps tb e below (T.setTop (mkF m pc' Ls (.long (x / y) :: S))) target) : Steps tb e below (T.setTop (mkF m pc Ls (.long y :: .long x :: S))) target := by subst hp; exact XS.ldiv h hx rfl hd rfl hy hr
theorem own_f_i2l {tb : Tables} [Ours tb] {e : Env} {below : List Frame} {T target : State} {m : MethodId} {c : Code} {Ls : Array Slot} {S : List Value} {pc pc' : Nat} {x : Int32} (h : At T m c below) (hx : tb.exec = Jvm.exec) (hd : decode c.code pc = .ok (.i2l, 1)) (hp : pc + 1 = pc') (hr : Steps tb e below (T.setTop (mkF m pc' Ls (.long (x.toInt64) :: S))) target) : Steps tb e below (T.setTop (mkF m pc Ls (.int x :: S))) target := by subst hp; exact XS.i2l h hx rfl hd rfl hr
theorem own_f_l2i {tb : Tables} [Ours tb] {e : Env} {below : List Frame} {T target : State} {m : MethodId} {c : Code} {Ls : Array Slot} {S : List Value} {pc pc' : Nat} {x : Int64} (h : At T m c below) (hx : tb.exec = Jvm.exec) (hd : decode c.code pc = .ok (.l2i, 1)) (hp : pc + 1 = pc') (hr : Steps tb e below (T.setTop (mkF m pc' Ls (.int (x.toInt32) :: S))) target) : Steps tb e below (T.setTop (mkF m pc Ls (.long x :: S))) target := by subst hp; exact XS.l2i h hx rfl hd rfl hr
theorem own_f_i2b {tb : Tables} [Ours tb] {e : Env} {below : List Frame} {T target : State} {m : MethodId} {c : Code} {Ls : Array Slot} {S : List Value} {pc pc' : Nat} {x : Int32} (h : At T m c below) (hx : tb.exec = Jvm.exec) (hd : decode c.code pc = .ok (.i2b, 1)) (hp : pc + 1 = pc') (hr : Steps tb e below (T.setTop (mkF m pc' Ls (.int (x.toInt8.toInt32) :: S))) target) : Steps tb e below (T.setTop (mkF m pc Ls (.int x :: S))) target := by subst hp; exact XS.i2b h hx rfl hd rfl hr
theorem own_f_i2c {tb : Tables} [Ours tb] {e : Env} {below : List Frame} {T target : State} {m : MethodId} {c : Code} {Ls : Array Slot} {S : List Value} {pc pc' : Nat} {x : Int32} (h : At T m c below) (hx : tb.exec = Jvm.exec) (hd : decode c.code pc = .ok (.i2c, 1)) (hp : pc + 1 = pc') (hr : Steps tb e below (T.setTop (mkF m pc' Ls (.int (x.toUInt32.toUInt16.toUInt32.toInt32) :: S))) target) : Steps tb e below (T.setTop (mkF m pc Ls (.int x :: S))) target := by subst hp; exact XS.i2c h hx rfl hd rfl hr
theorem own_f_lcmp {tb : Tables} [Ours tb] {e : Env} {below : List Frame} {T target : State} {m : MethodId} {c : Code} {Ls : Array Slot} {S : List Value} {pc pc' : Nat} {x y : Int64} (h : At T m c below) (hx : tb.exec = Jvm.exec) (hd : decode c.code pc = .ok (.lcmp, 1)) (hp : pc + 1 = pc') (hr : Steps tb e below (T.setTop (mkF m pc' Ls (.int (lcmpW x y) :: S))) target) : Steps tb e below (T.setTop (mkF m pc Ls (.long y :: .long x :: S))) target := by subst hp; exact XS.lcmp h hx rfl hd rfl hr
theorem own_f_iinc {tb : Tables} [Ours tb] {e : Env} {below : List Frame} {T target : State} {m : MethodId} {c : Code} {Ls : Array Slot} {S : List Value} {pc pc' : Nat} {k : Nat} {cst : Int} {x : Int32} {Ls' : Array Slot} (h : At T m c below) (hx : tb.exec = Jvm.exec) (hd : decode c.code pc = .ok (.iinc k cst, 3)) (hl : Ls[k]? = some (.val (.int x))) (hl' : storeLocals Ls k (.int (x + Int32.ofInt cst)) = some Ls') (hp : pc + 3 = pc') (hr : Steps tb e below (T.setTop (mkF m pc' Ls' (S))) target) : Steps tb e below (T.setTop (mkF m pc Ls (S))) target := by subst hp; exact XS.iinc h hx rfl hd hl hl' hr
theorem own_f_dup {tb : Tables} [Ours tb] {e : Env} {below : List Frame} {T target : State} {m : MethodId} {c : Code} {Ls : Array Slot} {S : List Value} {pc pc' : Nat} {v : Value} (h : At T m c below) (hx : tb.exec = Jvm.exec) (hd : decode c.code pc = .ok (.dup, 1)) (hc : v.category = 1) (hp : pc + 1 = pc') (hr : Steps tb e below (T.setTop (mkF m pc' Ls (v :: v :: S))) target) : Steps tb e below (T.setTop (mkF m pc Ls (v :: S))) target := by subst hp; exact XS.dup h hx rfl hd rfl hc hr
theorem own_f_pop {tb : Tables} [Ours tb] {e : Env} {below : List Frame} {T target : State} {m : MethodId} {c : Code} {Ls : Array Slot} {S : List Value} {pc pc' : Nat} {x : Value} (h : At T m c below) (hx : tb.exec = Jvm.exec) (hd : decode c.code pc = .ok (.pop, 1)) (hc : x.category = 1) (hp : pc + 1 = pc') (hr : Steps tb e below (T.setTop (mkF m pc' Ls (S))) target) : Steps tb e below (T.setTop (mkF m pc Ls (x :: S))) target := by subst hp; exact XS.pop h hx rfl hd rfl hc hr
theorem own_f_goto {tb : Tables} [Ours tb] {e : Env} {below : List Frame} {T target : State} {m : MethodId} {c : Code} {Ls : Array Slot} {S : List Value} {pc pc' : Nat} {o : Int} (h : At T m c below) (hx : tb.exec = Jvm.exec) (hd : decode c.code pc = .ok (.goto o, 3)) (ho : 0 ≤ (pc : Int) + o) (hp : ((pc : Int) + o).toNat = pc') (hr : Steps tb e below (T.setTop (mkF m pc' Ls S)) target) : Steps tb e below (T.setTop (mkF m pc Ls (S))) target := XS.goto h hx rfl rfl hd ho hp hr
theorem own_f_ifYes {tb : Tables} [Ours tb] {e : Env} {below : List Frame} {T target : State} {m : MethodId} {c : Code} {Ls : Array Slot} {S : List Value} {pc pc' : Nat} {o : Int} {cd : ClassFile.Cond} {x : Int32} (h : At T m c below) (hx : tb.exec = Jvm.exec) (hd : decode c.code pc = .ok (.ifCond cd o, 3)) (hc : ifCond.holds cd x = true) (ho : 0 ≤ (pc : Int) + o) (hp : ((pc : Int) + o).toNat = pc') (hr : Steps tb e below (T.setTop (mkF m pc' Ls S)) target) : Steps tb e below (T.setTop (mkF m pc Ls (.int x :: S))) target := XS.ifYes h hx rfl rfl hd rfl hc ho hp hr
theorem own_f_icmpYes {tb : Tables} [Ours tb] {e : Env} {below : List Frame} {T target : State} {m : MethodId} {c : Code} {Ls : Array Slot} {S : List Value} {pc pc' : Nat} {o : Int} {cd : ClassFile.Cond} {x y : Int32} (h : At T m c below) (hx : tb.exec = Jvm.exec) (hd : decode c.code pc = .ok (.if_icmp cd o, 3)) (hc : if_icmp.holds cd x y = true) (ho : 0 ≤ (pc : Int) + o) (hp : ((pc : Int) + o).toNat = pc') (hr : Steps tb e below (T.setTop (mkF m pc' Ls S)) target) : Steps tb e below (T.setTop (mkF m pc Ls (.int y :: .int x :: S))) target := XS.icmpYes h hx rfl rfl hd rfl hc ho hp hr
theorem own_f_ifNo {tb : Tables} [Ours tb] {e : Env} {below : List Frame} {T target : State} {m : MethodId} {c : Code} {Ls : Array Slot} {S : List Value} {pc pc' : Nat} {o : Int} {cd : ClassFile.Cond} {x : Int32} (h : At T m c below) (hx : tb.exec = Jvm.exec) (hd : decode c.code pc = .ok (.ifCond cd o, 3)) (hc : ifCond.holds cd x = false) (hp : pc + 3 = pc') (hr : Steps tb e below (T.setTop (mkF m pc' Ls (S))) target) : Steps tb e below (T.setTop (mkF m pc Ls (.int x :: S))) target := by subst hp; exact XS.ifNo h hx rfl hd rfl hc hr
theorem own_f_icmpNo {tb : Tables} [Ours tb] {e : Env} {below : List Frame} {T target : State} {m : MethodId} {c : Code} {Ls : Array Slot} {S : List Value} {pc pc' : Nat} {o : Int} {cd : ClassFile.Cond} {x y : Int32} (h : At T m c below) (hx : tb.exec = Jvm.exec) (hd : decode c.code pc = .ok (.if_icmp cd o, 3)) (hc : if_icmp.holds cd x y = false) (hp : pc + 3 = pc') (hr : Steps tb e below (T.setTop (mkF m pc' Ls (S))) target) : Steps tb e below (T.setTop (mkF m pc Ls (.int y :: .int x :: S))) target := by subst hp; exact XS.icmpNo h hx rfl hd rfl hc hr
variable {p : Program} {l : Launch} {e : Env} {R : Room} {s : State} {m : MethodId} {args : Array Value} {below : List Frame} {meth : Method} {c : Code} {T target : State} {locs : List Loc} {cells slots : Nat} {Ls : Array Slot} {S : List Value} {pc pc' : Nat} {own : String} {index : Nat}
theorem own_f_ldcInt (X : Stand p l e R s m args below meth c T locs cells slots) (hx : p.tables.exec = Jvm.exec) {v : Int32} (hown : s.vm.findClass own = some m.cls) (hc : (Jvm.Cond.constant own index v).before args s = true) (hd : decode c.code pc = .ok (.ldc index, 2)) (hp : pc + 2 = pc') (hr : Steps p.tables e below (T.setTop (mkF m pc' Ls (.int v :: S))) target) : Steps p.tables e below (T.setTop (mkF m pc Ls S)) target := by subst hp; exact X.ldcInt hx hown hc (g := mkF m pc Ls S) rfl hd _ hr
theorem own_f_ldc2Long (X : Stand p l e R s m args below meth c T locs cells slots) (hx : p.tables.exec = Jvm.exec) {v : Int64} (hown : s.vm.findClass own = some m.cls) (hc : (Jvm.Cond.constantLong own index v).before args s = true) (hd : decode c.code pc = .ok (.ldc2_w index, 3)) (hp : pc + 3 = pc') (hr : Steps p.tables e below (T.setTop (mkF m pc' Ls (.long v :: S))) target) : Steps p.tables e below (T.setTop (mkF m pc Ls S)) target := by subst hp; exact X.ldc2Long hx hown hc (g := mkF m pc Ls S) rfl hd _ hr
end OwnSteps
section OwnO
open Jvm Jvm.ClassFile Sem Op Lib Jvm.Free Jvm.Stand Jvm.LawKit Jvm.RoadKit Bundle
abbrev Li (z : Int32) : Slot := .val (.int z)
abbrev Lj (z : Int64) : Slot := .val (.long z)
abbrev Ld (z : UInt64) : Slot := .val (.double z)
abbrev Lr (z : Addr) : Slot := .val (.ref z)
abbrev Ln : Slot := .val .null
abbrev Lu : Slot := .unset
abbrev Lt : Slot := .second
abbrev DC (q : ByteArray) (n : Nat) (i : Instr) (k : Nat) : Prop := decode q n = .ok (i, k)
variable {p : Program} {l : Launch} {e : Env} {R : Room} {s : State} {m : MethodId} {args : Array Value} {below : List Frame} {meth : Method} {c : Code} {T A t : State} {locs : List Loc} {cells slots : Nat} {Z : State} {a0 : Array Value} {h : Heap} {code : ByteArray} {Ls Ls' : Array Slot} {S : List Value} {pc pc' : Nat} {own : String}
theorem o_iload (X : Stand p l e R s m args below meth c T locs cells slots) (hx : p.tables.exec = Jvm.exec ∧ c.code = code) {k : Nat} {v : Int32} (hd : decode code pc = .ok (.iload k, 2)) (hl : Ls[k]? = some (.val (.int v))) (hr : Steps p.tables e below (T.setTop (mkF m (pc + 2) Ls (.int v :: S))) t) : Steps p.tables e below (T.setTop (mkF m pc Ls (S))) t := own_f_iload X.here hx.1 (hb hx.2 hd) hl rfl hr
theorem o_iloadN (X : Stand p l e R s m args below meth c T locs cells slots) (hx : p.tables.exec = Jvm.exec ∧ c.code = code) {k : Fin 4} {v : Int32} (hd : decode code pc = .ok (.iload_n k, 1)) (hl : Ls[k.val]? = some (.val (.int v))) (hr : Steps p.tables e below (T.setTop (mkF m (pc + 1) Ls (.int v :: S))) t) : Steps p.tables e below (T.setTop (mkF m pc Ls (S))) t := own_f_iloadN X.here hx.1 (hb hx.2 hd) hl rfl hr
theorem o_istore (X : Stand p l e R s m args below meth c T locs cells slots) (hx : p.tables.exec = Jvm.exec ∧ c.code = code) {k : Nat} {v : Int32}  (hd : decode code pc = .ok (.istore k, 2)) (Ls' : Array Slot) (hl : storeLocals Ls k (.int v) = some Ls') (hr : Steps p.tables e below (T.setTop (mkF m (pc + 2) Ls' (S))) t) : Steps p.tables e below (T.setTop (mkF m pc Ls (.int v :: S))) t := own_f_istore X.here hx.1 (hb hx.2 hd) hl rfl hr
theorem o_istoreN (X : Stand p l e R s m args below meth c T locs cells slots) (hx : p.tables.exec = Jvm.exec ∧ c.code = code) {k : Fin 4} {v : Int32}  (hd : decode code pc = .ok (.istore_n k, 1)) (Ls' : Array Slot) (hl : storeLocals Ls k.val (.int v) = some Ls') (hr : Steps p.tables e below (T.setTop (mkF m (pc + 1) Ls' (S))) t) : Steps p.tables e below (T.setTop (mkF m pc Ls (.int v :: S))) t := own_f_istoreN X.here hx.1 (hb hx.2 hd) hl rfl hr
theorem o_lloadN (X : Stand p l e R s m args below meth c T locs cells slots) (hx : p.tables.exec = Jvm.exec ∧ c.code = code) {k : Fin 4} {v : Int64} (hd : decode code pc = .ok (.lload_n k, 1)) (hl : Ls[k.val]? = some (.val (.long v))) (hr : Steps p.tables e below (T.setTop (mkF m (pc + 1) Ls (.long v :: S))) t) : Steps p.tables e below (T.setTop (mkF m pc Ls (S))) t := own_f_lloadN X.here hx.1 (hb hx.2 hd) hl rfl hr
theorem o_lstoreN (X : Stand p l e R s m args below meth c T locs cells slots) (hx : p.tables.exec = Jvm.exec ∧ c.code = code) {k : Fin 4} {v : Int64}  (hd : decode code pc = .ok (.lstore_n k, 1)) (Ls' : Array Slot) (hl : storeLocals Ls k.val (.long v) = some Ls') (hr : Steps p.tables e below (T.setTop (mkF m (pc + 1) Ls' (S))) t) : Steps p.tables e below (T.setTop (mkF m pc Ls (.long v :: S))) t := own_f_lstoreN X.here hx.1 (hb hx.2 hd) hl rfl hr
theorem o_aload (X : Stand p l e R s m args below meth c T locs cells slots) (hx : p.tables.exec = Jvm.exec ∧ c.code = code) {k : Nat} {v : Value} (hd : decode code pc = .ok (.aload k, 2)) (hl : Ls[k]? = some (.val v)) (hv : v.isRef = true) (hr : Steps p.tables e below (T.setTop (mkF m (pc + 2) Ls (v :: S))) t) : Steps p.tables e below (T.setTop (mkF m pc Ls (S))) t := own_f_aload X.here hx.1 (hb hx.2 hd) hl hv rfl hr
theorem o_aloadN (X : Stand p l e R s m args below meth c T locs cells slots) (hx : p.tables.exec = Jvm.exec ∧ c.code = code) {k : Fin 4} {v : Value} (hd : decode code pc = .ok (.aload_n k, 1)) (hl : Ls[k.val]? = some (.val v)) (hv : v.isRef = true) (hr : Steps p.tables e below (T.setTop (mkF m (pc + 1) Ls (v :: S))) t) : Steps p.tables e below (T.setTop (mkF m pc Ls (S))) t := own_f_aloadN X.here hx.1 (hb hx.2 hd) hl hv rfl hr
theorem o_astore (X : Stand p l e R s m args below meth c T locs cells slots) (hx : p.tables.exec = Jvm.exec ∧ c.code = code) {k : Nat} {v : Value}  (hd : decode code pc = .ok (.astore k, 2)) (Ls' : Array Slot) (hv : v.isRef = true) (hl : storeLocals Ls k v = some Ls') (hr : Steps p.tables e below (T.setTop (mkF m (pc + 2) Ls' (S))) t) : Steps p.tables e below (T.setTop (mkF m pc Ls (v :: S))) t := own_f_astore X.here hx.1 (hb hx.2 hd) hv hl rfl hr
theorem o_astoreN (X : Stand p l e R s m args below meth c T locs cells slots) (hx : p.tables.exec = Jvm.exec ∧ c.code = code) {k : Fin 4} {v : Value}  (hd : decode code pc = .ok (.astore_n k, 1)) (Ls' : Array Slot) (hv : v.isRef = true) (hl : storeLocals Ls k.val v = some Ls') (hr : Steps p.tables e below (T.setTop (mkF m (pc + 1) Ls' (S))) t) : Steps p.tables e below (T.setTop (mkF m pc Ls (v :: S))) t := own_f_astoreN X.here hx.1 (hb hx.2 hd) hv hl rfl hr
theorem o_iconst (X : Stand p l e R s m args below meth c T locs cells slots) (hx : p.tables.exec = Jvm.exec ∧ c.code = code) {i : Int} (hd : decode code pc = .ok (.iconst i, 1)) (v : Int32) (hv : Int32.ofInt i = v) (hr : Steps p.tables e below (T.setTop (mkF m (pc + 1) Ls (.int v :: S))) t) : Steps p.tables e below (T.setTop (mkF m pc Ls (S))) t := own_f_iconst X.here hx.1 (hb hx.2 hd) hv rfl hr
theorem o_bipush (X : Stand p l e R s m args below meth c T locs cells slots) (hx : p.tables.exec = Jvm.exec ∧ c.code = code) {i : Int} (hd : decode code pc = .ok (.bipush i, 2)) (v : Int32) (hv : (Int8.ofInt i).toInt32 = v) (hr : Steps p.tables e below (T.setTop (mkF m (pc + 2) Ls (.int v :: S))) t) : Steps p.tables e below (T.setTop (mkF m pc Ls (S))) t := own_f_bipush X.here hx.1 (hb hx.2 hd) hv rfl hr
theorem o_sipush (X : Stand p l e R s m args below meth c T locs cells slots) (hx : p.tables.exec = Jvm.exec ∧ c.code = code) {i : Int} (hd : decode code pc = .ok (.sipush i, 3)) (v : Int32) (hv : (Int16.ofInt i).toInt32 = v) (hr : Steps p.tables e below (T.setTop (mkF m (pc + 3) Ls (.int v :: S))) t) : Steps p.tables e below (T.setTop (mkF m pc Ls (S))) t := own_f_sipush X.here hx.1 (hb hx.2 hd) hv rfl hr
theorem o_aconstNull (X : Stand p l e R s m args below meth c T locs cells slots) (hx : p.tables.exec = Jvm.exec ∧ c.code = code)  (hd : decode code pc = .ok (.aconst_null, 1)) (hr : Steps p.tables e below (T.setTop (mkF m (pc + 1) Ls (.null :: S))) t) : Steps p.tables e below (T.setTop (mkF m pc Ls (S))) t := own_f_aconstNull X.here hx.1 (hb hx.2 hd)  rfl hr
theorem o_iadd (X : Stand p l e R s m args below meth c T locs cells slots) (hx : p.tables.exec = Jvm.exec ∧ c.code = code) {x y v : Int32} (hd : decode code pc = .ok (.iadd, 1)) (hv : x + y = v) (hr : Steps p.tables e below (T.setTop (mkF m (pc + 1) Ls (.int v :: S))) t) : Steps p.tables e below (T.setTop (mkF m pc Ls (.int y :: .int x :: S))) t := own_f_iadd X.here hx.1 (hb hx.2 hd) hv rfl hr
theorem o_ladd (X : Stand p l e R s m args below meth c T locs cells slots) (hx : p.tables.exec = Jvm.exec ∧ c.code = code) {x y v : Int64} (hd : decode code pc = .ok (.ladd, 1)) (hv : x + y = v) (hr : Steps p.tables e below (T.setTop (mkF m (pc + 1) Ls (.long v :: S))) t) : Steps p.tables e below (T.setTop (mkF m pc Ls (.long y :: .long x :: S))) t := own_f_ladd X.here hx.1 (hb hx.2 hd) hv rfl hr
theorem o_isub (X : Stand p l e R s m args below meth c T locs cells slots) (hx : p.tables.exec = Jvm.exec ∧ c.code = code) {x y v : Int32} (hd : decode code pc = .ok (.isub, 1)) (hv : x - y = v) (hr : Steps p.tables e below (T.setTop (mkF m (pc + 1) Ls (.int v :: S))) t) : Steps p.tables e below (T.setTop (mkF m pc Ls (.int y :: .int x :: S))) t := own_f_isub X.here hx.1 (hb hx.2 hd) hv rfl hr
theorem o_imul (X : Stand p l e R s m args below meth c T locs cells slots) (hx : p.tables.exec = Jvm.exec ∧ c.code = code) {x y v : Int32} (hd : decode code pc = .ok (.imul, 1)) (hv : x * y = v) (hr : Steps p.tables e below (T.setTop (mkF m (pc + 1) Ls (.int v :: S))) t) : Steps p.tables e below (T.setTop (mkF m pc Ls (.int y :: .int x :: S))) t := own_f_imul X.here hx.1 (hb hx.2 hd) hv rfl hr
theorem o_lmul (X : Stand p l e R s m args below meth c T locs cells slots) (hx : p.tables.exec = Jvm.exec ∧ c.code = code) {x y v : Int64} (hd : decode code pc = .ok (.lmul, 1)) (hv : x * y = v) (hr : Steps p.tables e below (T.setTop (mkF m (pc + 1) Ls (.long v :: S))) t) : Steps p.tables e below (T.setTop (mkF m pc Ls (.long y :: .long x :: S))) t := own_f_lmul X.here hx.1 (hb hx.2 hd) hv rfl hr
theorem o_iand (X : Stand p l e R s m args below meth c T locs cells slots) (hx : p.tables.exec = Jvm.exec ∧ c.code = code) {x y v : Int32} (hd : decode code pc = .ok (.iand, 1)) (hv : x &&& y = v) (hr : Steps p.tables e below (T.setTop (mkF m (pc + 1) Ls (.int v :: S))) t) : Steps p.tables e below (T.setTop (mkF m pc Ls (.int y :: .int x :: S))) t := own_f_iand X.here hx.1 (hb hx.2 hd) hv rfl hr
theorem o_ior (X : Stand p l e R s m args below meth c T locs cells slots) (hx : p.tables.exec = Jvm.exec ∧ c.code = code) {x y v : Int32} (hd : decode code pc = .ok (.ior, 1)) (hv : x ||| y = v) (hr : Steps p.tables e below (T.setTop (mkF m (pc + 1) Ls (.int v :: S))) t) : Steps p.tables e below (T.setTop (mkF m pc Ls (.int y :: .int x :: S))) t := own_f_ior X.here hx.1 (hb hx.2 hd) hv rfl hr
theorem o_ixor (X : Stand p l e R s m args below meth c T locs cells slots) (hx : p.tables.exec = Jvm.exec ∧ c.code = code) {x y v : Int32} (hd : decode code pc = .ok (.ixor, 1)) (hv : x ^^^ y = v) (hr : Steps p.tables e below (T.setTop (mkF m (pc + 1) Ls (.int v :: S))) t) : Steps p.tables e below (T.setTop (mkF m pc Ls (.int y :: .int x :: S))) t := own_f_ixor X.here hx.1 (hb hx.2 hd) hv rfl hr
theorem o_ishl (X : Stand p l e R s m args below meth c T locs cells slots) (hx : p.tables.exec = Jvm.exec ∧ c.code = code) {x : Int32} {y : Int32} (hd : decode code pc = .ok (.ishl, 1)) (hr : Steps p.tables e below (T.setTop (mkF m (pc + 1) Ls (.int (x <<< (y &&& 31)) :: S))) t) : Steps p.tables e below (T.setTop (mkF m pc Ls (.int y :: .int x :: S))) t := own_f_ishl X.here hx.1 (hb hx.2 hd)  rfl hr
theorem o_ishr (X : Stand p l e R s m args below meth c T locs cells slots) (hx : p.tables.exec = Jvm.exec ∧ c.code = code) {x : Int32} {y : Int32} (hd : decode code pc = .ok (.ishr, 1)) (hr : Steps p.tables e below (T.setTop (mkF m (pc + 1) Ls (.int (x >>> (y &&& 31)) :: S))) t) : Steps p.tables e below (T.setTop (mkF m pc Ls (.int y :: .int x :: S))) t := own_f_ishr X.here hx.1 (hb hx.2 hd)  rfl hr
theorem o_iushr (X : Stand p l e R s m args below meth c T locs cells slots) (hx : p.tables.exec = Jvm.exec ∧ c.code = code) {x : Int32} {y : Int32} (hd : decode code pc = .ok (.iushr, 1)) (hr : Steps p.tables e below (T.setTop (mkF m (pc + 1) Ls (.int ((x.toUInt32 >>> (y &&& 31).toUInt32).toInt32) :: S))) t) : Steps p.tables e below (T.setTop (mkF m pc Ls (.int y :: .int x :: S))) t := own_f_iushr X.here hx.1 (hb hx.2 hd)  rfl hr
theorem o_idiv (X : Stand p l e R s m args below meth c T locs cells slots) (hx : p.tables.exec = Jvm.exec ∧ c.code = code) {x y : Int32} (hd : decode code pc = .ok (.idiv, 1)) (hy : y ≠ 0) (hr : Steps p.tables e below (T.setTop (mkF m (pc + 1) Ls (.int (x / y) :: S))) t) : Steps p.tables e below (T.setTop (mkF m pc Ls (.int y :: .int x :: S))) t := own_f_idiv X.here hx.1 (hb hx.2 hd) hy rfl hr
theorem o_irem (X : Stand p l e R s m args below meth c T locs cells slots) (hx : p.tables.exec = Jvm.exec ∧ c.code = code) {x y : Int32} (hd : decode code pc = .ok (.irem, 1)) (hy : y ≠ 0) (hr : Steps p.tables e below (T.setTop (mkF m (pc + 1) Ls (.int (x - (x / y) * y) :: S))) t) : Steps p.tables e below (T.setTop (mkF m pc Ls (.int y :: .int x :: S))) t := own_f_irem X.here hx.1 (hb hx.2 hd) hy rfl hr
theorem o_ldiv (X : Stand p l e R s m args below meth c T locs cells slots) (hx : p.tables.exec = Jvm.exec ∧ c.code = code) {x y : Int64} (hd : decode code pc = .ok (.ldiv, 1)) (hy : y ≠ 0) (hr : Steps p.tables e below (T.setTop (mkF m (pc + 1) Ls (.long (x / y) :: S))) t) : Steps p.tables e below (T.setTop (mkF m pc Ls (.long y :: .long x :: S))) t := own_f_ldiv X.here hx.1 (hb hx.2 hd) hy rfl hr
theorem o_i2l (X : Stand p l e R s m args below meth c T locs cells slots) (hx : p.tables.exec = Jvm.exec ∧ c.code = code) {x : Int32} (hd : decode code pc = .ok (.i2l, 1)) (hr : Steps p.tables e below (T.setTop (mkF m (pc + 1) Ls (.long (x.toInt64) :: S))) t) : Steps p.tables e below (T.setTop (mkF m pc Ls (.int x :: S))) t := own_f_i2l X.here hx.1 (hb hx.2 hd)  rfl hr
theorem o_l2i (X : Stand p l e R s m args below meth c T locs cells slots) (hx : p.tables.exec = Jvm.exec ∧ c.code = code) {x : Int64} (hd : decode code pc = .ok (.l2i, 1)) (hr : Steps p.tables e below (T.setTop (mkF m (pc + 1) Ls (.int (x.toInt32) :: S))) t) : Steps p.tables e below (T.setTop (mkF m pc Ls (.long x :: S))) t := own_f_l2i X.here hx.1 (hb hx.2 hd)  rfl hr
theorem o_i2b (X : Stand p l e R s m args below meth c T locs cells slots) (hx : p.tables.exec = Jvm.exec ∧ c.code = code) {x : Int32} (hd : decode code pc = .ok (.i2b, 1)) (hr : Steps p.tables e below (T.setTop (mkF m (pc + 1) Ls (.int (x.toInt8.toInt32) :: S))) t) : Steps p.tables e below (T.setTop (mkF m pc Ls (.int x :: S))) t := own_f_i2b X.here hx.1 (hb hx.2 hd)  rfl hr
theorem o_i2c (X : Stand p l e R s m args below meth c T locs cells slots) (hx : p.tables.exec = Jvm.exec ∧ c.code = code) {x : Int32} (hd : decode code pc = .ok (.i2c, 1)) (hr : Steps p.tables e below (T.setTop (mkF m (pc + 1) Ls (.int (x.toUInt32.toUInt16.toUInt32.toInt32) :: S))) t) : Steps p.tables e below (T.setTop (mkF m pc Ls (.int x :: S))) t := own_f_i2c X.here hx.1 (hb hx.2 hd)  rfl hr
theorem o_lcmp (X : Stand p l e R s m args below meth c T locs cells slots) (hx : p.tables.exec = Jvm.exec ∧ c.code = code) {x y : Int64} (hd : decode code pc = .ok (.lcmp, 1)) (hr : Steps p.tables e below (T.setTop (mkF m (pc + 1) Ls (.int (lcmpW x y) :: S))) t) : Steps p.tables e below (T.setTop (mkF m pc Ls (.long y :: .long x :: S))) t := own_f_lcmp X.here hx.1 (hb hx.2 hd)  rfl hr
theorem o_iinc (X : Stand p l e R s m args below meth c T locs cells slots) (hx : p.tables.exec = Jvm.exec ∧ c.code = code) {k : Nat} {cst : Int} {x : Int32}  (hd : decode code pc = .ok (.iinc k cst, 3)) (Ls' : Array Slot) (hl : Ls[k]? = some (.val (.int x))) (hl' : storeLocals Ls k (.int (x + Int32.ofInt cst)) = some Ls') (hr : Steps p.tables e below (T.setTop (mkF m (pc + 3) Ls' (S))) t) : Steps p.tables e below (T.setTop (mkF m pc Ls (S))) t := own_f_iinc X.here hx.1 (hb hx.2 hd) hl hl' rfl hr
theorem o_dup (X : Stand p l e R s m args below meth c T locs cells slots) (hx : p.tables.exec = Jvm.exec ∧ c.code = code) {v : Value} (hd : decode code pc = .ok (.dup, 1)) (hc : v.category = 1) (hr : Steps p.tables e below (T.setTop (mkF m (pc + 1) Ls (v :: v :: S))) t) : Steps p.tables e below (T.setTop (mkF m pc Ls (v :: S))) t := own_f_dup X.here hx.1 (hb hx.2 hd) hc rfl hr
theorem o_pop (X : Stand p l e R s m args below meth c T locs cells slots) (hx : p.tables.exec = Jvm.exec ∧ c.code = code) {x : Value} (hd : decode code pc = .ok (.pop, 1)) (hc : x.category = 1) (hr : Steps p.tables e below (T.setTop (mkF m (pc + 1) Ls (S))) t) : Steps p.tables e below (T.setTop (mkF m pc Ls (x :: S))) t := own_f_pop X.here hx.1 (hb hx.2 hd) hc rfl hr
theorem o_ifNo (X : Stand p l e R s m args below meth c T locs cells slots) (hx : p.tables.exec = Jvm.exec ∧ c.code = code) {o : Int} {cd : ClassFile.Cond} {x : Int32} (hd : decode code pc = .ok (.ifCond cd o, 3)) (hc : ifCond.holds cd x = false) (hr : Steps p.tables e below (T.setTop (mkF m (pc + 3) Ls (S))) t) : Steps p.tables e below (T.setTop (mkF m pc Ls (.int x :: S))) t := own_f_ifNo X.here hx.1 (hb hx.2 hd) hc rfl hr
theorem o_icmpNo (X : Stand p l e R s m args below meth c T locs cells slots) (hx : p.tables.exec = Jvm.exec ∧ c.code = code) {o : Int} {cd : ClassFile.Cond} {x y : Int32} (hd : decode code pc = .ok (.if_icmp cd o, 3)) (hc : if_icmp.holds cd x y = false) (hr : Steps p.tables e below (T.setTop (mkF m (pc + 3) Ls (S))) t) : Steps p.tables e below (T.setTop (mkF m pc Ls (.int y :: .int x :: S))) t := own_f_icmpNo X.here hx.1 (hb hx.2 hd) hc rfl hr
theorem o_goto (X : Stand p l e R s m args below meth c T locs cells slots) (hx : p.tables.exec = Jvm.exec ∧ c.code = code) {o : Int} (hd : decode code pc = .ok (.goto o, 3)) (pc' : Nat) (hr : Steps p.tables e below (T.setTop (mkF m pc' Ls (S))) t) (ho : 0 ≤ (pc : Int) + o ∧ ((pc : Int) + o).toNat = pc' := by decide) : Steps p.tables e below (T.setTop (mkF m pc Ls (S))) t := own_f_goto X.here hx.1 (hb hx.2 hd) ho.1 ho.2 hr
theorem o_ifYes (X : Stand p l e R s m args below meth c T locs cells slots) (hx : p.tables.exec = Jvm.exec ∧ c.code = code) {o : Int} {cd : ClassFile.Cond} {x : Int32} (hd : decode code pc = .ok (.ifCond cd o, 3)) (hc : ifCond.holds cd x = true) (pc' : Nat) (hr : Steps p.tables e below (T.setTop (mkF m pc' Ls (S))) t) (ho : 0 ≤ (pc : Int) + o ∧ ((pc : Int) + o).toNat = pc' := by decide) : Steps p.tables e below (T.setTop (mkF m pc Ls (.int x :: S))) t := own_f_ifYes X.here hx.1 (hb hx.2 hd) hc ho.1 ho.2 hr
theorem o_icmpYes (X : Stand p l e R s m args below meth c T locs cells slots) (hx : p.tables.exec = Jvm.exec ∧ c.code = code) {o : Int} {cd : ClassFile.Cond} {x y : Int32} (hd : decode code pc = .ok (.if_icmp cd o, 3)) (hc : if_icmp.holds cd x y = true) (pc' : Nat) (hr : Steps p.tables e below (T.setTop (mkF m pc' Ls (S))) t) (ho : 0 ≤ (pc : Int) + o ∧ ((pc : Int) + o).toNat = pc' := by decide) : Steps p.tables e below (T.setTop (mkF m pc Ls (.int y :: .int x :: S))) t := own_f_icmpYes X.here hx.1 (hb hx.2 hd) hc ho.1 ho.2 hr
theorem o_ldcInt (X : Stand p l e R s m args below meth c T locs cells slots) (hx : p.tables.exec = Jvm.exec ∧ c.code = code) {v : Int32} {index : Nat} (hd : decode code pc = .ok (.ldc index, 2)) (hown : s.vm.findClass own = some m.cls) (hc : (Jvm.Cond.constant own index v).before args s = true) (hr : Steps p.tables e below (T.setTop (mkF m (pc + 2) Ls (.int v :: S))) t) : Steps p.tables e below (T.setTop (mkF m pc Ls (S))) t := own_f_ldcInt X hx.1 hown hc (hb hx.2 hd) rfl hr
theorem o_ldc2Long (X : Stand p l e R s m args below meth c T locs cells slots) (hx : p.tables.exec = Jvm.exec ∧ c.code = code) {v : Int64} {index : Nat} (hd : decode code pc = .ok (.ldc2_w index, 3)) (hown : s.vm.findClass own = some m.cls) (hc : (Jvm.Cond.constantLong own index v).before args s = true) (hr : Steps p.tables e below (T.setTop (mkF m (pc + 3) Ls (.long v :: S))) t) : Steps p.tables e below (T.setTop (mkF m pc Ls (S))) t := own_f_ldc2Long X hx.1 hown hc (hb hx.2 hd) rfl hr
theorem o_ldcA (X : Stand p l e R s m args below meth c T locs cells slots) (hx : p.tables.exec = Jvm.exec ∧ c.code = code) {index : Nat} {text : String} {a : Addr} (hd : decode code pc = .ok (.ldc index, 2)) (hZ : Z.Warmed39 s.vm) (hown : s.vm.findClass own = some m.cls) (w : (Jvm.Cond.stringLink own index text).before a0 Z = true) (hL : Lit s own index a) (hr : Steps p.tables e below (T.setTop (mkF m (pc + 2) Ls (.ref a :: S))) t) : Steps p.tables e below (T.setTop (mkF m pc Ls (S))) t := ldcAgain (s := s) (vm0 := s.vm) X hx.1 hZ hown w hL (g := mkF m pc Ls S) rfl (hb hx.2 hd) _ hr
theorem o_ldB (X : Stand p l e R s m args below meth c T locs cells slots) (hx : p.tables.exec = Jvm.exec ∧ c.code = code) (hZ : Z.Warmed39 s.vm) (hd : decode code pc = .ok (.baload, 1)) (eT : T.heap = h) {a : Addr} {k : ClassId} {n j : Int32} {vs : List Value} {dv v : Value} (F : Arv Z h a k .byte n vs dv) (hj : ¬ j < 0 ∧ j < n) (hv : vs.getD j.toNatClampNeg dv = v) (hr : Steps p.tables e below (T.setTop (mkF m (pc + 1) Ls (v :: S))) t) : Steps p.tables e below (T.setTop (mkF m pc Ls (.int j :: .ref a :: S))) t := by
  obtain ⟨cl, Ar, -, Sz, Ng, Hs, -⟩ := F
  have hin := inb_of Sz hj
  exact X.baloadBytes hx.1 (j := j) (v := v) (by rw [eT]; exact Ar.1) (State.isArrayOf_alike hZ.alike Ar.2.1) Ar.2.2 hin (by rw [← hv]; exact Hs _ (Nat.lt_of_not_le fun q => hin (Or.inr q))) (g := mkF m pc Ls (.int j :: .ref a :: S)) rfl rfl (hb hx.2 hd) _ hr
theorem o_ldC (X : Stand p l e R s m args below meth c T locs cells slots) (hx : p.tables.exec = Jvm.exec ∧ c.code = code) (hZ : Z.Warmed39 s.vm) (hd : decode code pc = .ok (.caload, 1)) (eT : T.heap = h) {a : Addr} {k : ClassId} {n j : Int32} {vs : List Value} {dv v : Value} (F : Arv Z h a k .char n vs dv) (hj : ¬ j < 0 ∧ j < n) (hv : vs.getD j.toNatClampNeg dv = v) (hr : Steps p.tables e below (T.setTop (mkF m (pc + 1) Ls (v :: S))) t) : Steps p.tables e below (T.setTop (mkF m pc Ls (.int j :: .ref a :: S))) t := by
  obtain ⟨cl, Ar, -, Sz, Ng, Hs, -⟩ := F
  have hin := inb_of Sz hj
  exact X.caload hx.1 (j := j) (v := v) (by rw [eT]; exact Ar.1) (State.isArrayOf_alike hZ.alike Ar.2.1) Ar.2.2 hin (by rw [← hv]; exact Hs _ (Nat.lt_of_not_le fun q => hin (Or.inr q))) (g := mkF m pc Ls (.int j :: .ref a :: S)) rfl rfl (hb hx.2 hd) _ hr
theorem o_ldI (X : Stand p l e R s m args below meth c T locs cells slots) (hx : p.tables.exec = Jvm.exec ∧ c.code = code) (hZ : Z.Warmed39 s.vm) (hd : decode code pc = .ok (.iaload, 1)) (eT : T.heap = h) {a : Addr} {k : ClassId} {n j : Int32} {vs : List Value} {dv v : Value} (F : Arv Z h a k .int n vs dv) (hj : ¬ j < 0 ∧ j < n) (hv : vs.getD j.toNatClampNeg dv = v) (hr : Steps p.tables e below (T.setTop (mkF m (pc + 1) Ls (v :: S))) t) : Steps p.tables e below (T.setTop (mkF m pc Ls (.int j :: .ref a :: S))) t := by
  obtain ⟨cl, Ar, -, Sz, Ng, Hs, -⟩ := F
  have hin := inb_of Sz hj
  exact X.iaload hx.1 (j := j) (v := v) (by rw [eT]; exact Ar.1) (State.isArrayOf_alike hZ.alike Ar.2.1) Ar.2.2 hin (by rw [← hv]; exact Hs _ (Nat.lt_of_not_le fun q => hin (Or.inr q))) (g := mkF m pc Ls (.int j :: .ref a :: S)) rfl rfl (hb hx.2 hd) _ hr
theorem o_len (X : Stand p l e R s m args below meth c T locs cells slots) (hx : p.tables.exec = Jvm.exec ∧ c.code = code) (hZ : Z.Warmed39 s.vm) (hd : decode code pc = .ok (.arraylength, 1)) (eT : T.heap = h) {a : Addr} {k : ClassId} {n : Int32} {ty : FieldType} {vs : List Value} {dv : Value} (F : Arv Z h a k ty n vs dv) (hr : Steps p.tables e below (T.setTop (mkF m (pc + 1) Ls (.int n :: S))) t) : Steps p.tables e below (T.setTop (mkF m pc Ls (.ref a :: S))) t := by
  obtain ⟨cl, Ar, -, Sz, Ng, -, -⟩ := F
  refine X.arraylength hx.1 (by rw [eT]; exact Ar.1) (State.isArrayOf_alike hZ.alike Ar.2.1) (g := mkF m pc Ls (.ref a :: S)) rfl rfl (hb hx.2 hd) _ ?_
  rw [len_of Sz Ng]
  exact hr
theorem o_getF (X : Stand p l e R s m args below meth c T locs cells slots) (hx : p.tables.exec = Jvm.exec ∧ c.code = code) (hZ : Z.Warmed39 s.vm) {a : Addr} (k : ∀ t, Steps p.tables e below (T.setTop (mkF m pc Ls (.ref a :: S))) t → Steps p.tables e below A t) {R0 O n d host : String} {index : Nat} (hown : s.vm.findClass own = some m.cls) (w : (Jvm.Cond.fieldLink own index R0 n d).before a0 Z = true ∨ (Jvm.Cond.fieldLinkNest own index R0 n d host).before a0 Z = true) (via : Via Z R0 O n d) (eT : T.heap = h) {v : Value} (F : Fld Z h a O n d v) (hd : decode code pc = .ok (.getfield index, 3)) : ∃ T', Stand p l e R s m args below meth c T' locs cells slots ∧ T'.heap = h ∧ ∀ t, Steps p.tables e below (T'.setTop (mkF m (pc + 3) Ls (v :: S))) t → Steps p.tables e below A t := by
  obtain ⟨T', X', e', st⟩ := getF X hx.1 hZ hown w via eT F (g := mkF m pc Ls (.ref a :: S)) rfl rfl (hb hx.2 hd)
  exact ⟨T', X', e', fun t q => k t (st _ q)⟩
theorem o_getS (X : Stand p l e R s m args below meth c T locs cells slots) (hx : p.tables.exec = Jvm.exec ∧ c.code = code) (hZ : Z.Warmed39 s.vm) (k : ∀ t, Steps p.tables e below (T.setTop (mkF m pc Ls (S))) t → Steps p.tables e below A t) {R0 O n d host : String} {index : Nat} (hown : s.vm.findClass own = some m.cls) (w : (Jvm.Cond.fieldLink own index R0 n d).before a0 Z = true ∨ (Jvm.Cond.fieldLinkNest own index R0 n d host).before a0 Z = true) (via : Via Z R0 O n d) (eT : T.heap = h) {v : Value} (F : Sta Z h O n d v) (hd : decode code pc = .ok (.getstatic index, 3)) : ∃ T', Stand p l e R s m args below meth c T' locs cells slots ∧ T'.heap = h ∧ ∀ t, Steps p.tables e below (T'.setTop (mkF m (pc + 3) Ls (v :: S))) t → Steps p.tables e below A t := by
  obtain ⟨T', X', e', st⟩ := getS2 X hx.1 hZ hown w via eT F (g := mkF m pc Ls S) rfl (hb hx.2 hd)
  exact ⟨T', X', e', fun t q => k t (st _ q)⟩
theorem o_putF (X : Stand p l e R s m args below meth c T locs cells slots) (hx : p.tables.exec = Jvm.exec ∧ c.code = code) (hZ : Z.Warmed39 s.vm) {a : Addr} {v : Value} (k : ∀ t, Steps p.tables e below (T.setTop (mkF m pc Ls (v :: .ref a :: S))) t → Steps p.tables e below A t) {R0 O n d host : String} {index : Nat} (hown : s.vm.findClass own = some m.cls) (w : (Jvm.Cond.fieldLink own index R0 n d).before a0 Z = true ∨ (Jvm.Cond.fieldLinkNest own index R0 n d host).before a0 Z = true) (via : Via Z R0 O n d) (eT : T.heap = h) { old : Value} {C : String} {kk : Nat} (F : Fld Z h a O n d old) (E : Exa Z h a C) (L : (Jvm.Cond.lays C O n d).before a0 Z = true ∨ ((Jvm.Cond.laysFinal C O n d).before a0 Z = true ∧ own = O ∧ meth.name = "<init>")) (wi : (Jvm.Cond.instantiable C kk).before a0 Z = true) (hd : decode code pc = .ok (.putfield index, 3)) (ty : FieldType) (hn : narrow ty v = v := by exact rfl) (hf : fits ty v = true := by exact rfl) (hty : parseFieldDescriptor d = some ty := by decide) : ∃ T' h', Stand p l e R s m args below meth c T' (locs ++ [⟨a, Jvm.RoadKit.slotOf Z O n d⟩]) cells slots ∧ T'.heap = h' ∧ Wr h h' a (Jvm.RoadKit.slotOf Z O n d) v ∧ ∀ t, Steps p.tables e below (T'.setTop (mkF m (pc + 3) Ls (S))) t → Steps p.tables e below A t := by
  obtain ⟨T', h', X', e', W, st⟩ := putF X hx.1 hZ hown w via eT F E L wi hty hn hf (g := mkF m pc Ls (v :: .ref a :: S)) rfl rfl (hb hx.2 hd)
  exact ⟨T', h', X', e', W, fun t q => k t (st _ q)⟩
theorem o_putFN (X : Stand p l e R s m args below meth c T locs cells slots) (hx : p.tables.exec = Jvm.exec ∧ c.code = code) (hZ : Z.Warmed39 s.vm) {a : Addr} {v : Value} (k : ∀ t, Steps p.tables e below (T.setTop (mkF m pc Ls (v :: .ref a :: S))) t → Steps p.tables e below A t) {R0 O n d : String} {index : Nat} (hown : s.vm.findClass own = some m.cls) (w : (Jvm.Cond.fieldLink own index R0 n d).before a0 Z = true) (via : Via Z R0 O n d) (eT : T.heap = h) { old : Value} {C : String} {kk : Nat} (F : Fld Z h a O n d old) (E : Exa Z h a C) (L : (Jvm.Cond.lays C O n d).before a0 Z = true ∨ ((Jvm.Cond.laysFinal C O n d).before a0 Z = true ∧ own = O ∧ meth.name = "<init>")) (wi : (Jvm.Cond.instantiable C kk).before a0 Z = true) (hd : decode code pc = .ok (.putfield index, 3)) (ty : FieldType) (v' : Value) (hn : narrow ty v = v') (hf : fits ty v' = true) (hty : parseFieldDescriptor d = some ty := by decide) : ∃ T' h', Stand p l e R s m args below meth c T' (locs ++ [⟨a, Jvm.RoadKit.slotOf Z O n d⟩]) cells slots ∧ T'.heap = h' ∧ Wr h h' a (Jvm.RoadKit.slotOf Z O n d) v' ∧ ∀ t, Steps p.tables e below (T'.setTop (mkF m (pc + 3) Ls (S))) t → Steps p.tables e below A t := by
  obtain ⟨T', h', X', e', W, st⟩ := putFN X hx.1 hZ hown w via eT F E L wi hty hn hf (g := mkF m pc Ls (v :: .ref a :: S)) rfl rfl (hb hx.2 hd)
  exact ⟨T', h', X', e', W, fun t q => k t (st _ q)⟩
theorem o_newO (X : Stand p l e R s m args below meth c T locs cells slots) (hx : p.tables.exec = Jvm.exec ∧ c.code = code) (hZ : Z.Warmed39 s.vm) (k : ∀ t, Steps p.tables e below (T.setTop (mkF m pc Ls (S))) t → Steps p.tables e below A t) {C : String} {index n : Nat} (hown : s.vm.findClass own = some m.cls) (w : (Jvm.Cond.classLink own index C).before a0 Z = true) (wi : (Jvm.Cond.instantiable C n).before a0 Z = true) (wz : (Jvm.Cond.initialized C).before a0 Z = true) (eT : T.heap = h) (hd : decode code pc = .ok (.new index, 3)) (hc : cells + 1 ≤ R.cells := by decide) (hl : slots + n ≤ R.slots := by decide) :
    ∃ T' h', Stand p l e R s m args below meth c T' locs (cells + 1) (slots + n) ∧ T'.heap = h' ∧ Ext h h' ∧ Exa Z h' h.size C ∧ (∀ {O nm d : String} {ty : FieldType}, Laid Z a0 C O nm d → parseFieldDescriptor d = some ty → Fld Z h' h.size O nm d (defaultValue ty)) ∧ ∀ t, Steps p.tables e below (T'.setTop (mkF m (pc + 3) Ls (.ref h.size :: S))) t → Steps p.tables e below A t := by
  obtain ⟨T', h', X', e', E', A', D', -, st⟩ := newO X hx.1 hZ hown w wi wz eT (g := mkF m pc Ls S) rfl (hb hx.2 hd) hc hl
  exact ⟨T', h', X', e', E', A', D', fun t q => k t (st _ q)⟩
theorem o_newP (X : Stand p l e R s m args below meth c T locs cells slots) (hx : p.tables.exec = Jvm.exec ∧ c.code = code) (hZ : Z.Warmed39 s.vm) {n : Int32} (k : ∀ t, Steps p.tables e below (T.setTop (mkF m pc Ls (.int n :: S))) t → Steps p.tables e below A t) {aty : ArrayType} (w : (Jvm.Cond.arrayClass (newarray.typeOf aty)).before a0 Z = true) (eT : T.heap = h) (hn : ¬ n < 0) (cap : Nat) (hcap : n.toNatClampNeg ≤ cap) (ad : String) (hd : decode code pc = .ok (.newarray aty, 2)) (hb' : cap * 8 ≤ 536870912 := by decide) (hc : cells + 1 ≤ R.cells := by decide) (hl : slots + cap ≤ R.slots := by decide) (had : "[" ++ (newarray.typeOf aty).toString = ad := by decide) :
    ∃ T' h' cA, Stand p l e R s m args below meth c T' locs (cells + 1) (slots + cap) ∧ T'.heap = h' ∧ Ext h h' ∧ Arr Z h' h.size (newA cA (newarray.typeOf aty) n) (newarray.typeOf aty) ∧ Exa Z h' h.size ad ∧ ∀ t, Steps p.tables e below (T'.setTop (mkF m (pc + 2) Ls (.ref h.size :: S))) t → Steps p.tables e below A t := by
  obtain ⟨T', h', cA, X', e', E', A', B', st⟩ := newPE X hx.1 hZ w eT (g := mkF m pc Ls (.int n :: S)) rfl (hb hx.2 hd) rfl hn hcap hb' hc hl had
  exact ⟨T', h', cA, X', e', E', A', B', fun t q => k t (st _ q)⟩
theorem o_stB (X : Stand p l e R s m args below meth c T locs cells slots) (hx : p.tables.exec = Jvm.exec ∧ c.code = code) (hZ : Z.Warmed39 s.vm) {a : Addr} {x : Int32} {j : Int32} (k : ∀ t, Steps p.tables e below (T.setTop (mkF m pc Ls (.int x :: .int j :: .ref a :: S))) t → Steps p.tables e below A t) (eT : T.heap = h) {k' : ClassId} {n   : Int32} {vs : List Value} {dv : Value} (F : Arv Z h a k' .byte n vs dv) (i : Nat) (vs' : List Value) (hd : decode code pc = .ok (.bastore, 1)) (hj : ¬ j < 0 ∧ j < n := by decide) (hi : j.toNatClampNeg = i := by exact rfl) (hl : i < vs.length := by exact Nat.le_of_ble_eq_true rfl) (hvs : vs.set i (.int (nar .byte x)) = vs' := by exact rfl) :
    ∃ T' h', Stand p l e R s m args below meth c T' (locs ++ [⟨a, j.toNatClampNeg⟩]) cells slots ∧ T'.heap = h' ∧ Wr h h' a j.toNatClampNeg (.int (nar .byte x)) ∧ Arv Z h' a k' .byte n vs' dv ∧ ∀ t, Steps p.tables e below (T'.setTop (mkF m (pc + 1) Ls (S))) t → Steps p.tables e below A t := by
  obtain ⟨cl, Ar, q1, Sz, Ng, Hs, Gs⟩ := F
  obtain ⟨T', h', X', e', W, st⟩ := stB X hx.1 hZ eT Ar (j := j) (inb_of Sz hj) (g := mkF m pc Ls (.int x :: .int j :: .ref a :: S)) rfl rfl (hb hx.2 hd)
  exact ⟨T', h', X', e', W, hvs ▸ Arv.set Ar q1 Sz Ng Hs Gs (fits_nar_byte _) W i hi hl, fun t q => k t (st _ q)⟩
theorem o_stC (X : Stand p l e R s m args below meth c T locs cells slots) (hx : p.tables.exec = Jvm.exec ∧ c.code = code) (hZ : Z.Warmed39 s.vm) {a : Addr} {x : Int32} {j : Int32} (k : ∀ t, Steps p.tables e below (T.setTop (mkF m pc Ls (.int x :: .int j :: .ref a :: S))) t → Steps p.tables e below A t) (eT : T.heap = h) {k' : ClassId} {n   : Int32} {vs : List Value} {dv : Value} (F : Arv Z h a k' .char n vs dv) (i : Nat) (vs' : List Value) (hd : decode code pc = .ok (.castore, 1)) (hj : ¬ j < 0 ∧ j < n := by decide) (hi : j.toNatClampNeg = i := by exact rfl) (hl : i < vs.length := by exact Nat.le_of_ble_eq_true rfl) (hvs : vs.set i (.int (nar .char x)) = vs' := by exact rfl) :
    ∃ T' h', Stand p l e R s m args below meth c T' (locs ++ [⟨a, j.toNatClampNeg⟩]) cells slots ∧ T'.heap = h' ∧ Wr h h' a j.toNatClampNeg (.int (nar .char x)) ∧ Arv Z h' a k' .char n vs' dv ∧ ∀ t, Steps p.tables e below (T'.setTop (mkF m (pc + 1) Ls (S))) t → Steps p.tables e below A t := by
  obtain ⟨cl, Ar, q1, Sz, Ng, Hs, Gs⟩ := F
  obtain ⟨T', h', X', e', W, st⟩ := stC X hx.1 hZ eT Ar (j := j) (inb_of Sz hj) (g := mkF m pc Ls (.int x :: .int j :: .ref a :: S)) rfl rfl (hb hx.2 hd)
  exact ⟨T', h', X', e', W, hvs ▸ Arv.set Ar q1 Sz Ng Hs Gs (fits_nar_char _) W i hi hl, fun t q => k t (st _ q)⟩
theorem o_cast (X : Stand p l e R s m args below meth c T locs cells slots) (hx : p.tables.exec = Jvm.exec ∧ c.code = code) (hZ : Z.Warmed39 s.vm) {a : Addr} (k : ∀ t, Steps p.tables e below (T.setTop (mkF m pc Ls (.ref a :: S))) t → Steps p.tables e below A t) {K : String} {index : Nat} (hown : s.vm.findClass own = some m.cls) (w : (Jvm.Cond.classLink own index K).before a0 Z = true) (eT : T.heap = h) (F : Ins Z h a K true) (hd : decode code pc = .ok (.checkcast index, 3)) : ∃ T', Stand p l e R s m args below meth c T' locs cells slots ∧ T'.heap = h ∧ ∀ t, Steps p.tables e below (T'.setTop (mkF m (pc + 3) Ls (.ref a :: S))) t → Steps p.tables e below A t := by
  obtain ⟨T', X', e', st⟩ := castY X hx.1 hZ hown w eT F (g := mkF m pc Ls (.ref a :: S)) rfl rfl (hb hx.2 hd)
  exact ⟨T', X', e', fun t q => k t (st _ q)⟩
theorem o_inst (X : Stand p l e R s m args below meth c T locs cells slots) (hx : p.tables.exec = Jvm.exec ∧ c.code = code) (hZ : Z.Warmed39 s.vm) {a : Addr} (k : ∀ t, Steps p.tables e below (T.setTop (mkF m pc Ls (.ref a :: S))) t → Steps p.tables e below A t) {K : String} {index : Nat} (hown : s.vm.findClass own = some m.cls) (w : (Jvm.Cond.classLink own index K).before a0 Z = true) (eT : T.heap = h) (F : Ins Z h a K true) (hd : decode code pc = .ok (.instanceof index, 3)) : ∃ T', Stand p l e R s m args below meth c T' locs cells slots ∧ T'.heap = h ∧ ∀ t, Steps p.tables e below (T'.setTop (mkF m (pc + 3) Ls (.int 1 :: S))) t → Steps p.tables e below A t := by
  obtain ⟨T', X', e', st⟩ := instY X hx.1 hZ hown w eT F (g := mkF m pc Ls (.ref a :: S)) rfl rfl (hb hx.2 hd)
  exact ⟨T', X', e', fun t q => k t (st _ q)⟩
theorem o_initO (X : Stand p l e R s m args below meth c T locs cells slots) (hx : p.tables.exec = Jvm.exec ∧ c.code = code) (hZ : Z.Warmed39 s.vm) {a : Addr} (k : ∀ t, Steps p.tables e below (T.setTop (mkF m pc Ls (.ref a :: S))) t → Steps p.tables e below A t) {idx : Nat} (hown : s.vm.findClass own = some m.cls) (w1 : (Jvm.Cond.methodLink own idx Lib.objectInit).before a0 Z = true) (w2 : (Jvm.Cond.instanceMethod Lib.objectInit).before a0 Z = true) (w3 : (Jvm.Cond.code Lib.objectInit ⟨#[0xb1]⟩ 1 none).before a0 Z = true) (eT : T.heap = h) (hd : decode code pc = .ok (.invokespecial idx, 3)) {ml : Nat} (hml : c.maxLocals = ml) (W : Nat) (hsz : Ls.size = ml := by exact rfl) (hW : (S.map fun v => v.category).sum ≤ W := by exact Nat.le_of_eq rfl) (hl : 1 ≤ R.frames ∧ W + 12 ≤ R.locals := by decide) : ∃ T', Stand p l e R s m args below meth c T' locs cells slots ∧ T'.heap = h ∧ ∀ t, Steps p.tables e below (T'.setTop (mkF m (pc + 3) Ls (S))) t → Steps p.tables e below A t := by
  obtain ⟨T', X', e', st⟩ := initO X hx.1 hZ hown w1 w2 w3 eT (g := mkF m pc Ls (.ref a :: S)) rfl (by rw [hml]; exact hsz) rfl (hb hx.2 hd) hl.1 (W := W) (by show 2 * 0 + _ ≤ _; omega) hl.2
  exact ⟨T', X', e', fun t q => k t (st _ q)⟩
theorem o_clone (X : Stand p l e R s m args below meth c T locs cells slots) (hx : p.tables.exec = Jvm.exec ∧ c.code = code) (hZ : Z.Warmed39 s.vm) {a : Addr} (k : ∀ t, Steps p.tables e below (T.setTop (mkF m pc Ls (.ref a :: S))) t → Steps p.tables e below A t) {ad : String} {index : Nat} (hown : s.vm.findClass own = some m.cls) (w1 : (Jvm.Cond.methodLink own index ⟨ad, "clone", "()Ljava/lang/Object;"⟩).before a0 Z = true) (w2 : (Jvm.Cond.sameMethod ad "java/lang/Object" "clone" "()Ljava/lang/Object;").before a0 Z = true) (w3 : (Jvm.Cond.native ⟨"java/lang/Object", "clone", "()Ljava/lang/Object;"⟩).before a0 Z = true) (w4 : (Jvm.Cond.instanceMethod ⟨"java/lang/Object", "clone", "()Ljava/lang/Object;"⟩).before a0 Z = true) (w5 : (Jvm.Cond.selects ad ⟨ad, "clone", "()Ljava/lang/Object;"⟩ ⟨"java/lang/Object", "clone", "()Ljava/lang/Object;"⟩).before a0 Z = true) (w6 : (Jvm.Cond.castable ad "java/lang/Cloneable").before a0 Z = true) (eT : T.heap = h) {k' : ClassId} {ty : FieldType} {n : Int32} {vs : List Value} {dv : Value} (F : Arv Z h a k' ty n vs dv) (E : Exa Z h a ad) (hd : decode code pc = .ok (.invokevirtual index, 3)) {ml : Nat} (hml : c.maxLocals = ml) (W cap : Nat) (hcap : n.toNatClampNeg ≤ cap) (hsz : Ls.size = ml := by exact rfl) (hW : (S.map fun v => v.category).sum ≤ W := by exact Nat.le_of_eq rfl) (hl : 1 ≤ R.frames ∧ W + 14 ≤ R.locals := by decide) (hc : cells + 1 ≤ R.cells := by decide) (hsl : slots + cap ≤ R.slots := by decide) :
    ∃ T' h', Stand p l e R s m args below meth c T' locs (cells + 1) (slots + cap) ∧ T'.heap = h' ∧ Ext h h' ∧ Arv Z h' h.size k' ty n vs dv ∧ Exa Z h' h.size ad ∧ ∀ t, Steps p.tables e below (T'.setTop (mkF m (pc + 3) Ls (.ref h.size :: S))) t → Steps p.tables e below A t := by
  obtain ⟨T', h', X', e', E', A', B', st⟩ := cloneH X hx.1 hZ hown w1 w2 w3 w4 w5 w6 eT F.arh E (g := mkF m pc Ls (.ref a :: S)) rfl (by rw [hml]; exact hsz) rfl (hb hx.2 hd) hl.1 (W := W) (cap := cap) (by show 2 * 0 + _ ≤ _; omega) hl.2 hcap hc hsl
  exact ⟨T', h', X', e', E', A', B', fun t q => k t (st _ q)⟩
theorem o_callS (X : Stand p l e R s m args below meth c T locs cells slots) (hx : p.tables.exec = Jvm.exec ∧ c.code = code) (hZ : Z.Warmed39 s.vm) (k : ∀ t, Steps p.tables e below (T.setTop (mkF m pc Ls (S))) t → Steps p.tables e below A t) (y : MethodName) {index : Nat} (hown : s.vm.findClass own = some m.cls) (w1 : (Jvm.Cond.methodLink own index y).before a0 Z = true) (w2 : (Jvm.Cond.static y).before a0 Z = true) (w3 : (Jvm.Cond.initialized y.cls).before a0 Z = true) {bytes : ByteArray} {maxL : Nat} {ret : Option FieldType} (w4 : (Jvm.Cond.code y bytes maxL ret).before a0 Z = true)  {W rc rs : Nat} {as' : Array Value} {Q : Option Value → Heap → List Loc → Prop} (hK : Back l R p e below s args y 3 W (fun P a => a = as' ∧ P.U.heap = h ∧ P.cells + rc ≤ R.cells ∧ P.slots + rs ≤ R.slots) (fun P _ v B => ∃ L, Q v B.U.heap L ∧ B.locs = P.locs ++ L ∧ B.cells = P.cells + rc ∧ B.slots = P.slots + rs)) (argsL rest : List Value) (hlen : ∀ sig, parseMethodDescriptor y.desc = some sig → argsL.length = sig.parameters.length) {ml : Nat} (hml : c.maxLocals = ml) (eT : T.heap = h) (hd : decode code pc = .ok (.invokestatic index, 3)) (hS : S = argsL.reverse ++ rest := by exact rfl) (hsz : Ls.size = ml := by exact rfl) (hW : (rest.map fun v => v.category).sum ≤ W := by exact Nat.le_of_eq rfl) (has : argsL.toArray = as' := by exact rfl) (hc : cells + rc ≤ R.cells := by decide) (hs : slots + rs ≤ R.slots := by decide) (hy : y.cls ≠ "java/lang/invoke/MethodHandle" ∧ y.cls ≠ "java/lang/invoke/VarHandle" := by decide) :
    ∃ v T' L, Stand p l e R s m args below meth c T' (locs ++ L) (cells + rc) (slots + rs) ∧ Q v T'.heap L ∧ ∀ t, Steps p.tables e below (T'.setTop (mkF m (pc + 3) Ls (v.toList ++ rest))) t → Steps p.tables e below A t := by
  obtain ⟨v, _, B, -, X', hp, st⟩ := Jvm.LawKit.callS X hx.1 (y := y) hown (mvT hZ w1) (mvT hZ w2) (mvT hZ w3) (mvT hZ w4) hy hK (g := mkF m pc Ls S) rfl (by rw [hml]; exact hsz) (argsL := argsL) (rest := rest) hlen hS (by show 2 * 0 + _ ≤ _; omega) (hb hx.2 hd) (fun _ _ => ⟨has, eT, hc, hs⟩)
  obtain ⟨T', L', c', n'⟩ := B
  obtain ⟨L, hQ, l1, l2, l3⟩ := hp
  dsimp only [Pt.U, Pt.locs, Pt.cells, Pt.slots] at X' hQ l1 l2 l3 st
  subst l1 l2 l3
  exact ⟨v, T', L, X', hQ, fun t q => k t (st _ q)⟩
theorem o_special (X : Stand p l e R s m args below meth c T locs cells slots) (hx : p.tables.exec = Jvm.exec ∧ c.code = code) (hZ : Z.Warmed39 s.vm) (k : ∀ t, Steps p.tables e below (T.setTop (mkF m pc Ls (S))) t → Steps p.tables e below A t) (y : MethodName) {index : Nat} (hy1 : y.name = "<init>") (hown : s.vm.findClass own = some m.cls) (w1 : (Jvm.Cond.methodLink own index y).before a0 Z = true) (w2 : (Jvm.Cond.instanceMethod y).before a0 Z = true) {bytes : ByteArray} {maxL : Nat} (w4 : (Jvm.Cond.code y bytes maxL none).before a0 Z = true)  {W rc rs : Nat} {as' : Array Value} {Q : Option Value → Heap → List Loc → Prop} (hK : Back l R p e below s args y 3 W (fun P a => a = as' ∧ P.U.heap = h ∧ P.cells + rc ≤ R.cells ∧ P.slots + rs ≤ R.slots) (fun P _ v B => ∃ L, Q v B.U.heap L ∧ B.locs = P.locs ++ L ∧ B.cells = P.cells + rc ∧ B.slots = P.slots + rs)) (a : Addr) (argsL rest : List Value) (hlen : ∀ sig, parseMethodDescriptor y.desc = some sig → argsL.length = sig.parameters.length) {ml : Nat} (hml : c.maxLocals = ml) (eT : T.heap = h) (hd : decode code pc = .ok (.invokespecial index, 3)) (hS : S = argsL.reverse ++ .ref a :: rest := by exact rfl) (hsz : Ls.size = ml := by exact rfl) (hW : (rest.map fun v => v.category).sum ≤ W := by exact Nat.le_of_eq rfl) (has : (.ref a :: argsL).toArray = as' := by exact rfl) (hc : cells + rc ≤ R.cells := by decide) (hs : slots + rs ≤ R.slots := by decide) (hy : y.cls ≠ "java/lang/invoke/MethodHandle" ∧ y.cls ≠ "java/lang/invoke/VarHandle" := by decide) :
    ∃ v T' L, Stand p l e R s m args below meth c T' (locs ++ L) (cells + rc) (slots + rs) ∧ Q v T'.heap L ∧ ∀ t, Steps p.tables e below (T'.setTop (mkF m (pc + 3) Ls (v.toList ++ rest))) t → Steps p.tables e below A t := by
  obtain ⟨v, _, B, -, X', hp, st⟩ := X.specialBack hx.1 (y := y) hy1 hown (mvT hZ w1) (mvT hZ w2) (mvT hZ w4) hy hK (g := mkF m pc Ls S) rfl (by rw [hml]; exact hsz) (Steps.refl _) (a := a) (argsL := argsL) (rest := rest) hlen hS (by show 2 * 0 + _ ≤ _; omega) (hb hx.2 hd) (fun _ _ => ⟨has, eT, hc, hs⟩)
  obtain ⟨T', L', c', n'⟩ := B
  obtain ⟨L, hQ, l1, l2, l3⟩ := hp
  dsimp only [Pt.U, Pt.locs, Pt.cells, Pt.slots] at X' hQ l1 l2 l3 st
  subst l1 l2 l3
  exact ⟨v, T', L, X', hQ, fun t q => k t (st.trans q)⟩
theorem o_virtual (X : Stand p l e R s m args below meth c T locs cells slots) (hx : p.tables.exec = Jvm.exec ∧ c.code = code) (hZ : Z.Warmed39 s.vm) (k : ∀ t, Steps p.tables e below (T.setTop (mkF m pc Ls (S))) t → Steps p.tables e below A t) (y : MethodName) {index : Nat} (hown : s.vm.findClass own = some m.cls) (w1 : (Jvm.Cond.methodLink own index y).before a0 Z = true) (z : MethodName) {C : String} (w2 : (Jvm.Cond.declares y).before a0 Z = true) (w3 : (Jvm.Cond.selects C y z).before a0 Z = true) (w4 : (Jvm.Cond.instanceMethod z).before a0 Z = true) (hyz : y = z)  {W rc rs : Nat} {as' : Array Value} {Q : Option Value → Heap → List Loc → Prop} (hK : Back l R p e below s args z 3 W (fun P a => a = as' ∧ P.U.heap = h ∧ P.cells + rc ≤ R.cells ∧ P.slots + rs ≤ R.slots) (fun P _ v B => ∃ L, Q v B.U.heap L ∧ B.locs = P.locs ++ L ∧ B.cells = P.cells + rc ∧ B.slots = P.slots + rs)) {a : Addr} (E : Exa Z h a C) (argsL rest : List Value) (hlen : ∀ sig, parseMethodDescriptor y.desc = some sig → argsL.length = sig.parameters.length) {ml : Nat} (hml : c.maxLocals = ml) (eT : T.heap = h) (hd : decode code pc = .ok (.invokevirtual index, 3)) (hS : S = argsL.reverse ++ .ref a :: rest := by exact rfl) (hsz : Ls.size = ml := by exact rfl) (hW : (rest.map fun v => v.category).sum ≤ W := by exact Nat.le_of_eq rfl) (has : (.ref a :: argsL).toArray = as' := by exact rfl) (hc : cells + rc ≤ R.cells := by decide) (hs : slots + rs ≤ R.slots := by decide) (hy : y.cls ≠ "java/lang/invoke/MethodHandle" ∧ y.cls ≠ "java/lang/invoke/VarHandle" := by decide) :
    ∃ v T' L, Stand p l e R s m args below meth c T' (locs ++ L) (cells + rc) (slots + rs) ∧ Q v T'.heap L ∧ ∀ t, Steps p.tables e below (T'.setTop (mkF m (pc + 3) Ls (v.toList ++ rest))) t → Steps p.tables e below A t := by
  subst hyz
  obtain ⟨cq, kq, qa, qb, qc⟩ := isOf hZ eT E
  obtain ⟨v, _, B, -, X', hp, st⟩ := X.virtualBack hx.1 (y := y) (z := y) hown (mvT hZ w1) (mvT hZ w2) (notFace_of_selects (args := #[]) (mvT hZ w3)) (mvT hZ w3) (mvT hZ w4) hy hK qa qc (g := mkF m pc Ls S) rfl (by rw [hml]; exact hsz) (Steps.refl _) (argsL := argsL) (rest := rest) hlen hS (by show 2 * 0 + _ ≤ _; omega) (hb hx.2 hd) (fun _ _ => ⟨has, eT, hc, hs⟩)
  obtain ⟨T', L', c', n'⟩ := B
  obtain ⟨L, hQ, l1, l2, l3⟩ := hp
  dsimp only [Pt.U, Pt.locs, Pt.cells, Pt.slots] at X' hQ l1 l2 l3 st
  subst l1 l2 l3
  exact ⟨v, T', L, X', hQ, fun t q => k t (st.trans q)⟩
theorem o_private (X : Stand p l e R s m args below meth c T locs cells slots) (hx : p.tables.exec = Jvm.exec ∧ c.code = code) (hZ : Z.Warmed39 s.vm) (k : ∀ t, Steps p.tables e below (T.setTop (mkF m pc Ls (S))) t → Steps p.tables e below A t) (y : MethodName) {index : Nat} (hown : s.vm.findClass own = some m.cls) (w1 : (Jvm.Cond.methodLink own index y).before a0 Z = true) (w2 : (Jvm.Cond.instanceMethod y).before a0 Z = true) (w3 : (Jvm.Cond.selects y.cls y y).before a0 Z = true) (w5 : (Jvm.Cond.privateMethod y).before a0 Z = true) {bytes : ByteArray} {maxL : Nat} {ret : Option FieldType} (w4 : (Jvm.Cond.code y bytes maxL ret).before a0 Z = true)  {W rc rs : Nat} {as' : Array Value} {Q : Option Value → Heap → List Loc → Prop} (hK : Back l R p e below s args y 3 W (fun P a => a = as' ∧ P.U.heap = h ∧ P.cells + rc ≤ R.cells ∧ P.slots + rs ≤ R.slots) (fun P _ v B => ∃ L, Q v B.U.heap L ∧ B.locs = P.locs ++ L ∧ B.cells = P.cells + rc ∧ B.slots = P.slots + rs)) {a : Addr} {C : String} (E : Exa Z h a C) (argsL rest : List Value) (hlen : ∀ sig, parseMethodDescriptor y.desc = some sig → argsL.length = sig.parameters.length) {ml : Nat} (hml : c.maxLocals = ml) (eT : T.heap = h) (hd : decode code pc = .ok (.invokevirtual index, 3)) (hS : S = argsL.reverse ++ .ref a :: rest := by exact rfl) (hsz : Ls.size = ml := by exact rfl) (hW : (rest.map fun v => v.category).sum ≤ W := by exact Nat.le_of_eq rfl) (has : (.ref a :: argsL).toArray = as' := by exact rfl) (hc : cells + rc ≤ R.cells := by decide) (hs : slots + rs ≤ R.slots := by decide) (hy : y.cls ≠ "java/lang/invoke/MethodHandle" ∧ y.cls ≠ "java/lang/invoke/VarHandle" := by decide) :
    ∃ v T' L, Stand p l e R s m args below meth c T' (locs ++ L) (cells + rc) (slots + rs) ∧ Q v T'.heap L ∧ ∀ t, Steps p.tables e below (T'.setTop (mkF m (pc + 3) Ls (v.toList ++ rest))) t → Steps p.tables e below A t := by
  obtain ⟨cp, qp, qp'⟩ := E.cell
  obtain ⟨v, _, B, -, X', hp, st⟩ := X.privateBack hx.1 (y := y) hown (mvT hZ w1) (mvT hZ w2) (mvT hZ w3) (Cond.privateMethod_at (mvP hZ w5 (args := #[]))) (mvT hZ w4) hy hK (g := mkF m pc Ls S) rfl (by rw [hml]; exact hsz) (Steps.refl _) (a := a) (by rw [eT]; exact qp) qp' (argsL := argsL) (rest := rest) hlen hS (by show 2 * 0 + _ ≤ _; omega) (hb hx.2 hd) (fun _ _ => ⟨has, eT, hc, hs⟩)
  obtain ⟨T', L', c', n'⟩ := B
  obtain ⟨L, hQ, l1, l2, l3⟩ := hp
  dsimp only [Pt.U, Pt.locs, Pt.cells, Pt.slots] at X' hQ l1 l2 l3 st
  subst l1 l2 l3
  exact ⟨v, T', L, X', hQ, fun t q => k t (st.trans q)⟩
theorem own_privateBackH (X : Stand p l e R s m args below meth c T locs cells slots) (hexec : p.tables.exec = Jvm.exec) {index : Nat} {y : MethodName} {bytes : ByteArray} {maxL : Nat} {ret : Option FieldType} {hs : List (Nat × Nat × Nat × Nat)}
    (hown : s.vm.findClass own = some m.cls) (hlink : (Jvm.Cond.methodLink own index y).before args s = true) (hinst : (Jvm.Cond.instanceMethod y).before args s = true) (hsel : (Jvm.Cond.selects y.cls y y).before args s = true)
    (hpriv : s.PrivateAt y) (hcode : (Jvm.Cond.codeWith y bytes maxL ret hs).before args s = true) (hy : y.cls ≠ "java/lang/invoke/MethodHandle" ∧ y.cls ≠ "java/lang/invoke/VarHandle")
    {W : Nat} {Pre : Pt → Array Value → Prop} {Post : Pt → Array Value → Option Value → Pt → Prop} (hK : Back l R p e below s args y 3 W Pre Post)
    {g : JFrame} (hg : g.method = m) (hsize : g.locals.size = c.maxLocals) {s₀ : State} (hcome : Steps p.tables e below s₀ (T.setTop g)) {a : Addr} {cell : Cell} (hcell : T.heap[a]? = some cell) (hobj : ∀ q, cell.vm ≠ .statics q)
    {argsL rest : List Value} (hlen : ∀ sig, parseMethodDescriptor y.desc = some sig → argsL.length = sig.parameters.length)
    (hstack : g.stack = argsL.reverse ++ .ref a :: rest) (hW : 2 * g.monitorRoom + (rest.map fun v => v.category).sum ≤ W) (hdg : decode c.code g.pc = .ok (.invokevirtual index, 3))
    (hpre : ∀ vm₁, s.WarmedH vm₁ → Pre ⟨T.setVm vm₁, locs, cells, slots⟩ (.ref a :: argsL).toArray) :
    ∃ (v : Option Value) (vm₁ : Vm) (B : Pt), s.WarmedH vm₁ ∧ Stand p l e R s m args below meth c B.U B.locs B.cells B.slots ∧ Post ⟨T.setVm vm₁, locs, cells, slots⟩ (.ref a :: argsL).toArray v B ∧
      Steps p.tables e below s₀ (B.U.setTop { g with pc := g.pc + 3, stack := v.toList ++ rest }) := by
  obtain ⟨mk, methM, hnamed, hmethM, hstM, habM⟩ := Cond.instanceMethod_spec hinst
  obtain ⟨mk', methM', cM, hnamed', hmethM', -, -, -, -, -, -, hsigM⟩ := Cond.codeWith_spec hcode
  cases hnamed.symm.trans hnamed'
  cases hmethM.symm.trans hmethM'
  obtain ⟨c2, r2, m2, -, -, q3, -, kP, hkP, hkPi⟩ := Cond.selects_spec hsel
  cases hnamed.symm.trans q3
  have land : selectMethod e.platform s.vm cell.cls mk = .method mk := selectMethod_private hmethM (hpriv mk methM hnamed hmethM)
  obtain ⟨vm₁, X₁, step₁⟩ := X.invokevirtual hexec hown hlink hnamed hmethM hstM hkP hkPi hy (a := a) (cell := cell) hcell hobj land hmethM habM hkP hkPi (g := g) hg (argsL := argsL) (rest := rest) (hlen _ hsigM) hstack hdg
  obtain ⟨v, B, X', hpost, hsteps⟩ := hK m meth c ⟨T.setVm vm₁, locs, cells, slots⟩ { g with stack := rest } (.invokevirtual index) mk (.ref a :: argsL).toArray X₁ hg hsize hdg hW (X₁.named hnamed) (hpre vm₁ X₁.warmed)
  exact ⟨v, vm₁, B, X₁.warmed, X', hpost, (hcome.trans (step₁ _ fun acts => by rw [doInvoke_state]; exact Steps.refl _)).trans hsteps⟩
theorem o_privateH (X : Stand p l e R s m args below meth c T locs cells slots) (hx : p.tables.exec = Jvm.exec ∧ c.code = code) (hZ : Z.Warmed39 s.vm) (k : ∀ t, Steps p.tables e below (T.setTop (mkF m pc Ls (S))) t → Steps p.tables e below A t) (y : MethodName) {index : Nat} (hown : s.vm.findClass own = some m.cls) (w1 : (Jvm.Cond.methodLink own index y).before a0 Z = true) (w2 : (Jvm.Cond.instanceMethod y).before a0 Z = true) (w3 : (Jvm.Cond.selects y.cls y y).before a0 Z = true) (w5 : (Jvm.Cond.privateMethod y).before a0 Z = true) {bytes : ByteArray} {maxL : Nat} {ret : Option FieldType} {hs : List (Nat × Nat × Nat × Nat)} (w4 : (Jvm.Cond.codeWith y bytes maxL ret hs).before a0 Z = true)  {W rc rs : Nat} {as' : Array Value} {Q : Option Value → Heap → List Loc → Prop} (hK : Back l R p e below s args y 3 W (fun P a => a = as' ∧ P.U.heap = h ∧ P.cells + rc ≤ R.cells ∧ P.slots + rs ≤ R.slots) (fun P _ v B => ∃ L, Q v B.U.heap L ∧ B.locs = P.locs ++ L ∧ B.cells = P.cells + rc ∧ B.slots = P.slots + rs)) {a : Addr} {C : String} (E : Exa Z h a C) (argsL rest : List Value) (hlen : ∀ sig, parseMethodDescriptor y.desc = some sig → argsL.length = sig.parameters.length) {ml : Nat} (hml : c.maxLocals = ml) (eT : T.heap = h) (hd : decode code pc = .ok (.invokevirtual index, 3)) (hS : S = argsL.reverse ++ .ref a :: rest := by exact rfl) (hsz : Ls.size = ml := by exact rfl) (hW : (rest.map fun v => v.category).sum ≤ W := by exact Nat.le_of_eq rfl) (has : (.ref a :: argsL).toArray = as' := by exact rfl) (hc : cells + rc ≤ R.cells := by decide) (hs : slots + rs ≤ R.slots := by decide) (hy : y.cls ≠ "java/lang/invoke/MethodHandle" ∧ y.cls ≠ "java/lang/invoke/VarHandle" := by decide) :
    ∃ v T' L, Stand p l e R s m args below meth c T' (locs ++ L) (cells + rc) (slots + rs) ∧ Q v T'.heap L ∧ ∀ t, Steps p.tables e below (T'.setTop (mkF m (pc + 3) Ls (v.toList ++ rest))) t → Steps p.tables e below A t := by
  obtain ⟨cp, qp, qp'⟩ := E.cell
  obtain ⟨v, _, B, -, X', hp, st⟩ := own_privateBackH X hx.1 (y := y) hown (mvT hZ w1) (mvT hZ w2) (mvT hZ w3) (Cond.privateMethod_at (mvP hZ w5 (args := #[]))) (mvT hZ w4) hy hK (g := mkF m pc Ls S) rfl (by rw [hml]; exact hsz) (Steps.refl _) (a := a) (by rw [eT]; exact qp) qp' (argsL := argsL) (rest := rest) hlen hS (by show 2 * 0 + _ ≤ _; omega) (hb hx.2 hd) (fun _ _ => ⟨has, eT, hc, hs⟩)
  obtain ⟨T', L', c', n'⟩ := B
  obtain ⟨L, hQ, l1, l2, l3⟩ := hp
  dsimp only [Pt.U, Pt.locs, Pt.cells, Pt.slots] at X' hQ l1 l2 l3 st
  subst l1 l2 l3
  exact ⟨v, T', L, X', hQ, fun t q => k t (st.trans q)⟩
theorem own_pushR {w : Value} {rest : List Value} {P : State → Prop} (k : ∀ t, Steps p.tables e below (T.setTop (mkF m pc Ls ((some w).toList ++ rest))) t → P t) : ∀ t, Steps p.tables e below (T.setTop (mkF m pc Ls (w :: rest))) t → P t := k
theorem own_pushV {rest : List Value} {P : State → Prop} (k : ∀ t, Steps p.tables e below (T.setTop (mkF m pc Ls ((none : Option Value).toList ++ rest))) t → P t) : ∀ t, Steps p.tables e below (T.setTop (mkF m pc Ls (rest))) t → P t := k
theorem own_ent {f g : JFrame} {P : State → Prop} (q : f = g) (k : ∀ t, Steps p.tables e below (T.setTop f) t → P t) : ∀ t, Steps p.tables e below (T.setTop g) t → P t := fun t z => k t (castTop q z)
theorem o_ifnonnullYes (X : Stand p l e R s m args below meth c T locs cells slots) (hx : p.tables.exec = Jvm.exec ∧ c.code = code) {o : Int} {a : Addr} (hd : decode code pc = .ok (.ifnonnull o, 3)) (hv : (Value.ref a).isRef = true) (pc' : Nat) (hr : Steps p.tables e below (T.setTop (mkF m pc' Ls (S))) t) (ho : 0 ≤ (pc : Int) + o ∧ ((pc : Int) + o).toNat = pc' := by decide) : Steps p.tables e below (T.setTop (mkF m pc Ls (.ref a :: S))) t := XS.ifnonnullYes X.here hx.1 rfl (pc0 := pc) (pc' := pc') rfl (hb hx.2 hd) rfl ho.1 ho.2 hr
theorem o_ifnullNo (X : Stand p l e R s m args below meth c T locs cells slots) (hx : p.tables.exec = Jvm.exec ∧ c.code = code) {o : Int} {a : Addr} (hd : decode code pc = .ok (.ifnull o, 3)) (hv : (Value.ref a).isRef = true) (hr : Steps p.tables e below (T.setTop (mkF m (pc + 3) Ls (S))) t) : Steps p.tables e below (T.setTop (mkF m pc Ls (.ref a :: S))) t := XS.ifnullNo X.here hx.1 rfl (hb hx.2 hd) rfl hr
theorem o_acmp (X : Stand p l e R s m args below meth c T locs cells slots) (hx : p.tables.exec = Jvm.exec ∧ c.code = code) {cd : ACond} {x y : Value} {o : Int} (hd : decode code pc = .ok (.if_acmp cd o, 3)) (h1 : x.isRef = true) (h2 : y.isRef = true) {same : Bool} (hq : decide (x = y) = same) (ho : 0 ≤ (pc : Int) + o) (hp : pc' = if acV cd same = true then ((pc : Int) + o).toNat else pc + 3) (hr : Steps p.tables e below (T.setTop (mkF m pc' Ls (S))) t) : Steps p.tables e below (T.setTop (mkF m pc Ls (y :: x :: S))) t := acmp (g := mkF m pc Ls (y :: x :: S)) X hx.1 rfl h1 h2 (pc0 := pc) (pc' := pc') rfl (hb hx.2 hd) rfl hq ho hp hr
def own_End (p : Program) (e : Env) (below : List Frame) (s A : State) (Q : Option Value → Heap → List Loc → Prop) (rc rs : Nat) : Prop :=
  ∃ s₂ o, Steps p.tables e below A s₂ ∧ s₂.status = .running ∧ Ended s₂ below o ∧ ∃ v L, o = .returned v ∧ Q v s₂.heap L ∧ FrameEnd s o s₂ L rc rs
abbrev own_M (l : Launch) (Z : State) (y : MethodName) (code : ByteArray) (ml : Nat) (ret : Option FieldType) (rm : Room) (as' : Array Value) (h0 : Heap) (ws : List Jvm.Cond) (Q : Option Value → Heap → List Loc → Prop) : Prop :=
  MetFree l y (head1 (Jvm.Cond.code y code ml ret :: ws) rm) (fun a U => a = as' ∧ Z.Warmed39 U.vm ∧ U.heap = h0) (fun _ _ _ _ _ => True) (fun _ U o U' => ∃ v L, o = .returned v ∧ Q v U'.heap L ∧ FrameEnd U o U' L rm.cells rm.slots)
abbrev own_MH (l : Launch) (Z : State) (y : MethodName) (code : ByteArray) (ml : Nat) (ret : Option FieldType) (hs : List (Nat × Nat × Nat × Nat)) (rm : Room) (as' : Array Value) (h0 : Heap) (ws : List Jvm.Cond) (Q : Option Value → Heap → List Loc → Prop) : Prop :=
  MetFree l y (head1 (Jvm.Cond.codeWith y code ml ret hs :: ws) rm) (fun a U => a = as' ∧ Z.Warmed39 U.vm ∧ U.heap = h0) (fun _ _ _ _ _ => True) (fun _ U o U' => ∃ v L, o = .returned v ∧ Q v U'.heap L ∧ FrameEnd U o U' L rm.cells rm.slots)
abbrev own_G0 (l : Launch) (Z : State) (y : MethodName) (code : ByteArray) (ml : Nat) (ret : Option FieldType) (rm : Room) (as' : Array Value) (h0 : Heap) (Q : Option Value → Heap → List Loc → Prop) : Prop :=
  ∀ (p : Program) (e : Env) (s : State) (m : MethodId) (below : List Frame) (meth : Method) (c : Code) (s₁ A : State), p.tables.exec = Jvm.exec ∧ c.code = code → c.maxLocals = ml → s.vm.findClass y.cls = some m.cls → meth.name = y.name → meth.locks = false → meth.sig.returnType = ret → Z.Warmed39 s.vm →
    Stand p l e rm s m as' below meth c s₁ [] 0 0 → s₁.heap = h0 → (∀ t, Steps p.tables e below (s₁.setTop (entryFrame m as' ml)) t → Steps p.tables e below A t) → own_End p e below s A Q rm.cells rm.slots
theorem own_body {y : MethodName} {ml : Nat} {ret : Option FieldType} {rm : Room} {as' : Array Value} {h0 : Heap} {ws : List Jvm.Cond} {Q : Option Value → Heap → List Loc → Prop} (plain : plainFor y = true) (G : own_G0 l Z y code ml ret rm as' h0 Q) : own_M l Z y code ml ret rm as' h0 ws Q := by
  refine MetFree.of_bodySF plain hisR ?_
  intro p e s m args below meth c s₁ Bd hml0 hP hK
  obtain ⟨rfl, hZ, hh⟩ := hP
  exact G p e s m below meth c s₁ _ ⟨Bd.exec, Bd.bytes⟩ hml0 (findClass_of_methodNamed Bd.named) (name_of_methodNamed Bd.named Bd.method).1 (BodyLoose.notSynchronized Bd) Bd.returns hZ (Stand.of_body Bd) (by rw [← hh, Bd.state]; rfl) (fun _ q => q)
theorem own_bodyH {y : MethodName} {ml : Nat} {ret : Option FieldType} {hs : List (Nat × Nat × Nat × Nat)} {rm : Room} {as' : Array Value} {h0 : Heap} {ws : List Jvm.Cond} {Q : Option Value → Heap → List Loc → Prop} (plain : plainFor y = true) (G : own_G0 l Z y code ml ret rm as' h0 Q) : own_MH l Z y code ml ret hs rm as' h0 ws Q := by
  refine MetFree.of_bodySF plain hisWith ?_
  intro p e s m args below meth c s₁ Bd hml0 hP hK
  obtain ⟨rfl, hZ, hh⟩ := hP
  exact G p e s m below meth c s₁ _ ⟨Bd.exec, Bd.bytes⟩ hml0 (findClass_of_methodNamed Bd.named) (name_of_methodNamed Bd.named Bd.method).1 (BodyLoose.notSynchronized Bd) Bd.returns hZ (Stand.of_body Bd) (by rw [← hh, Bd.state]; rfl) (fun _ q => q)
def own_EndW (p : Program) (e : Env) (below : List Frame) (s A : State) (Q : Option Value → Heap → List Loc → Prop) (rc rs : Nat) : Prop :=
  ∃ s₂ o, Steps p.tables e below A s₂ ∧ s₂.status = .running ∧ Ended s₂ below o ∧ ∃ v L, o = .returned v ∧ Q v s₂.heap L ∧ ReturnedEndW s o s₂ L rc rs
abbrev own_MW (l : Launch) (Z : State) (y : MethodName) (code : ByteArray) (ml : Nat) (ret : Option FieldType) (rm : Room) (as' : Array Value) (h0 : Heap) (EL : List (String × Nat)) (ws : List Jvm.Cond) (Q : Option Value → Heap → List Loc → Prop) : Prop :=
  MetFree l y (head1 (Jvm.Cond.code y code ml ret :: ws) rm) (fun a U => a = as' ∧ Z.Warmed39 U.vm ∧ U.heap = h0 ∧ CHv Z EL U.vm h0) (fun _ _ _ _ _ => True) (fun _ U o U' => ∃ v L, o = .returned v ∧ Q v U'.heap L ∧ ReturnedEndW U o U' L rm.cells rm.slots)
abbrev own_G0W (l : Launch) (Z : State) (y : MethodName) (code : ByteArray) (ml : Nat) (ret : Option FieldType) (rm : Room) (as' : Array Value) (h0 : Heap) (EL : List (String × Nat)) (Q : Option Value → Heap → List Loc → Prop) : Prop :=
  ∀ (p : Program) (e : Env) (s : State) (m : MethodId) (below : List Frame) (meth : Method) (c : Code) (s₁ A : State), p.tables.exec = Jvm.exec ∧ c.code = code → c.maxLocals = ml → s.vm.findClass y.cls = some m.cls → meth.name = y.name → meth.locks = false → meth.sig.returnType = ret → Z.Warmed39 s.vm → CHv Z EL s.vm h0 →
    Stand p l e rm s m as' below meth c s₁ [] 0 0 → s₁.heap = h0 → (∀ t, Steps p.tables e below (s₁.setTop (entryFrame m as' ml)) t → Steps p.tables e below A t) → own_EndW p e below s A Q rm.cells rm.slots
theorem own_bodyW {y : MethodName} {ml : Nat} {ret : Option FieldType} {rm : Room} {as' : Array Value} {h0 : Heap} {EL : List (String × Nat)} {ws : List Jvm.Cond} {Q : Option Value → Heap → List Loc → Prop} (plain : plainFor y = true) (G : own_G0W l Z y code ml ret rm as' h0 EL Q) : own_MW l Z y code ml ret rm as' h0 EL ws Q := by
  refine MetFree.of_bodySF plain hisR ?_
  intro p e s m args below meth c s₁ Bd hml0 hP hK
  obtain ⟨rfl, hZ, hh, hC⟩ := hP
  exact G p e s m below meth c s₁ _ ⟨Bd.exec, Bd.bytes⟩ hml0 (findClass_of_methodNamed Bd.named) (name_of_methodNamed Bd.named Bd.method).1 (BodyLoose.notSynchronized Bd) Bd.returns hZ hC (Stand.of_body Bd) (by rw [← hh, Bd.state]; rfl) (fun _ q => q)
theorem o_retNW {vm : Vm} (X : Stand p l e R (s.setVm vm) m args below meth c T locs cells slots) (hx : p.tables.exec = Jvm.exec ∧ c.code = code) {z : Int32} {ty : FieldType} (k : ∀ t, Steps p.tables e below (T.setTop (mkF m pc Ls (.int z :: S))) t → Steps p.tables e below A t) (hlk : meth.locks = false) (hret : meth.sig.returnType = some ty) (hty : ty = .boolean ∨ ty = .byte ∨ ty = .char ∨ ty = .short) (hd : decode code pc = .ok (.ireturn, 1))
    {n : Nat} (hS : s.Since vm n) (hn : n ≤ T.heap.size) {Q : Option Value → Heap → List Loc → Prop} {rc rs : Nat} (hq : Q (some (.int (nar ty z))) T.heap locs) (hc : cells ≤ rc := by decide) (hs : slots ≤ rs := by decide) : own_EndW p e below s A Q rc rs := by
  obtain ⟨fs, hr, hrun, hended, hW⟩ := Stand.leaveW (s := s) (vm₁ := vm) X hS hn (v := some (.int (nar ty z))) (fun q => by rw [hret] at q; cases q) hlk
  exact ⟨_, _, k _ (retN X hx.1 (t := ty) hret hty (hb hx.2 hd) hr), hrun, hended, _, _, rfl, hq, hW.1, hW.2.1, hW.2.2.1, hW.2.2.2.mono hc hs⟩
abbrev own_ML (l : Launch) (Z : State) (y : MethodName) (code : ByteArray) (ml : Nat) (ret : Option FieldType) (rm : Room) (as' : Array Value) (h0 : Heap) (al : Addr) (ws : List Jvm.Cond) (Q : Option Value → Heap → List Loc → Prop) : Prop :=
  MetFree l y (head1 (Jvm.Cond.code y code ml ret :: ws) rm) (fun a U => a = as' ∧ Z.Warmed39 U.vm ∧ U.heap = h0 ∧ Lit U "java/lang/String" 7 al) (fun _ _ _ _ _ => True) (fun _ U o U' => ∃ v L, o = .returned v ∧ Q v U'.heap L ∧ FrameEnd U o U' L rm.cells rm.slots)
abbrev own_G0L (l : Launch) (Z : State) (y : MethodName) (code : ByteArray) (ml : Nat) (ret : Option FieldType) (rm : Room) (as' : Array Value) (h0 : Heap) (al : Addr) (Q : Option Value → Heap → List Loc → Prop) : Prop :=
  ∀ (p : Program) (e : Env) (s : State) (m : MethodId) (below : List Frame) (meth : Method) (c : Code) (s₁ A : State), p.tables.exec = Jvm.exec ∧ c.code = code → c.maxLocals = ml → s.vm.findClass y.cls = some m.cls → meth.name = y.name → meth.locks = false → meth.sig.returnType = ret → Z.Warmed39 s.vm → Lit s "java/lang/String" 7 al →
    Stand p l e rm s m as' below meth c s₁ [] 0 0 → s₁.heap = h0 → (∀ t, Steps p.tables e below (s₁.setTop (entryFrame m as' ml)) t → Steps p.tables e below A t) → own_End p e below s A Q rm.cells rm.slots
theorem own_bodyL {y : MethodName} {ml : Nat} {ret : Option FieldType} {rm : Room} {as' : Array Value} {h0 : Heap} {al : Addr} {ws : List Jvm.Cond} {Q : Option Value → Heap → List Loc → Prop} (plain : plainFor y = true) (G : own_G0L l Z y code ml ret rm as' h0 al Q) : own_ML l Z y code ml ret rm as' h0 al ws Q := by
  refine MetFree.of_bodySF plain hisR ?_
  intro p e s m args below meth c s₁ Bd hml0 hP hK
  obtain ⟨rfl, hZ, hh, hL⟩ := hP
  exact G p e s m below meth c s₁ _ ⟨Bd.exec, Bd.bytes⟩ hml0 (findClass_of_methodNamed Bd.named) (name_of_methodNamed Bd.named Bd.method).1 (BodyLoose.notSynchronized Bd) Bd.returns hZ hL (Stand.of_body Bd) (by rw [← hh, Bd.state]; rfl) (fun _ q => q)
theorem own_backL {y : MethodName} {bytes : ByteArray} {maxL : Nat} {ret : Option FieldType} {rm : Room} {len W : Nat} {as' : Array Value} {al : Addr} {Q : Option Value → Heap → List Loc → Prop} (hL : Lit s "java/lang/String" 7 al) (hM : own_ML l Z y bytes maxL ret rm as' h al [] Q)
    (hZ : Z.Warmed39 s.vm) (wc : (Jvm.Cond.code y bytes maxL ret).before a0 Z = true) (wz : (Jvm.Cond.initialized y.cls).before a0 Z = true) (hf : rm.frames + 1 ≤ R.frames) (hl : W + (maxL + 11) + rm.locals ≤ R.locals) :
    Back l R p e below s args y len W (fun A a => a = as' ∧ A.U.heap = h ∧ A.cells + rm.cells ≤ R.cells ∧ A.slots + rm.slots ≤ R.slots)
      (fun A _ v B => ∃ L, Q v B.U.heap L ∧ B.locs = A.locs ++ L ∧ B.cells = A.cells + rm.cells ∧ B.slots = A.slots + rm.slots) :=
  Back.of_free (bytes := bytes) (maxL := maxL) (ret := ret) (E := fun _ _ o t L k n => k = rm.cells ∧ n = rm.slots ∧ ∃ v, o = .returned v ∧ Q v t.heap L) hM hf hl
    (fun m meth c A a Y hp => have hU : Z.Warmed39 A.U.vm := wtrans hZ Y.warmed
      ⟨by show (Cond.and _ .tt).before a A.U = true; rw [Cond.before_and, mv hU wc]; rfl, mv hU wc, mv hU wz, hp.2.2.1, hp.2.2.2⟩)
    (fun m meth c A a g mk Y hp => ⟨hp.1, wtrans hZ Y.warmed, hp.2.1, State.resolvedAt?_warmed39 Y.warmed.wide hL⟩) (fun _ _ _ _ _ _ _ _ _ => trivial)
    (fun _ _ _ _ ⟨v, L, h1, h2, h3⟩ => ⟨L, _, _, h3, rfl, rfl, v, h1, h2⟩)
    (fun m meth c A a g mk v t L k n Y hp _ _ ⟨e1, e2, v', e3, e4⟩ => by cases e3; subst e1 e2; exact ⟨L, e4, rfl, rfl, rfl⟩)
theorem o_retI (X : Stand p l e R s m args below meth c T locs cells slots) (hx : p.tables.exec = Jvm.exec ∧ c.code = code) {z : Int32} (k : ∀ t, Steps p.tables e below (T.setTop (mkF m pc Ls (.int z :: S))) t → Steps p.tables e below A t) (hlk : meth.locks = false) (hret : meth.sig.returnType = some .int) (hd : decode code pc = .ok (.ireturn, 1)) {Q : Option Value → Heap → List Loc → Prop} {rc rs : Nat} (hq : Q (some (.int z)) T.heap locs) (hc : cells ≤ rc := by decide) (hs : slots ≤ rs := by decide) : own_End p e below s A Q rc rs := by
  obtain ⟨fs, hr, hrun, hended, hW, hsame⟩ := X.leave (v := some (.int z)) (fun q => by rw [hret] at q; cases q) hlk
  exact ⟨_, _, k _ (retI X hx.1 hret (hb hx.2 hd) hr), hrun, hended, _, _, rfl, hq, ⟨_, rfl⟩, hW, hsame.mono hc hs⟩
theorem o_retA (X : Stand p l e R s m args below meth c T locs cells slots) (hx : p.tables.exec = Jvm.exec ∧ c.code = code) {z : Addr} {ty : FieldType} (k : ∀ t, Steps p.tables e below (T.setTop (mkF m pc Ls (.ref z :: []))) t → Steps p.tables e below A t) (hlk : meth.locks = false) (hret : meth.sig.returnType = some ty) (hrf : ty.isReference = true) (hd : decode code pc = .ok (.areturn, 1)) {Q : Option Value → Heap → List Loc → Prop} {rc rs : Nat} (hq : Q (some (.ref z)) T.heap locs) (hc : cells ≤ rc := by decide) (hs : slots ≤ rs := by decide) : own_End p e below s A Q rc rs := by
  obtain ⟨fs, hr, hrun, hended, hW, hsame⟩ := X.leave (v := some (.ref z)) (fun q => by rw [hret] at q; cases q) hlk
  exact ⟨_, _, k _ (X.areturnOut hx.1 rfl hret hrf (hb hx.2 hd) hr), hrun, hended, _, _, rfl, hq, ⟨_, rfl⟩, hW, hsame.mono hc hs⟩
theorem o_retV (X : Stand p l e R s m args below meth c T locs cells slots) (hx : p.tables.exec = Jvm.exec ∧ c.code = code) (k : ∀ t, Steps p.tables e below (T.setTop (mkF m pc Ls ([]))) t → Steps p.tables e below A t) (hlk : meth.locks = false) (hret : meth.sig.returnType = none) (hd : decode code pc = .ok (.return_, 1)) {Q : Option Value → Heap → List Loc → Prop} {rc rs : Nat} (hq : Q (none) T.heap locs) (hc : cells ≤ rc := by decide) (hs : slots ≤ rs := by decide) : own_End p e below s A Q rc rs := by
  obtain ⟨fs, hr, hrun, hended, hW, hsame⟩ := X.leave (v := none) (fun _ => rfl) hlk
  exact ⟨_, _, k _ (X.returnOut hx.1 hret (hb hx.2 hd) hr), hrun, hended, _, _, rfl, hq, ⟨_, rfl⟩, hW, hsame.mono hc hs⟩
theorem o_retN (X : Stand p l e R s m args below meth c T locs cells slots) (hx : p.tables.exec = Jvm.exec ∧ c.code = code) {z : Int32} {ty : FieldType} (k : ∀ t, Steps p.tables e below (T.setTop (mkF m pc Ls (.int z :: S))) t → Steps p.tables e below A t) (hlk : meth.locks = false) (hret : meth.sig.returnType = some ty) (hty : ty = .boolean ∨ ty = .byte ∨ ty = .char ∨ ty = .short) (hd : decode code pc = .ok (.ireturn, 1)) {Q : Option Value → Heap → List Loc → Prop} {rc rs : Nat} (hq : Q (some (.int (nar ty z))) T.heap locs) (hc : cells ≤ rc := by decide) (hs : slots ≤ rs := by decide) : own_End p e below s A Q rc rs := by
  obtain ⟨fs, hr, hrun, hended, hW, hsame⟩ := X.leave (v := some (.int (nar ty z))) (fun q => by rw [hret] at q; cases q) hlk
  exact ⟨_, _, k _ (retN X hx.1 (t := ty) hret hty (hb hx.2 hd) hr), hrun, hended, _, _, rfl, hq, ⟨_, rfl⟩, hW, hsame.mono hc hs⟩
theorem o_callSM (X : Stand p l e R s m args below meth c T locs cells slots) (hx : p.tables.exec = Jvm.exec ∧ c.code = code) (hZ : Z.Warmed39 s.vm) (k : ∀ t, Steps p.tables e below (T.setTop (mkF m pc Ls (S))) t → Steps p.tables e below A t) (y : MethodName) {index : Nat} (hown : s.vm.findClass own = some m.cls) (w1 : (Jvm.Cond.methodLink own index y).before a0 Z = true) (w2 : (Jvm.Cond.static y).before a0 Z = true) (w3 : (Jvm.Cond.initialized y.cls).before a0 Z = true) {bytes : ByteArray} {maxL : Nat} {ret : Option FieldType} (w4 : (Jvm.Cond.code y bytes maxL ret).before a0 Z = true) {rm : Room} {as' : Array Value} {Q : Option Value → Heap → List Loc → Prop} (hM : own_M l Z y bytes maxL ret rm as' h [] Q) (W : Nat) (argsL rest : List Value) (hlen : ∀ sig, parseMethodDescriptor y.desc = some sig → argsL.length = sig.parameters.length) {ml : Nat} (hml : c.maxLocals = ml) (eT : T.heap = h) (hd : decode code pc = .ok (.invokestatic index, 3)) (hf : rm.frames + 1 ≤ R.frames := by decide) (hl : W + (maxL + 11) + rm.locals ≤ R.locals := by decide) (hS : S = argsL.reverse ++ rest := by exact rfl) (hsz : Ls.size = ml := by exact rfl) (hW : (rest.map fun v => v.category).sum ≤ W := by exact Nat.le_of_eq rfl) (has : argsL.toArray = as' := by exact rfl) (hc : cells + rm.cells ≤ R.cells := by decide) (hs : slots + rm.slots ≤ R.slots := by decide) (hy : y.cls ≠ "java/lang/invoke/MethodHandle" ∧ y.cls ≠ "java/lang/invoke/VarHandle" := by decide) :
    ∃ v T' L, Stand p l e R s m args below meth c T' (locs ++ L) (cells + rm.cells) (slots + rm.slots) ∧ Q v T'.heap L ∧ ∀ t, Steps p.tables e below (T'.setTop (mkF m (pc + 3) Ls (v.toList ++ rest))) t → Steps p.tables e below A t :=
  o_callS X hx hZ k y hown w1 w2 w3 w4 (backOf (W := W) hM hZ w4 w3 hf hl) argsL rest hlen hml eT hd hS hsz hW has hc hs hy
theorem o_specialM (X : Stand p l e R s m args below meth c T locs cells slots) (hx : p.tables.exec = Jvm.exec ∧ c.code = code) (hZ : Z.Warmed39 s.vm) (k : ∀ t, Steps p.tables e below (T.setTop (mkF m pc Ls (S))) t → Steps p.tables e below A t) (y : MethodName) {index : Nat} (hy1 : y.name = "<init>") (hown : s.vm.findClass own = some m.cls) (w1 : (Jvm.Cond.methodLink own index y).before a0 Z = true) (w2 : (Jvm.Cond.instanceMethod y).before a0 Z = true) {bytes : ByteArray} {maxL : Nat} (w4 : (Jvm.Cond.code y bytes maxL none).before a0 Z = true) {rm : Room} {as' : Array Value} {Q : Option Value → Heap → List Loc → Prop} (hM : own_M l Z y bytes maxL none rm as' h [] Q) (w6 : (Jvm.Cond.initialized y.cls).before a0 Z = true) (W : Nat) (a : Addr) (argsL rest : List Value) (hlen : ∀ sig, parseMethodDescriptor y.desc = some sig → argsL.length = sig.parameters.length) {ml : Nat} (hml : c.maxLocals = ml) (eT : T.heap = h) (hd : decode code pc = .ok (.invokespecial index, 3)) (hf : rm.frames + 1 ≤ R.frames := by decide) (hl : W + (maxL + 11) + rm.locals ≤ R.locals := by decide) (hS : S = argsL.reverse ++ .ref a :: rest := by exact rfl) (hsz : Ls.size = ml := by exact rfl) (hW : (rest.map fun v => v.category).sum ≤ W := by exact Nat.le_of_eq rfl) (has : (.ref a :: argsL).toArray = as' := by exact rfl) (hc : cells + rm.cells ≤ R.cells := by decide) (hs : slots + rm.slots ≤ R.slots := by decide) (hy : y.cls ≠ "java/lang/invoke/MethodHandle" ∧ y.cls ≠ "java/lang/invoke/VarHandle" := by decide) :
    ∃ v T' L, Stand p l e R s m args below meth c T' (locs ++ L) (cells + rm.cells) (slots + rm.slots) ∧ Q v T'.heap L ∧ ∀ t, Steps p.tables e below (T'.setTop (mkF m (pc + 3) Ls (v.toList ++ rest))) t → Steps p.tables e below A t :=
  o_special X hx hZ k y hy1 hown w1 w2 w4 (backOf (W := W) hM hZ w4 w6 hf hl) a argsL rest hlen hml eT hd hS hsz hW has hc hs hy
theorem o_virtualM (X : Stand p l e R s m args below meth c T locs cells slots) (hx : p.tables.exec = Jvm.exec ∧ c.code = code) (hZ : Z.Warmed39 s.vm) (k : ∀ t, Steps p.tables e below (T.setTop (mkF m pc Ls (S))) t → Steps p.tables e below A t) (y : MethodName) {index : Nat} (hown : s.vm.findClass own = some m.cls) (w1 : (Jvm.Cond.methodLink own index y).before a0 Z = true) (z : MethodName) {C : String} (w2 : (Jvm.Cond.declares y).before a0 Z = true) (w3 : (Jvm.Cond.selects C y z).before a0 Z = true) (w4 : (Jvm.Cond.instanceMethod z).before a0 Z = true) (hyz : y = z) {bytes : ByteArray} {maxL : Nat} {ret : Option FieldType} {rm : Room} {as' : Array Value} {Q : Option Value → Heap → List Loc → Prop} (hM : own_M l Z z bytes maxL ret rm as' h [] Q) (w5 : (Jvm.Cond.code z bytes maxL ret).before a0 Z = true) (w6 : (Jvm.Cond.initialized z.cls).before a0 Z = true) (W : Nat) {a : Addr} (E : Exa Z h a C) (argsL rest : List Value) (hlen : ∀ sig, parseMethodDescriptor y.desc = some sig → argsL.length = sig.parameters.length) {ml : Nat} (hml : c.maxLocals = ml) (eT : T.heap = h) (hd : decode code pc = .ok (.invokevirtual index, 3)) (hf : rm.frames + 1 ≤ R.frames := by decide) (hl : W + (maxL + 11) + rm.locals ≤ R.locals := by decide) (hS : S = argsL.reverse ++ .ref a :: rest := by exact rfl) (hsz : Ls.size = ml := by exact rfl) (hW : (rest.map fun v => v.category).sum ≤ W := by exact Nat.le_of_eq rfl) (has : (.ref a :: argsL).toArray = as' := by exact rfl) (hc : cells + rm.cells ≤ R.cells := by decide) (hs : slots + rm.slots ≤ R.slots := by decide) (hy : y.cls ≠ "java/lang/invoke/MethodHandle" ∧ y.cls ≠ "java/lang/invoke/VarHandle" := by decide) :
    ∃ v T' L, Stand p l e R s m args below meth c T' (locs ++ L) (cells + rm.cells) (slots + rm.slots) ∧ Q v T'.heap L ∧ ∀ t, Steps p.tables e below (T'.setTop (mkF m (pc + 3) Ls (v.toList ++ rest))) t → Steps p.tables e below A t :=
  o_virtual X hx hZ k y hown w1 z w2 w3 w4 hyz (backOf (W := W) hM hZ w5 w6 hf hl) E argsL rest hlen hml eT hd hS hsz hW has hc hs hy
theorem o_privateM (X : Stand p l e R s m args below meth c T locs cells slots) (hx : p.tables.exec = Jvm.exec ∧ c.code = code) (hZ : Z.Warmed39 s.vm) (k : ∀ t, Steps p.tables e below (T.setTop (mkF m pc Ls (S))) t → Steps p.tables e below A t) (y : MethodName) {index : Nat} (hown : s.vm.findClass own = some m.cls) (w1 : (Jvm.Cond.methodLink own index y).before a0 Z = true) (w2 : (Jvm.Cond.instanceMethod y).before a0 Z = true) (w3 : (Jvm.Cond.selects y.cls y y).before a0 Z = true) (w5 : (Jvm.Cond.privateMethod y).before a0 Z = true) {bytes : ByteArray} {maxL : Nat} {ret : Option FieldType} (w4 : (Jvm.Cond.code y bytes maxL ret).before a0 Z = true) {rm : Room} {as' : Array Value} {Q : Option Value → Heap → List Loc → Prop} (hM : own_M l Z y bytes maxL ret rm as' h [] Q) (w6 : (Jvm.Cond.initialized y.cls).before a0 Z = true) (W : Nat) {a : Addr} {C : String} (E : Exa Z h a C) (argsL rest : List Value) (hlen : ∀ sig, parseMethodDescriptor y.desc = some sig → argsL.length = sig.parameters.length) {ml : Nat} (hml : c.maxLocals = ml) (eT : T.heap = h) (hd : decode code pc = .ok (.invokevirtual index, 3)) (hf : rm.frames + 1 ≤ R.frames := by decide) (hl : W + (maxL + 11) + rm.locals ≤ R.locals := by decide) (hS : S = argsL.reverse ++ .ref a :: rest := by exact rfl) (hsz : Ls.size = ml := by exact rfl) (hW : (rest.map fun v => v.category).sum ≤ W := by exact Nat.le_of_eq rfl) (has : (.ref a :: argsL).toArray = as' := by exact rfl) (hc : cells + rm.cells ≤ R.cells := by decide) (hs : slots + rm.slots ≤ R.slots := by decide) (hy : y.cls ≠ "java/lang/invoke/MethodHandle" ∧ y.cls ≠ "java/lang/invoke/VarHandle" := by decide) :
    ∃ v T' L, Stand p l e R s m args below meth c T' (locs ++ L) (cells + rm.cells) (slots + rm.slots) ∧ Q v T'.heap L ∧ ∀ t, Steps p.tables e below (T'.setTop (mkF m (pc + 3) Ls (v.toList ++ rest))) t → Steps p.tables e below A t :=
  o_private X hx hZ k y hown w1 w2 w3 w5 w4 (backOf (W := W) hM hZ w4 w6 hf hl) E argsL rest hlen hml eT hd hS hsz hW has hc hs hy
end OwnO

theorem own_irem (x y : Int32) : x - (x / y) * y = x % y := by
  apply Int32.toInt_inj.mp
  have h1 := Int32.le_toInt (x % y)
  have h2 := Int32.toInt_lt (x % y)
  rw [Int32.toInt_sub, Int32.toInt_mul, Int32.toInt_div, Int.bmod_mul_bmod, Int.sub_bmod_bmod, Int.mul_comm (x.toInt.tdiv y.toInt), ← Int.tmod_def, ← Int32.toInt_mod]
  exact Int.bmod_eq_of_le_mul_two (by omega) (by omega)
section OwnB64
open Jvm.RoadKit
/-- the alphabet -/
def own_enc (v : Int) : Int := if v < 26 then 65 + v else if v < 52 then 71 + v else if v < 62 then v - 4 else if v = 62 then 45 else 95
def own_tD : List Int32 := [-1, -1, -1, -1, -1, -1, -1, -1, -1, -1, -1, -1, -1, -1, -1, -1, -1, -1, -1, -1, -1, -1, -1, -1, -1, -1, -1, -1, -1, -1, -1, -1, -1, -1, -1, -1, -1, -1, -1, -1, -1, -1, -1, -1, -1, 62, -1, -1, 52, 53, 54, 55, 56, 57, 58, 59, 60, 61, -1, -1, -1, -2, -1, -1, -1, 0, 1, 2, 3, 4, 5, 6, 7, 8, 9, 10, 11, 12, 13, 14, 15, 16, 17, 18, 19, 20, 21, 22, 23, 24, 25, -1, -1, -1, -1, 63, -1, 26, 27, 28, 29, 30, 31, 32, 33, 34, 35, 36, 37, 38, 39, 40, 41, 42, 43, 44, 45, 46, 47, 48, 49, 50, 51, -1, -1, -1, -1, -1, -1, -1, -1, -1, -1, -1, -1, -1, -1, -1, -1, -1, -1, -1, -1, -1, -1, -1, -1, -1, -1, -1, -1, -1, -1, -1, -1, -1, -1, -1, -1, -1, -1, -1, -1, -1, -1, -1, -1, -1, -1, -1, -1, -1, -1, -1, -1, -1, -1, -1, -1, -1, -1, -1, -1, -1, -1, -1, -1, -1, -1, -1, -1, -1, -1, -1, -1, -1, -1, -1, -1, -1, -1, -1, -1, -1, -1, -1, -1, -1, -1, -1, -1, -1, -1, -1, -1, -1, -1, -1, -1, -1, -1, -1, -1, -1, -1, -1, -1, -1, -1, -1, -1, -1, -1, -1, -1, -1, -1, -1, -1, -1, -1, -1, -1, -1, -1, -1, -1, -1, -1, -1, -1, -1, -1, -1, -1, -1]
def own_tE : List Int32 := [65, 66, 67, 68, 69, 70, 71, 72, 73, 74, 75, 76, 77, 78, 79, 80, 81, 82, 83, 84, 85, 86, 87, 88, 89, 90, 97, 98, 99, 100, 101, 102, 103, 104, 105, 106, 107, 108, 109, 110, 111, 112, 113, 114, 115, 116, 117, 118, 119, 120, 121, 122, 48, 49, 50, 51, 52, 53, 54, 55, 56, 57, 45, 95]
def own_tabD : List Value := own_tD.map Value.int
def own_tabE : List Value := own_tE.map Value.int
/-- v is a digit, r its sign -/
def own_Ch (v r : Int32) : Prop := 0 ≤ v.toInt ∧ v.toInt < 64 ∧ r.toInt = own_enc v.toInt
theorem own_ch_r {v r : Int32} (h : own_Ch v r) : 45 ≤ r.toInt ∧ r.toInt < 123 ∧ r.toInt ≠ 61 := by
  obtain ⟨h1, h2, h3⟩ := h
  unfold own_enc at h3
  split at h3
  · omega
  · split at h3
    · omega
    · split at h3
      · omega
      · split at h3 <;> omega
theorem own_lit (x : Int32) (k : Nat) (h : x.toInt = k) (hk : k < 128) : x = Int32.ofNat k := by
  apply Int32.toInt_inj.mp
  rw [h, Int32.toInt_ofNat_of_lt (by omega)]
theorem own_keyD : ∀ i : Fin 64, own_tD.getD (own_enc (i.val : Int)).toNat 0 = Int32.ofNat i.val := by decide
theorem own_keyE : ∀ i : Fin 64, own_tE.getD i.val 0 = Int32.ofNat (own_enc (i.val : Int)).toNat := by decide
theorem own_getD_map (L : List Int32) (n : Nat) : (L.map Value.int).getD n (.int 0) = .int (L.getD n 0) := by
  simp only [List.getD_eq_getElem?_getD, List.getElem?_map]
  cases L[n]? <;> rfl
theorem own_tabD_at {v r : Int32} (h : own_Ch v r) : own_tabD.getD r.toNatClampNeg (.int 0) = .int v := by
  have hr := own_ch_r h
  obtain ⟨h1, h2, h3⟩ := h
  have hk := own_keyD ⟨v.toInt.toNat, by omega⟩
  have e : ((⟨v.toInt.toNat, by omega⟩ : Fin 64).val : Int) = v.toInt := by show ((v.toInt.toNat : Nat) : Int) = _; omega
  rw [e] at hk
  have e2 : r.toNatClampNeg = (own_enc v.toInt).toNat := by show r.toInt.toNat = _; rw [h3]
  unfold own_tabD
  rw [own_getD_map, e2, hk]
  exact congrArg Value.int (own_lit v v.toInt.toNat (by omega) (by omega)).symm
theorem own_tabE_at {v r q : Int32} (h : own_Ch v r) (hq : q.toInt = v.toInt) : own_tabE.getD q.toNatClampNeg (.int 0) = .int r := by
  have hr := own_ch_r h
  obtain ⟨h1, h2, h3⟩ := h
  have hk := own_keyE ⟨v.toInt.toNat, by omega⟩
  have e : ((⟨v.toInt.toNat, by omega⟩ : Fin 64).val : Int) = v.toInt := by show ((v.toInt.toNat : Nat) : Int) = _; omega
  rw [e] at hk
  have e2 : q.toNatClampNeg = v.toInt.toNat := by show q.toInt.toNat = _; rw [hq]
  unfold own_tabE
  rw [own_getD_map, e2]
  exact congrArg Value.int (hk.trans (own_lit r (own_enc v.toInt).toNat (by omega) (by omega)).symm)
theorem own_i256 {v r : Int32} (h : own_Ch v r) : ¬ r < 0 ∧ r < 256 := by
  have hr := own_ch_r h
  have e1 : (0 : Int32).toInt = 0 := by decide
  have e2 : (256 : Int32).toInt = 256 := by decide
  rw [Int32.lt_iff_toInt_lt, Int32.lt_iff_toInt_lt, e1, e2]; omega
theorem own_i64 {v r q : Int32} (h : own_Ch v r) (hq : q.toInt = v.toInt) : ¬ q < 0 ∧ q < 64 := by
  have e1 : (0 : Int32).toInt = 0 := by decide
  have e2 : (64 : Int32).toInt = 64 := by decide
  rw [Int32.lt_iff_toInt_lt, Int32.lt_iff_toInt_lt, e1, e2]; have := h.1; have := h.2.1; omega
theorem own_m255 (x : Int32) : (x &&& (255 : Int32)).toInt = x.toInt % 256 := c_mask x 255 8 (by decide) (by decide)
theorem own_m63 (x : Int32) : (x &&& (63 : Int32)).toInt = x.toInt % 64 := c_mask x 63 6 (by decide) (by decide)
theorem own_m15 (x : Int32) : (x &&& (15 : Int32)).toInt = x.toInt % 16 := c_mask x 15 4 (by decide) (by decide)
theorem own_m3 (x : Int32) : (x &&& (3 : Int32)).toInt = x.toInt % 4 := c_mask x 3 2 (by decide) (by decide)
theorem own_r255 {v r : Int32} (h : own_Ch v r) : (r &&& (255 : Int32)) = r := by
  have hr := own_ch_r h
  have := own_m255 r
  exact Int32.toInt_inj.mp (by omega)
theorem own_rnb {v r : Int32} (h : own_Ch v r) : nar .byte (r.toInt8.toInt32) = r := by
  have hr := own_ch_r h
  have h1 := c_i2b r
  have h2 := c_i2b (r.toInt8.toInt32)
  exact Int32.toInt_inj.mp (by show r.toInt8.toInt32.toInt8.toInt32.toInt = _; omega)
theorem own_rb {v r : Int32} (h : own_Ch v r) : r.toInt8.toInt32 = r := by
  have hr := own_ch_r h
  have h1 := c_i2b r
  exact Int32.toInt_inj.mp (by omega)
theorem own_rc {v r : Int32} (h : own_Ch v r) : nar .char r = r := by
  have hr := own_ch_r h
  have h1 := c_i2c r
  exact Int32.toInt_inj.mp (by show r.toUInt32.toUInt16.toUInt32.toInt32.toInt = _; omega)
theorem own_r61 {v r : Int32} (h : own_Ch v r) : ¬ r = (61 : Int32) := fun q => (own_ch_r h).2.2 (by rw [q]; decide)
theorem own_v0 {v r : Int32} (h : own_Ch v r) : ¬ v < (0 : Int32) := by
  have e1 : (0 : Int32).toInt = 0 := by decide
  rw [Int32.lt_iff_toInt_lt, e1]; have := h.1; omega
/-- ch(v) -/
def own_R64 (v : Int32) : Prop := 0 ≤ v.toInt ∧ v.toInt < 64
theorem own_toInt26 : (26 : Int32).toInt = 26 := by decide
theorem own_toInt52 : (52 : Int32).toInt = 52 := by decide
theorem own_toInt62 : (62 : Int32).toInt = 62 := by decide
theorem own_cc {z : Int32} (h : 0 ≤ z.toInt ∧ z.toInt < 65536) : (nar .char z.toUInt32.toUInt16.toUInt32.toInt32).toInt = z.toInt := by
  have h1 := c_i2c z
  have h2 := c_i2c z.toUInt32.toUInt16.toUInt32.toInt32
  show z.toUInt32.toUInt16.toUInt32.toInt32.toUInt32.toUInt16.toUInt32.toInt32.toInt = _
  omega
theorem own_ch1 {v : Int32} (h : own_R64 v) (h1 : v < (26 : Int32)) : own_Ch v (nar .char (((65 : Int32) + v).toUInt32.toUInt16.toUInt32.toInt32)) := by
  rw [Int32.lt_iff_toInt_lt, own_toInt26] at h1
  have a := c_iadd 65 v
  have e : (65 : Int32).toInt = 65 := by decide
  have r := rng32 (65 + v)
  rw [e] at a
  refine ⟨h.1, h.2, ?_⟩
  rw [own_cc (by have := h.1; omega)]
  unfold own_enc
  rw [if_pos h1]
  have := h.1; omega
theorem own_ch2 {v : Int32} (h : own_R64 v) (h1 : ¬ v < (26 : Int32)) (h2 : v < (52 : Int32)) : own_Ch v (nar .char (((97 : Int32) + (v - (26 : Int32))).toUInt32.toUInt16.toUInt32.toInt32)) := by
  rw [Int32.lt_iff_toInt_lt, own_toInt26] at h1
  rw [Int32.lt_iff_toInt_lt, own_toInt52] at h2
  have b := c_isub v 26
  have a := c_iadd 97 (v - 26)
  have e : (97 : Int32).toInt = 97 := by decide
  have r := rng32 (97 + (v - 26))
  have r2 := rng32 (v - 26)
  rw [e] at a; rw [own_toInt26] at b
  refine ⟨h.1, h.2, ?_⟩
  rw [own_cc (by have := h.1; omega)]
  unfold own_enc
  rw [if_neg h1, if_pos h2]
  have := h.1; omega
theorem own_ch3 {v : Int32} (h : own_R64 v) (h1 : ¬ v < (26 : Int32)) (h2 : ¬ v < (52 : Int32)) (h3 : v < (62 : Int32)) : own_Ch v (nar .char (((48 : Int32) + (v - (52 : Int32))).toUInt32.toUInt16.toUInt32.toInt32)) := by
  rw [Int32.lt_iff_toInt_lt, own_toInt26] at h1
  rw [Int32.lt_iff_toInt_lt, own_toInt52] at h2
  rw [Int32.lt_iff_toInt_lt, own_toInt62] at h3
  have b := c_isub v 52
  have a := c_iadd 48 (v - 52)
  have e : (48 : Int32).toInt = 48 := by decide
  have r := rng32 (48 + (v - 52))
  have r2 := rng32 (v - 52)
  rw [e] at a; rw [own_toInt52] at b
  refine ⟨h.1, h.2, ?_⟩
  rw [own_cc (by have := h.1; omega)]
  unfold own_enc
  rw [if_neg h1, if_neg h2, if_pos h3]
  have := h.1; omega
theorem own_ch4 {v : Int32} (h : own_R64 v) (h4 : v = (62 : Int32)) : own_Ch v (nar .char (45 : Int32)) := by subst h4; exact ⟨h.1, h.2, by decide⟩
theorem own_ch5 {v : Int32} (h : own_R64 v) (h3 : ¬ v < (62 : Int32)) (h4 : ¬ v = (62 : Int32)) : own_Ch v (nar .char (95 : Int32)) := by
  rw [Int32.lt_iff_toInt_lt, own_toInt62] at h3
  have h5 : v.toInt ≠ 62 := fun q => h4 (Int32.toInt_inj.mp (by rw [q]; decide))
  have h6 : v = 63 := Int32.toInt_inj.mp (by rw [show (63 : Int32).toInt = 63 by decide]; have := h.2; omega)
  subst h6; exact ⟨h.1, h.2, by decide⟩
/-- three bytes, four digits -/
def own_B8 (B : Int32) : Prop := 0 ≤ B.toInt ∧ B.toInt < 256
def own_q (B0 B1 B2 v0 v1 v2 v3 : Int32) : Prop := own_B8 B0 ∧ own_B8 B1 ∧ own_B8 B2 ∧ v0.toInt = B0.toInt / 4 ∧ v1.toInt = B0.toInt % 4 * 16 + B1.toInt / 16 ∧ v2.toInt = B1.toInt % 16 * 4 + B2.toInt / 64 ∧ v3.toInt = B2.toInt % 64
theorem own_sh0 {B v : Int32} (h : own_B8 B) (e : v = (B >>> ((2 : Int32) &&& 31))) : v.toInt = B.toInt / 4 ∧ own_R64 v := by
  have a : (B >>> ((2 : Int32) &&& 31)).toInt = B.toInt / 4 := c_ishr B 2 2 (by decide)
  rw [← e] at a
  have := h.1; have := h.2
  exact ⟨a, by omega, by omega⟩
theorem own_sh1 {B C v : Int32} (h : own_B8 B) (h' : own_B8 C) (e : v = (((B &&& (3 : Int32)) <<< ((4 : Int32) &&& 31)) ||| (C >>> ((4 : Int32) &&& 31)))) : v.toInt = B.toInt % 4 * 16 + C.toInt / 16 ∧ own_R64 v := by
  have m := own_m3 B
  have a := c_ishl (B &&& 3) 4 4 (by decide)
  have b : (C >>> ((4 : Int32) &&& 31)).toInt = C.toInt / 16 := c_ishr C 4 4 (by decide)
  have e4 : ((2 ^ 4 : Nat) : Int) = 16 := by decide
  rw [e4] at a
  have r := rng32 ((B &&& 3) <<< ((4 : Int32) &&& 31))
  have := h.1; have := h.2; have := h'.1; have := h'.2
  have o := c_or ((B &&& 3) <<< ((4 : Int32) &&& 31)) (C >>> ((4 : Int32) &&& 31)) 4 (by decide) 16 (by decide) (by omega) (by omega) (by omega)
  rw [← e] at o
  have r2 := rng32 v
  exact ⟨by omega, by omega, by omega⟩
theorem own_sh2 {B C v : Int32} (h : own_B8 B) (h' : own_B8 C) (e : v = (((B &&& (15 : Int32)) <<< ((2 : Int32) &&& 31)) ||| (C >>> ((6 : Int32) &&& 31)))) : v.toInt = B.toInt % 16 * 4 + C.toInt / 64 ∧ own_R64 v := by
  have m := own_m15 B
  have a := c_ishl (B &&& 15) 2 2 (by decide)
  have b : (C >>> ((6 : Int32) &&& 31)).toInt = C.toInt / 64 := c_ishr C 6 6 (by decide)
  have e4 : ((2 ^ 2 : Nat) : Int) = 4 := by decide
  rw [e4] at a
  have r := rng32 ((B &&& 15) <<< ((2 : Int32) &&& 31))
  have := h.1; have := h.2; have := h'.1; have := h'.2
  have o := c_or ((B &&& 15) <<< ((2 : Int32) &&& 31)) (C >>> ((6 : Int32) &&& 31)) 2 (by decide) 4 (by decide) (by omega) (by omega) (by omega)
  rw [← e] at o
  have r2 := rng32 v
  exact ⟨by omega, by omega, by omega⟩
theorem own_sh3 {B v : Int32} (h : own_B8 B) (e : v = (B &&& (63 : Int32))) : v.toInt = B.toInt % 64 ∧ own_R64 v := by
  have a := own_m63 B
  rw [← e] at a
  exact ⟨a, by omega, by omega⟩
/-- y is B as a signed byte -/
def own_SB (y B : Int32) : Prop := own_B8 B ∧ -128 ≤ y.toInt ∧ y.toInt < 128 ∧ (y.toInt - B.toInt) % 256 = 0
theorem own_sb255 {y B : Int32} (h : own_SB y B) : (y &&& (255 : Int32)) = B := by
  have a := own_m255 y
  obtain ⟨⟨h1, h2⟩, h3, h4, h5⟩ := h
  exact Int32.toInt_inj.mp (by omega)
theorem own_sb {z y B : Int32} (hB : own_B8 B) (e : y = z.toInt8.toInt32) (h : (z.toInt - B.toInt) % 256 = 0) : own_SB (nar .byte y) B := by
  have a := c_i2b z
  have b := c_i2b y
  rw [← e] at a
  refine ⟨hB, ?_, ?_, ?_⟩
  · show -128 ≤ y.toInt8.toInt32.toInt; omega
  · show y.toInt8.toInt32.toInt < 128; omega
  · show (y.toInt8.toInt32.toInt - B.toInt) % 256 = 0; omega
theorem own_shlV {v : Int32} {k : Nat} {q : Int32} (h : own_R64 v) (hk : q.toBitVec.toNat % 32 = k) (hk2 : k ≤ 18) : (v <<< (q &&& 31)).toInt = v.toInt * (2 ^ k : Nat) := by
  have a := c_ishl v q k hk
  have r := rng32 (v <<< (q &&& 31))
  have e18 : (2 : Nat) ^ 18 = 262144 := by decide
  have p18 : (2 : Nat) ^ k ≤ 2 ^ 18 := Nat.pow_le_pow_right (by decide) hk2
  rw [e18] at p18
  generalize (2 : Nat) ^ k = K at *
  have p0 : (0 : Int) ≤ (K : Int) := by omega
  have p1 : (K : Int) ≤ 262144 := by omega
  have b1 : v.toInt * (K : Int) ≤ 63 * (K : Int) := Int.mul_le_mul_of_nonneg_right (by have := h.2; omega) p0
  have c : 0 ≤ v.toInt * (K : Int) := Int.mul_nonneg h.1 p0
  generalize v.toInt * (K : Int) = P at *
  omega
theorem own_ch64 {v r : Int32} (h : own_Ch v r) : own_R64 v := ⟨h.1, h.2.1⟩
theorem own_zor (z : Int32) : (0 : Int32) ||| z = z := Int32.zero_or
/-- the bits of two, three, four digits -/
theorem own_bits2 {v0 v1 : Int32} (h0 : own_R64 v0) (h1 : own_R64 v1) : ((v0 <<< ((18 : Int32) &&& 31)) ||| (v1 <<< ((12 : Int32) &&& 31))).toInt = v0.toInt * 262144 + v1.toInt * 4096 := by
  have a : (v0 <<< ((18 : Int32) &&& 31)).toInt = v0.toInt * 262144 := own_shlV (k := 18) h0 (by decide) (by decide)
  have b : (v1 <<< ((12 : Int32) &&& 31)).toInt = v1.toInt * 4096 := own_shlV (k := 12) h1 (by decide) (by decide)
  have := h0.1; have := h0.2; have := h1.1; have := h1.2
  have o := c_or (v0 <<< ((18 : Int32) &&& 31)) (v1 <<< ((12 : Int32) &&& 31)) 18 (by decide) 262144 (by decide) (by omega) (by omega) (by omega)
  have r := rng32 ((v0 <<< ((18 : Int32) &&& 31)) ||| (v1 <<< ((12 : Int32) &&& 31)))
  omega
theorem own_bits3 {v0 v1 v2 : Int32} (h0 : own_R64 v0) (h1 : own_R64 v1) (h2 : own_R64 v2) : (((v0 <<< ((18 : Int32) &&& 31)) ||| (v1 <<< ((12 : Int32) &&& 31))) ||| (v2 <<< ((6 : Int32) &&& 31))).toInt = v0.toInt * 262144 + v1.toInt * 4096 + v2.toInt * 64 := by
  have a := own_bits2 h0 h1
  have b : (v2 <<< ((6 : Int32) &&& 31)).toInt = v2.toInt * 64 := own_shlV (k := 6) h2 (by decide) (by decide)
  generalize (v0 <<< ((18 : Int32) &&& 31)) ||| (v1 <<< ((12 : Int32) &&& 31)) = P at *
  have := h0.1; have := h0.2; have := h1.1; have := h1.2; have := h2.1; have := h2.2
  have o := c_or P (v2 <<< ((6 : Int32) &&& 31)) 12 (by decide) 4096 (by decide) (by omega) (by omega) (by omega)
  have r := rng32 (P ||| (v2 <<< ((6 : Int32) &&& 31)))
  omega
theorem own_bits4 {v0 v1 v2 v3 : Int32} (h0 : own_R64 v0) (h1 : own_R64 v1) (h2 : own_R64 v2) (h3 : own_R64 v3) : ((((v0 <<< ((18 : Int32) &&& 31)) ||| (v1 <<< ((12 : Int32) &&& 31))) ||| (v2 <<< ((6 : Int32) &&& 31))) ||| v3).toInt = v0.toInt * 262144 + v1.toInt * 4096 + v2.toInt * 64 + v3.toInt := by
  have a := own_bits3 h0 h1 h2
  generalize ((v0 <<< ((18 : Int32) &&& 31)) ||| (v1 <<< ((12 : Int32) &&& 31))) ||| (v2 <<< ((6 : Int32) &&& 31)) = P at *
  have := h0.1; have := h0.2; have := h1.1; have := h1.2; have := h2.1; have := h2.2; have := h3.1; have := h3.2
  have o := c_or P v3 6 (by decide) 64 (by decide) (by omega) (by omega) (by omega)
  have r := rng32 (P ||| v3)
  omega
theorem own_shl0 (v : Int32) : v <<< ((0 : Int32) &&& 31) = v := by
  have a := c_ishl v 0 0 (by decide)
  have e : ((2 ^ 0 : Nat) : Int) = 1 := by decide
  rw [e] at a
  have r1 := rng32 v
  have r2 := rng32 (v <<< ((0 : Int32) &&& 31))
  exact Int32.toInt_inj.mp (by omega)
theorem own_s16 (b : Int32) : (b >>> ((16 : Int32) &&& 31)).toInt = b.toInt / 65536 := c_ishr b 16 16 (by decide)
theorem own_s8 (b : Int32) : (b >>> ((8 : Int32) &&& 31)).toInt = b.toInt / 256 := c_ishr b 8 8 (by decide)
theorem own_y0 {B0 B1 B2 v0 v1 v2 v3 b y : Int32} {T : Int} (hq : own_q B0 B1 B2 v0 v1 v2 v3) (hb : b.toInt = v0.toInt * 262144 + v1.toInt * 4096 + T) (h0 : 0 ≤ T) (h1 : T < 4096) (e : y = (b >>> ((16 : Int32) &&& 31)).toInt8.toInt32) : own_SB (nar .byte y) B0 := by
  obtain ⟨⟨q1, q2⟩, ⟨q3, q4⟩, ⟨q5, q6⟩, q7, q8, q9, q10⟩ := hq
  have s := own_s16 b
  exact own_sb ⟨q1, q2⟩ e (by omega)
theorem own_y1 {B0 B1 B2 v0 v1 v2 v3 b y : Int32} {T : Int} (hq : own_q B0 B1 B2 v0 v1 v2 v3) (hb : b.toInt = v0.toInt * 262144 + v1.toInt * 4096 + v2.toInt * 64 + T) (h0 : 0 ≤ T) (h1 : T < 64) (e : y = (b >>> ((8 : Int32) &&& 31)).toInt8.toInt32) : own_SB (nar .byte y) B1 := by
  obtain ⟨⟨q1, q2⟩, ⟨q3, q4⟩, ⟨q5, q6⟩, q7, q8, q9, q10⟩ := hq
  have s := own_s8 b
  exact own_sb ⟨q3, q4⟩ e (by omega)
theorem own_y2 {B0 B1 B2 v0 v1 v2 v3 b y : Int32} (hq : own_q B0 B1 B2 v0 v1 v2 v3) (hb : b.toInt = v0.toInt * 262144 + v1.toInt * 4096 + v2.toInt * 64 + v3.toInt) (e : y = b.toInt8.toInt32) : own_SB (nar .byte y) B2 := by
  obtain ⟨⟨q1, q2⟩, ⟨q3, q4⟩, ⟨q5, q6⟩, q7, q8, q9, q10⟩ := hq
  exact own_sb ⟨q5, q6⟩ e (by omega)
/-- back: the digits of three bytes -/
theorem own_eb {B0 B1 B2 : Int32} (h0 : own_B8 B0) (h1 : own_B8 B1) (h2 : own_B8 B2) : (((B0 <<< ((16 : Int32) &&& 31)) ||| (B1 <<< ((8 : Int32) &&& 31))) ||| B2).toInt = B0.toInt * 65536 + B1.toInt * 256 + B2.toInt := by
  have a := c_ishl B0 16 16 (by decide)
  have b := c_ishl B1 8 8 (by decide)
  have e16 : ((2 ^ 16 : Nat) : Int) = 65536 := by decide
  have e8 : ((2 ^ 8 : Nat) : Int) = 256 := by decide
  rw [e16] at a; rw [e8] at b
  have r1 := rng32 (B0 <<< ((16 : Int32) &&& 31))
  have r2 := rng32 (B1 <<< ((8 : Int32) &&& 31))
  have := h0.1; have := h0.2; have := h1.1; have := h1.2; have := h2.1; have := h2.2
  have o := c_or (B0 <<< ((16 : Int32) &&& 31)) (B1 <<< ((8 : Int32) &&& 31)) 16 (by decide) 65536 (by decide) (by omega) (by omega) (by omega)
  have r3 := rng32 ((B0 <<< ((16 : Int32) &&& 31)) ||| (B1 <<< ((8 : Int32) &&& 31)))
  generalize (B0 <<< ((16 : Int32) &&& 31)) ||| (B1 <<< ((8 : Int32) &&& 31)) = P at *
  have o2 := c_or P B2 8 (by decide) 256 (by decide) (by omega) (by omega) (by omega)
  have r4 := rng32 (P ||| B2)
  omega
theorem own_iu {b : Int32} {k : Nat} {q : Int32} (hk : q.toBitVec.toNat % 32 = k) (h0 : 0 < k) (hb : 0 ≤ b.toInt) : (((b.toUInt32 >>> (q &&& 31).toUInt32).toInt32) &&& (63 : Int32)).toInt = b.toInt / (2 ^ k : Nat) % 64 := by
  rw [own_m63, c_iushr b q k hk h0, Int.emod_eq_of_lt hb (by have := rng32 b; omega)]
theorem own_x0 {B0 B1 B2 v0 v1 v2 v3 b q : Int32} (hq : own_q B0 B1 B2 v0 v1 v2 v3) (hb : b.toInt = B0.toInt * 65536 + B1.toInt * 256 + B2.toInt) (e : q = (((b.toUInt32 >>> ((18 : Int32) &&& 31).toUInt32).toInt32) &&& (63 : Int32))) : q.toInt = v0.toInt := by
  obtain ⟨⟨q1, q2⟩, ⟨q3, q4⟩, ⟨q5, q6⟩, q7, q8, q9, q10⟩ := hq
  have s := own_iu (b := b) (q := 18) (k := 18) (by decide) (by decide) (by omega)
  have e18 : ((2 ^ 18 : Nat) : Int) = 262144 := by decide
  rw [e18] at s; rw [e]; omega
theorem own_x1 {B0 B1 B2 v0 v1 v2 v3 b q : Int32} (hq : own_q B0 B1 B2 v0 v1 v2 v3) (hb : b.toInt = B0.toInt * 65536 + B1.toInt * 256 + B2.toInt) (e : q = (((b.toUInt32 >>> ((12 : Int32) &&& 31).toUInt32).toInt32) &&& (63 : Int32))) : q.toInt = v1.toInt := by
  obtain ⟨⟨q1, q2⟩, ⟨q3, q4⟩, ⟨q5, q6⟩, q7, q8, q9, q10⟩ := hq
  have s := own_iu (b := b) (q := 12) (k := 12) (by decide) (by decide) (by omega)
  have e18 : ((2 ^ 12 : Nat) : Int) = 4096 := by decide
  rw [e18] at s; rw [e]; omega
theorem own_x2 {B0 B1 B2 v0 v1 v2 v3 b q : Int32} (hq : own_q B0 B1 B2 v0 v1 v2 v3) (hb : b.toInt = B0.toInt * 65536 + B1.toInt * 256 + B2.toInt) (e : q = (((b.toUInt32 >>> ((6 : Int32) &&& 31).toUInt32).toInt32) &&& (63 : Int32))) : q.toInt = v2.toInt := by
  obtain ⟨⟨q1, q2⟩, ⟨q3, q4⟩, ⟨q5, q6⟩, q7, q8, q9, q10⟩ := hq
  have s := own_iu (b := b) (q := 6) (k := 6) (by decide) (by decide) (by omega)
  have e18 : ((2 ^ 6 : Nat) : Int) = 64 := by decide
  rw [e18] at s; rw [e]; omega
theorem own_x3 {B0 B1 B2 v0 v1 v2 v3 b q : Int32} (hq : own_q B0 B1 B2 v0 v1 v2 v3) (hb : b.toInt = B0.toInt * 65536 + B1.toInt * 256 + B2.toInt) (e : q = (b &&& (63 : Int32))) : q.toInt = v3.toInt := by
  obtain ⟨⟨q1, q2⟩, ⟨q3, q4⟩, ⟨q5, q6⟩, q7, q8, q9, q10⟩ := hq
  have s := own_m63 b
  rw [e]; omega
/-- back: the digits of a tail -/
theorem own_t0 {B0 B1 B2 v0 v1 v2 v3 q : Int32} (hq : own_q B0 B1 B2 v0 v1 v2 v3) (e : q = (B0 >>> ((2 : Int32) &&& 31))) : q.toInt = v0.toInt := by
  rw [(own_sh0 hq.1 e).1]; exact hq.2.2.2.1.symm
theorem own_sl4 {B : Int32} (h : own_B8 B) : ((B <<< ((4 : Int32) &&& 31)) &&& (63 : Int32)).toInt = B.toInt % 4 * 16 := by
  have a := c_ishl B 4 4 (by decide)
  have e4 : ((2 ^ 4 : Nat) : Int) = 16 := by decide
  rw [e4] at a
  have m := own_m63 (B <<< ((4 : Int32) &&& 31))
  have := h.1; have := h.2
  omega
theorem own_t1 {B0 B1 B2 v0 v1 v2 v3 q : Int32} (hq : own_q B0 B1 B2 v0 v1 v2 v3) (hz : B1.toInt = 0) (e : q = ((B0 <<< ((4 : Int32) &&& 31)) &&& (63 : Int32))) : q.toInt = v1.toInt := by
  have a := own_sl4 hq.1
  rw [← e] at a
  have := hq.2.2.2.2.1
  omega
theorem own_t1' {B0 B1 B2 v0 v1 v2 v3 q : Int32} (hq : own_q B0 B1 B2 v0 v1 v2 v3) (e : q = (((B0 <<< ((4 : Int32) &&& 31)) &&& (63 : Int32)) ||| (B1 >>> ((4 : Int32) &&& 31)))) : q.toInt = v1.toInt := by
  have a := own_sl4 hq.1
  have b : (B1 >>> ((4 : Int32) &&& 31)).toInt = B1.toInt / 16 := c_ishr B1 4 4 (by decide)
  have := hq.2.1.1; have := hq.2.1.2; have := hq.1.1
  have o := c_or ((B0 <<< ((4 : Int32) &&& 31)) &&& 63) (B1 >>> ((4 : Int32) &&& 31)) 4 (by decide) 16 (by decide) (by omega) (by omega) (by omega)
  rw [← e] at o
  have r := rng32 q
  have := hq.2.2.2.2.1
  omega
theorem own_t2 {B0 B1 B2 v0 v1 v2 v3 q : Int32} (hq : own_q B0 B1 B2 v0 v1 v2 v3) (hz : B2.toInt = 0) (e : q = ((B1 <<< ((2 : Int32) &&& 31)) &&& (63 : Int32))) : q.toInt = v2.toInt := by
  have a := c_ishl B1 2 2 (by decide)
  have e4 : ((2 ^ 2 : Nat) : Int) = 4 := by decide
  rw [e4] at a
  have m := own_m63 (B1 <<< ((2 : Int32) &&& 31))
  rw [← e] at m
  have := hq.2.1.1; have := hq.2.1.2; have := hq.2.2.2.2.2.1
  omega
/-- everything about the n bytes -/
def own_D (n : Nat) (B0 B1 B2 B3 B4 B5 v0 v1 v2 v3 v4 v5 v6 v7 r0 r1 r2 r3 r4 r5 r6 r7 : Int32) : Prop :=
  own_q B0 B1 B2 v0 v1 v2 v3 ∧ own_q B3 B4 B5 v4 v5 v6 v7 ∧ own_Ch v0 r0 ∧ own_Ch v1 r1 ∧ own_Ch v2 r2 ∧ own_Ch v3 r3 ∧ own_Ch v4 r4 ∧ own_Ch v5 r5 ∧ own_Ch v6 r6 ∧ own_Ch v7 r7 ∧ (n ≤ 1 → B1.toInt = 0) ∧ (n ≤ 2 → B2.toInt = 0) ∧ (n ≤ 4 → B4.toInt = 0) ∧ (n ≤ 5 → B5.toInt = 0)
theorem own_n7 {c n : Int32} (h : n = ((c &&& (2147483647 : Int32)) - ((c &&& (2147483647 : Int32)) / (7 : Int32)) * (7 : Int32))) : n = 0 ∨ n = 1 ∨ n = 2 ∨ n = 3 ∨ n = 4 ∨ n = 5 ∨ n = 6 := by
  have m : (c &&& (2147483647 : Int32)).toInt = c.toInt % 2147483648 := c_mask c 2147483647 31 (by decide) (by decide)
  generalize c &&& (2147483647 : Int32) = d at *
  rw [own_irem] at h
  have r := (c_irem d 7 7 (by decide)).1 (by omega)
  rw [← h] at r
  rcases (by omega : n.toInt = 0 ∨ n.toInt = 1 ∨ n.toInt = 2 ∨ n.toInt = 3 ∨ n.toInt = 4 ∨ n.toInt = 5 ∨ n.toInt = 6) with q | q | q | q | q | q | q
  · exact Or.inl (Int32.toInt_inj.mp (by rw [q]; decide))
  · exact Or.inr (Or.inl (Int32.toInt_inj.mp (by rw [q]; decide)))
  · exact Or.inr (Or.inr (Or.inl (Int32.toInt_inj.mp (by rw [q]; decide))))
  · exact Or.inr (Or.inr (Or.inr (Or.inl (Int32.toInt_inj.mp (by rw [q]; decide)))))
  · exact Or.inr (Or.inr (Or.inr (Or.inr (Or.inl (Int32.toInt_inj.mp (by rw [q]; decide))))))
  · exact Or.inr (Or.inr (Or.inr (Or.inr (Or.inr (Or.inl (Int32.toInt_inj.mp (by rw [q]; decide)))))))
  · exact Or.inr (Or.inr (Or.inr (Or.inr (Or.inr (Or.inr (Int32.toInt_inj.mp (by rw [q]; decide)))))))
theorem own_b8 {c : Prop} {z B : Int32} (h : (c ∧ B = (z &&& (255 : Int32))) ∨ (¬ c ∧ B = (0 : Int32))) : own_B8 B := by
  rcases h with ⟨-, rfl⟩ | ⟨-, rfl⟩
  · have := own_m255 z; exact ⟨by omega, by omega⟩
  · exact ⟨by decide, by decide⟩
theorem own_b8' {c : Prop} {z B : Int32} (h : (c ∧ B = (0 : Int32)) ∨ (¬ c ∧ B = (z &&& (255 : Int32)))) : own_B8 B := by
  rcases h with ⟨-, rfl⟩ | ⟨-, rfl⟩
  · exact ⟨by decide, by decide⟩
  · have := own_m255 z; exact ⟨by omega, by omega⟩
theorem own_or4 {v0 v1 v2 v3 r0 r1 r2 r3 : Int32} (h0 : own_Ch v0 r0) (h1 : own_Ch v1 r1) (h2 : own_Ch v2 r2) (h3 : own_Ch v3 r3) : ¬ (((v0 ||| v1) ||| v2) ||| v3) < (0 : Int32) := by
  have a := (c_orS v0 v1).1 h0.1 h1.1
  have b := (c_orS (v0 ||| v1) v2).1 a h2.1
  have c := (c_orS ((v0 ||| v1) ||| v2) v3).1 b h3.1
  have e1 : (0 : Int32).toInt = 0 := by decide
  rw [Int32.lt_iff_toInt_lt, e1]; omega
section
variable {B0 B1 B2 v0 v1 v2 v3 r0 r1 r2 r3 b y : Int32}
theorem own_Y0 (hq : own_q B0 B1 B2 v0 v1 v2 v3) (h0 : own_Ch v0 r0) (h1 : own_Ch v1 r1) (h2 : own_Ch v2 r2) (h3 : own_Ch v3 r3) (hb : b = ((((v0 <<< ((18 : Int32) &&& 31)) ||| (v1 <<< ((12 : Int32) &&& 31))) ||| (v2 <<< ((6 : Int32) &&& 31))) ||| v3)) (e : y = ((b >>> ((16 : Int32) &&& 31)).toInt8.toInt32)) : own_SB (nar .byte y) B0 := by
  have a := own_bits4 (own_ch64 h0) (own_ch64 h1) (own_ch64 h2) (own_ch64 h3)
  rw [← hb] at a
  have := h2.1; have := h2.2.1; have := h3.1; have := h3.2.1
  exact own_y0 (T := v2.toInt * 64 + v3.toInt) hq (by omega) (by omega) (by omega) e
theorem own_Y1 (hq : own_q B0 B1 B2 v0 v1 v2 v3) (h0 : own_Ch v0 r0) (h1 : own_Ch v1 r1) (h2 : own_Ch v2 r2) (h3 : own_Ch v3 r3) (hb : b = ((((v0 <<< ((18 : Int32) &&& 31)) ||| (v1 <<< ((12 : Int32) &&& 31))) ||| (v2 <<< ((6 : Int32) &&& 31))) ||| v3)) (e : y = ((b >>> ((8 : Int32) &&& 31)).toInt8.toInt32)) : own_SB (nar .byte y) B1 := by
  have a := own_bits4 (own_ch64 h0) (own_ch64 h1) (own_ch64 h2) (own_ch64 h3)
  rw [← hb] at a
  exact own_y1 (T := v3.toInt) hq (by omega) h3.1 h3.2.1 e
theorem own_Y2 (hq : own_q B0 B1 B2 v0 v1 v2 v3) (h0 : own_Ch v0 r0) (h1 : own_Ch v1 r1) (h2 : own_Ch v2 r2) (h3 : own_Ch v3 r3) (hb : b = ((((v0 <<< ((18 : Int32) &&& 31)) ||| (v1 <<< ((12 : Int32) &&& 31))) ||| (v2 <<< ((6 : Int32) &&& 31))) ||| v3)) (e : y = (b.toInt8.toInt32)) : own_SB (nar .byte y) B2 := by
  have a := own_bits4 (own_ch64 h0) (own_ch64 h1) (own_ch64 h2) (own_ch64 h3)
  rw [← hb] at a
  exact own_y2 hq a e
theorem own_wz (hb : b = (((((0 : Int32) ||| (v0 <<< ((18 : Int32) &&& 31))) ||| (v1 <<< ((12 : Int32) &&& 31))) ||| (v2 <<< ((6 : Int32) &&& 31))) ||| (v3 <<< ((0 : Int32) &&& 31)))) : b = ((((v0 <<< ((18 : Int32) &&& 31)) ||| (v1 <<< ((12 : Int32) &&& 31))) ||| (v2 <<< ((6 : Int32) &&& 31))) ||| v3) := by rw [hb, own_zor, own_shl0]
theorem own_W0 (hq : own_q B0 B1 B2 v0 v1 v2 v3) (h0 : own_Ch v0 r0) (h1 : own_Ch v1 r1) (h2 : own_Ch v2 r2) (h3 : own_Ch v3 r3) (hb : b = (((((0 : Int32) ||| (v0 <<< ((18 : Int32) &&& 31))) ||| (v1 <<< ((12 : Int32) &&& 31))) ||| (v2 <<< ((6 : Int32) &&& 31))) ||| (v3 <<< ((0 : Int32) &&& 31)))) (e : y = ((b >>> ((16 : Int32) &&& 31)).toInt8.toInt32)) : own_SB (nar .byte y) B0 := own_Y0 hq h0 h1 h2 h3 (own_wz hb) e
theorem own_W1 (hq : own_q B0 B1 B2 v0 v1 v2 v3) (h0 : own_Ch v0 r0) (h1 : own_Ch v1 r1) (h2 : own_Ch v2 r2) (h3 : own_Ch v3 r3) (hb : b = (((((0 : Int32) ||| (v0 <<< ((18 : Int32) &&& 31))) ||| (v1 <<< ((12 : Int32) &&& 31))) ||| (v2 <<< ((6 : Int32) &&& 31))) ||| (v3 <<< ((0 : Int32) &&& 31)))) (e : y = ((b >>> ((8 : Int32) &&& 31)).toInt8.toInt32)) : own_SB (nar .byte y) B1 := own_Y1 hq h0 h1 h2 h3 (own_wz hb) e
theorem own_W2 (hq : own_q B0 B1 B2 v0 v1 v2 v3) (h0 : own_Ch v0 r0) (h1 : own_Ch v1 r1) (h2 : own_Ch v2 r2) (h3 : own_Ch v3 r3) (hb : b = (((((0 : Int32) ||| (v0 <<< ((18 : Int32) &&& 31))) ||| (v1 <<< ((12 : Int32) &&& 31))) ||| (v2 <<< ((6 : Int32) &&& 31))) ||| (v3 <<< ((0 : Int32) &&& 31)))) (e : y = (b.toInt8.toInt32)) : own_SB (nar .byte y) B2 := own_Y2 hq h0 h1 h2 h3 (own_wz hb) e
theorem own_T2_0 (hq : own_q B0 B1 B2 v0 v1 v2 v3) (h0 : own_Ch v0 r0) (h1 : own_Ch v1 r1) (hb : b = (((0 : Int32) ||| (v0 <<< ((18 : Int32) &&& 31))) ||| (v1 <<< ((12 : Int32) &&& 31)))) (e : y = ((b >>> ((16 : Int32) &&& 31)).toInt8.toInt32)) : own_SB (nar .byte y) B0 := by
  have a := own_bits2 (own_ch64 h0) (own_ch64 h1)
  rw [own_zor] at hb
  rw [← hb] at a
  exact own_y0 (T := 0) hq (by omega) (by omega) (by omega) e
theorem own_T3_0 (hq : own_q B0 B1 B2 v0 v1 v2 v3) (h0 : own_Ch v0 r0) (h1 : own_Ch v1 r1) (h2 : own_Ch v2 r2) (hb : b = ((((0 : Int32) ||| (v0 <<< ((18 : Int32) &&& 31))) ||| (v1 <<< ((12 : Int32) &&& 31))) ||| (v2 <<< ((6 : Int32) &&& 31)))) (e : y = ((b >>> ((16 : Int32) &&& 31)).toInt8.toInt32)) : own_SB (nar .byte y) B0 := by
  have a := own_bits3 (own_ch64 h0) (own_ch64 h1) (own_ch64 h2)
  rw [own_zor] at hb
  rw [← hb] at a
  have := h2.1; have := h2.2.1
  exact own_y0 (T := v2.toInt * 64) hq (by omega) (by omega) (by omega) e
theorem own_T3_1 (hq : own_q B0 B1 B2 v0 v1 v2 v3) (h0 : own_Ch v0 r0) (h1 : own_Ch v1 r1) (h2 : own_Ch v2 r2) (hb : b = ((((0 : Int32) ||| (v0 <<< ((18 : Int32) &&& 31))) ||| (v1 <<< ((12 : Int32) &&& 31))) ||| (v2 <<< ((6 : Int32) &&& 31)))) (e : y = ((b >>> ((8 : Int32) &&& 31)).toInt8.toInt32)) : own_SB (nar .byte y) B1 := by
  have a := own_bits3 (own_ch64 h0) (own_ch64 h1) (own_ch64 h2)
  rw [own_zor] at hb
  rw [← hb] at a
  exact own_y1 (T := 0) hq (by omega) (by omega) (by omega) e
theorem own_ebq (hq : own_q B0 B1 B2 v0 v1 v2 v3) (hb : b = (((B0 <<< ((16 : Int32) &&& 31)) ||| (B1 <<< ((8 : Int32) &&& 31))) ||| B2)) : b.toInt = B0.toInt * 65536 + B1.toInt * 256 + B2.toInt := by rw [hb]; exact own_eb hq.1 hq.2.1 hq.2.2.1
end
/-- the lengths of the texts -/
def own_LN (n : Int32) : Prop := n = 2 ∨ n = 3 ∨ n = 4 ∨ n = 6 ∨ n = 7 ∨ n = 8
theorem own_ln2 : own_LN 2 := by unfold own_LN; decide
theorem own_ln3 : own_LN 3 := by unfold own_LN; decide
theorem own_ln4 : own_LN 4 := by unfold own_LN; decide
theorem own_ln6 : own_LN 6 := by unfold own_LN; decide
theorem own_ln7 : own_LN 7 := by unfold own_LN; decide
theorem own_ln8 : own_LN 8 := by unfold own_LN; decide
theorem own_cf1 {n : Int32} (h : own_LN n) : ¬ ((n ||| (0 : Int32)) ||| n) < (0 : Int32) := by rcases h with rfl | rfl | rfl | rfl | rfl | rfl <;> decide
theorem own_cf2 {n : Int32} (h : own_LN n) : ¬ ((n - (0 : Int32)) < n) := by rcases h with rfl | rfl | rfl | rfl | rfl | rfl <;> decide
theorem own_cf3 {n : Int32} (h : own_LN n) : ¬ (n = (0 : Int32)) := by rcases h with rfl | rfl | rfl | rfl | rfl | rfl <;> decide
theorem own_cf4 {n : Int32} (h : own_LN n) : n.toNatClampNeg ≤ 8 := by rcases h with rfl | rfl | rfl | rfl | rfl | rfl <;> decide
theorem own_zadd (n : Int32) : (0 : Int32) + n = n := Int32.zero_add n
/-- the loop of equals -/
theorem own_lp0 {i n : Int32} (h : i.toInt + (0 : Nat) = n.toInt) : ¬ (i < n) := by rw [Int32.lt_iff_toInt_lt]; omega
theorem own_lp1 {i n : Int32} {q : Nat} (h : i.toInt + ((q + 1 : Nat) : Int) = n.toInt) : i < n := by rw [Int32.lt_iff_toInt_lt]; omega
theorem own_lp2 {i n : Int32} {q : Nat} (h0 : 0 ≤ i.toInt) (h : i.toInt + ((q + 1 : Nat) : Int) = n.toInt) : ¬ i < 0 ∧ i < n := by
  have e1 : (0 : Int32).toInt = 0 := by decide
  rw [Int32.lt_iff_toInt_lt, Int32.lt_iff_toInt_lt, e1]; omega
theorem own_lpi {i n : Int32} {q : Nat} (h0 : 0 ≤ i.toInt) (h : i.toInt + ((q + 1 : Nat) : Int) = n.toInt) : (i + (1 : Int32)).toInt = i.toInt + 1 := by
  have a := c_iadd i 1
  have e : (1 : Int32).toInt = 1 := by decide
  have r := rng32 (i + 1)
  have r2 := rng32 n
  rw [e] at a; omega
theorem own_lp3 {i n : Int32} {q : Nat} (h0 : 0 ≤ i.toInt) (h : i.toInt + ((q + 1 : Nat) : Int) = n.toInt) : 0 ≤ (i + (1 : Int32)).toInt := by rw [own_lpi h0 h]; omega
theorem own_lp4 {i n : Int32} {q : Nat} (h0 : 0 ≤ i.toInt) (h : i.toInt + ((q + 1 : Nat) : Int) = n.toInt) : (i + (1 : Int32)).toInt + q = n.toInt := by rw [own_lpi h0 h]; omega
theorem own_lz {c : Prop} {z B : Int32} (h : (c ∧ B = z) ∨ (¬ c ∧ B = (0 : Int32))) (hc : ¬ c) : B.toInt = 0 := by
  rcases h with ⟨q, -⟩ | ⟨-, rfl⟩
  · exact absurd q hc
  · decide
end OwnB64
end Jvm.Pilot.@@N@@
namespace Jvm.Pilot.@@N@@
open Jvm Jvm.ClassFile Sem Op Lib Jvm.Free Jvm.Stand Jvm.LawKit Jvm.RoadKit Bundle Jvm.Pilot.@@N@@.Jvm.D
abbrev own_W (a0 : Array Value) (Z : State) : Prop := ∀ (i : Nat) {d : Jvm.Cond}, tables_1[i]? = some d → d.before a0 Z = true
theorem own_Wi {a0 : Array Value} {Z : State} (hw : ∀ d ∈ tables_1, d.before a0 Z = true) : own_W a0 Z := fun _ _ q => hw _ (List.mem_of_getElem? q)
theorem own_Wj {a0 : Array Value} {Z : State} (hw : own_W a0 Z) : ∀ d ∈ tables_1, d.before a0 Z = true := fun _ q => by
  obtain ⟨i, h⟩ := List.getElem?_of_mem q
  exact hw i h
def own_G (Z : State) (dco eno iso utf tbd tbe : Addr) (kd ke : ClassId) (G1 : Int32) (fm : Value) : Prop := Sta Z Z.heap "com/example/keyset/keyset/crypto/Base64Url" "DECODER" "Ljava/util/Base64$Decoder;" (.ref dco) ∧ Sta Z Z.heap "com/example/keyset/keyset/crypto/Base64Url" "ENCODER" "Ljava/util/Base64$Encoder;" (.ref eno) ∧ Exa Z Z.heap dco "java/util/Base64$Decoder" ∧ Exa Z Z.heap eno "java/util/Base64$Encoder" ∧ Fld Z Z.heap dco "java/util/Base64$Decoder" "isURL" "Z" (.int 1) ∧ Fld Z Z.heap dco "java/util/Base64$Decoder" "isMIME" "Z" (.int 0) ∧ Fld Z Z.heap eno "java/util/Base64$Encoder" "doPadding" "Z" (.int 0) ∧ Fld Z Z.heap eno "java/util/Base64$Encoder" "linemax" "I" (.int (-1)) ∧ Fld Z Z.heap eno "java/util/Base64$Encoder" "isURL" "Z" (.int 1) ∧ Sta Z Z.heap "sun/nio/cs/ISO_8859_1" "INSTANCE" "Lsun/nio/cs/ISO_8859_1;" (.ref iso) ∧ Sta Z Z.heap "sun/nio/cs/UTF_8" "INSTANCE" "Lsun/nio/cs/UTF_8;" (.ref utf) ∧ iso ≠ utf ∧ Sta Z Z.heap "java/util/Base64$Decoder" "fromBase64URL" "[I" (.ref tbd) ∧ Sta Z Z.heap "java/util/Base64$Encoder" "toBase64URL" "[C" (.ref tbe) ∧ Arv Z Z.heap tbd kd .int 256 own_tabD (.int 0) ∧ Arv Z Z.heap tbe ke .char 64 own_tabE (.int 0) ∧ Sta Z Z.heap "java/lang/String" "COMPACT_STRINGS" "Z" (.int G1) ∧ ¬ (G1 = (0 : Int32)) ∧ Sta Z Z.heap "jdk/internal/util/Preconditions" "SIOOBE_FORMATTER" "Ljava/util/function/BiFunction;" (fm) ∧ fm.isRef = true
theorem own_lp5 {Z : State} {h : Heap} {a : Addr} {k : ClassId} {n : Int32} {vs : List Value} {d : Value} (F : Arv Z h a k .byte n vs d) : (0 : Int32).toInt + ((n.toInt.toNat : Nat) : Int) = n.toInt := by
  obtain ⟨c, -, -, -, q, -⟩ := F
  have e1 : (0 : Int32).toInt = 0 := by decide
  rw [Int32.lt_iff_toInt_lt, e1] at q
  rw [e1]; omega
theorem own_exaB {Z : State} {h : Heap} {a : Addr} {k : ClassId} {n : Int32} {vs : List Value} {d : Value} (hc : Z.vm.findClass "[B" = some k) (F : Arv Z h a k .byte n vs d) : Exa Z h a "[B" := by
  obtain ⟨c, A, q1, -⟩ := F
  obtain ⟨hs, k', hk, comp, hkind⟩ := A.2.1
  refine ⟨c, k', A.1, by rw [q1]; exact hc, hk, ?_, fun q => by rw [hkind] at q; cases q⟩
  cases hv : c.vm <;> first | rfl | exact absurd hv (hs _)
abbrev q0 : ByteArray := method_4_code
theorem d0_0 : DC q0 0 (.iload_n 0) 1 := by decide +kernel
theorem d0_1 : DC q0 1 (.bipush 26) 2 := by decide +kernel
theorem d0_3 : DC q0 3 (.if_icmp .ge 9) 3 := by decide +kernel
theorem d0_6 : DC q0 6 (.bipush 65) 2 := by decide +kernel
theorem d0_8 : DC q0 8 (.iload_n 0) 1 := by decide +kernel
theorem d0_9 : DC q0 9 .iadd 1 := by decide +kernel
theorem d0_10 : DC q0 10 .i2c 1 := by decide +kernel
theorem d0_11 : DC q0 11 .ireturn 1 := by decide +kernel
theorem d0_12 : DC q0 12 (.iload_n 0) 1 := by decide +kernel
theorem d0_13 : DC q0 13 (.bipush 52) 2 := by decide +kernel
theorem d0_15 : DC q0 15 (.if_icmp .ge 12) 3 := by decide +kernel
theorem d0_18 : DC q0 18 (.bipush 97) 2 := by decide +kernel
theorem d0_20 : DC q0 20 (.iload_n 0) 1 := by decide +kernel
theorem d0_21 : DC q0 21 (.bipush 26) 2 := by decide +kernel
theorem d0_23 : DC q0 23 .isub 1 := by decide +kernel
theorem d0_24 : DC q0 24 .iadd 1 := by decide +kernel
theorem d0_25 : DC q0 25 .i2c 1 := by decide +kernel
theorem d0_26 : DC q0 26 .ireturn 1 := by decide +kernel
theorem d0_27 : DC q0 27 (.iload_n 0) 1 := by decide +kernel
theorem d0_28 : DC q0 28 (.bipush 62) 2 := by decide +kernel
theorem d0_30 : DC q0 30 (.if_icmp .ge 12) 3 := by decide +kernel
theorem d0_33 : DC q0 33 (.bipush 48) 2 := by decide +kernel
theorem d0_35 : DC q0 35 (.iload_n 0) 1 := by decide +kernel
theorem d0_36 : DC q0 36 (.bipush 52) 2 := by decide +kernel
theorem d0_38 : DC q0 38 .isub 1 := by decide +kernel
theorem d0_39 : DC q0 39 .iadd 1 := by decide +kernel
theorem d0_40 : DC q0 40 .i2c 1 := by decide +kernel
theorem d0_41 : DC q0 41 .ireturn 1 := by decide +kernel
theorem d0_42 : DC q0 42 (.iload_n 0) 1 := by decide +kernel
theorem d0_43 : DC q0 43 (.bipush 62) 2 := by decide +kernel
theorem d0_45 : DC q0 45 (.if_icmp .ne 6) 3 := by decide +kernel
theorem d0_51 : DC q0 51 (.bipush 95) 2 := by decide +kernel
theorem d0_53 : DC q0 53 .ireturn 1 := by decide +kernel
theorem d0_48 : DC q0 48 (.bipush 45) 2 := by decide +kernel
theorem d0_50 : DC q0 50 .ireturn 1 := by decide +kernel
abbrev yy0 : MethodName := ⟨"com/example/keyset/keyset/crypto/Base64UrlDecodePinLaw", "ch", "(I)C"⟩
theorem pn_0 : plainName "com/example/keyset/keyset/crypto/Base64UrlDecodePinLaw" = true := by first | (simp [plainName, overriddenIn]; done) | decide +kernel
abbrev q1 : ByteArray := method_5_code
theorem d1_0 : DC q1 0 (.iload_n 0) 1 := by decide +kernel
theorem d1_1 : DC q1 1 (.ifCond .ne 7) 3 := by decide +kernel
theorem d1_4 : DC q1 4 (.iconst 0) 1 := by decide +kernel
theorem d1_5 : DC q1 5 (.newarray .char) 2 := by decide +kernel
theorem d1_7 : DC q1 7 .areturn 1 := by decide +kernel
abbrev yy1 : MethodName := ⟨"com/example/keyset/keyset/crypto/Base64UrlDecodePinLaw", "chars", "(ICCCCCCCC)[C"⟩
theorem d1_8 : DC q1 8 (.iload_n 0) 1 := by decide +kernel
theorem d1_9 : DC q1 9 (.iconst 1) 1 := by decide +kernel
theorem d1_10 : DC q1 10 (.if_icmp .ne 15) 3 := by decide +kernel
theorem d1_13 : DC q1 13 (.iconst 2) 1 := by decide +kernel
theorem d1_14 : DC q1 14 (.newarray .char) 2 := by decide +kernel
theorem d1_16 : DC q1 16 .dup 1 := by decide +kernel
theorem d1_17 : DC q1 17 (.iconst 0) 1 := by decide +kernel
theorem d1_18 : DC q1 18 (.iload_n 1) 1 := by decide +kernel
theorem d1_19 : DC q1 19 .castore 1 := by decide +kernel
theorem d1_20 : DC q1 20 .dup 1 := by decide +kernel
theorem d1_21 : DC q1 21 (.iconst 1) 1 := by decide +kernel
theorem d1_22 : DC q1 22 (.iload_n 2) 1 := by decide +kernel
theorem d1_23 : DC q1 23 .castore 1 := by decide +kernel
theorem d1_24 : DC q1 24 .areturn 1 := by decide +kernel
theorem d1_25 : DC q1 25 (.iload_n 0) 1 := by decide +kernel
theorem d1_26 : DC q1 26 (.iconst 2) 1 := by decide +kernel
theorem d1_27 : DC q1 27 (.if_icmp .ne 19) 3 := by decide +kernel
theorem d1_30 : DC q1 30 (.iconst 3) 1 := by decide +kernel
theorem d1_31 : DC q1 31 (.newarray .char) 2 := by decide +kernel
theorem d1_33 : DC q1 33 .dup 1 := by decide +kernel
theorem d1_34 : DC q1 34 (.iconst 0) 1 := by decide +kernel
theorem d1_35 : DC q1 35 (.iload_n 1) 1 := by decide +kernel
theorem d1_36 : DC q1 36 .castore 1 := by decide +kernel
theorem d1_37 : DC q1 37 .dup 1 := by decide +kernel
theorem d1_38 : DC q1 38 (.iconst 1) 1 := by decide +kernel
theorem d1_39 : DC q1 39 (.iload_n 2) 1 := by decide +kernel
theorem d1_40 : DC q1 40 .castore 1 := by decide +kernel
theorem d1_41 : DC q1 41 .dup 1 := by decide +kernel
theorem d1_42 : DC q1 42 (.iconst 2) 1 := by decide +kernel
theorem d1_43 : DC q1 43 (.iload_n 3) 1 := by decide +kernel
theorem d1_44 : DC q1 44 .castore 1 := by decide +kernel
theorem d1_45 : DC q1 45 .areturn 1 := by decide +kernel
theorem d1_46 : DC q1 46 (.iload_n 0) 1 := by decide +kernel
theorem d1_47 : DC q1 47 (.iconst 3) 1 := by decide +kernel
theorem d1_48 : DC q1 48 (.if_icmp .ne 24) 3 := by decide +kernel
theorem d1_51 : DC q1 51 (.iconst 4) 1 := by decide +kernel
theorem d1_52 : DC q1 52 (.newarray .char) 2 := by decide +kernel
theorem d1_54 : DC q1 54 .dup 1 := by decide +kernel
theorem d1_55 : DC q1 55 (.iconst 0) 1 := by decide +kernel
theorem d1_56 : DC q1 56 (.iload_n 1) 1 := by decide +kernel
theorem d1_57 : DC q1 57 .castore 1 := by decide +kernel
theorem d1_58 : DC q1 58 .dup 1 := by decide +kernel
theorem d1_59 : DC q1 59 (.iconst 1) 1 := by decide +kernel
theorem d1_60 : DC q1 60 (.iload_n 2) 1 := by decide +kernel
theorem d1_61 : DC q1 61 .castore 1 := by decide +kernel
theorem d1_62 : DC q1 62 .dup 1 := by decide +kernel
theorem d1_63 : DC q1 63 (.iconst 2) 1 := by decide +kernel
theorem d1_64 : DC q1 64 (.iload_n 3) 1 := by decide +kernel
theorem d1_65 : DC q1 65 .castore 1 := by decide +kernel
theorem d1_66 : DC q1 66 .dup 1 := by decide +kernel
theorem d1_67 : DC q1 67 (.iconst 3) 1 := by decide +kernel
theorem d1_68 : DC q1 68 (.iload 4) 2 := by decide +kernel
theorem d1_70 : DC q1 70 .castore 1 := by decide +kernel
theorem d1_71 : DC q1 71 .areturn 1 := by decide +kernel
theorem d1_72 : DC q1 72 (.iload_n 0) 1 := by decide +kernel
theorem d1_73 : DC q1 73 (.iconst 4) 1 := by decide +kernel
theorem d1_74 : DC q1 74 (.if_icmp .ne 35) 3 := by decide +kernel
theorem d1_77 : DC q1 77 (.bipush 6) 2 := by decide +kernel
theorem d1_79 : DC q1 79 (.newarray .char) 2 := by decide +kernel
theorem d1_81 : DC q1 81 .dup 1 := by decide +kernel
theorem d1_82 : DC q1 82 (.iconst 0) 1 := by decide +kernel
theorem d1_83 : DC q1 83 (.iload_n 1) 1 := by decide +kernel
theorem d1_84 : DC q1 84 .castore 1 := by decide +kernel
theorem d1_85 : DC q1 85 .dup 1 := by decide +kernel
theorem d1_86 : DC q1 86 (.iconst 1) 1 := by decide +kernel
theorem d1_87 : DC q1 87 (.iload_n 2) 1 := by decide +kernel
theorem d1_88 : DC q1 88 .castore 1 := by decide +kernel
theorem d1_89 : DC q1 89 .dup 1 := by decide +kernel
theorem d1_90 : DC q1 90 (.iconst 2) 1 := by decide +kernel
theorem d1_91 : DC q1 91 (.iload_n 3) 1 := by decide +kernel
theorem d1_92 : DC q1 92 .castore 1 := by decide +kernel
theorem d1_93 : DC q1 93 .dup 1 := by decide +kernel
theorem d1_94 : DC q1 94 (.iconst 3) 1 := by decide +kernel
theorem d1_95 : DC q1 95 (.iload 4) 2 := by decide +kernel
theorem d1_97 : DC q1 97 .castore 1 := by decide +kernel
theorem d1_98 : DC q1 98 .dup 1 := by decide +kernel
theorem d1_99 : DC q1 99 (.iconst 4) 1 := by decide +kernel
theorem d1_100 : DC q1 100 (.iload 5) 2 := by decide +kernel
theorem d1_102 : DC q1 102 .castore 1 := by decide +kernel
theorem d1_103 : DC q1 103 .dup 1 := by decide +kernel
theorem d1_104 : DC q1 104 (.iconst 5) 1 := by decide +kernel
theorem d1_105 : DC q1 105 (.iload 6) 2 := by decide +kernel
theorem d1_107 : DC q1 107 .castore 1 := by decide +kernel
theorem d1_108 : DC q1 108 .areturn 1 := by decide +kernel
theorem d1_109 : DC q1 109 (.iload_n 0) 1 := by decide +kernel
theorem d1_110 : DC q1 110 (.iconst 5) 1 := by decide +kernel
theorem d1_111 : DC q1 111 (.if_icmp .ne 41) 3 := by decide +kernel
theorem d1_114 : DC q1 114 (.bipush 7) 2 := by decide +kernel
theorem d1_116 : DC q1 116 (.newarray .char) 2 := by decide +kernel
theorem d1_118 : DC q1 118 .dup 1 := by decide +kernel
theorem d1_119 : DC q1 119 (.iconst 0) 1 := by decide +kernel
theorem d1_120 : DC q1 120 (.iload_n 1) 1 := by decide +kernel
theorem d1_121 : DC q1 121 .castore 1 := by decide +kernel
theorem d1_122 : DC q1 122 .dup 1 := by decide +kernel
theorem d1_123 : DC q1 123 (.iconst 1) 1 := by decide +kernel
theorem d1_124 : DC q1 124 (.iload_n 2) 1 := by decide +kernel
theorem d1_125 : DC q1 125 .castore 1 := by decide +kernel
theorem d1_126 : DC q1 126 .dup 1 := by decide +kernel
theorem d1_127 : DC q1 127 (.iconst 2) 1 := by decide +kernel
theorem d1_128 : DC q1 128 (.iload_n 3) 1 := by decide +kernel
theorem d1_129 : DC q1 129 .castore 1 := by decide +kernel
theorem d1_130 : DC q1 130 .dup 1 := by decide +kernel
theorem d1_131 : DC q1 131 (.iconst 3) 1 := by decide +kernel
theorem d1_132 : DC q1 132 (.iload 4) 2 := by decide +kernel
theorem d1_134 : DC q1 134 .castore 1 := by decide +kernel
theorem d1_135 : DC q1 135 .dup 1 := by decide +kernel
theorem d1_136 : DC q1 136 (.iconst 4) 1 := by decide +kernel
theorem d1_137 : DC q1 137 (.iload 5) 2 := by decide +kernel
theorem d1_139 : DC q1 139 .castore 1 := by decide +kernel
theorem d1_140 : DC q1 140 .dup 1 := by decide +kernel
theorem d1_141 : DC q1 141 (.iconst 5) 1 := by decide +kernel
theorem d1_142 : DC q1 142 (.iload 6) 2 := by decide +kernel
theorem d1_144 : DC q1 144 .castore 1 := by decide +kernel
theorem d1_145 : DC q1 145 .dup 1 := by decide +kernel
theorem d1_146 : DC q1 146 (.bipush 6) 2 := by decide +kernel
theorem d1_148 : DC q1 148 (.iload 7) 2 := by decide +kernel
theorem d1_150 : DC q1 150 .castore 1 := by decide +kernel
theorem d1_151 : DC q1 151 .areturn 1 := by decide +kernel
theorem d1_152 : DC q1 152 (.bipush 8) 2 := by decide +kernel
theorem d1_154 : DC q1 154 (.newarray .char) 2 := by decide +kernel
theorem d1_156 : DC q1 156 .dup 1 := by decide +kernel
theorem d1_157 : DC q1 157 (.iconst 0) 1 := by decide +kernel
theorem d1_158 : DC q1 158 (.iload_n 1) 1 := by decide +kernel
theorem d1_159 : DC q1 159 .castore 1 := by decide +kernel
theorem d1_160 : DC q1 160 .dup 1 := by decide +kernel
theorem d1_161 : DC q1 161 (.iconst 1) 1 := by decide +kernel
theorem d1_162 : DC q1 162 (.iload_n 2) 1 := by decide +kernel
theorem d1_163 : DC q1 163 .castore 1 := by decide +kernel
theorem d1_164 : DC q1 164 .dup 1 := by decide +kernel
theorem d1_165 : DC q1 165 (.iconst 2) 1 := by decide +kernel
theorem d1_166 : DC q1 166 (.iload_n 3) 1 := by decide +kernel
theorem d1_167 : DC q1 167 .castore 1 := by decide +kernel
theorem d1_168 : DC q1 168 .dup 1 := by decide +kernel
theorem d1_169 : DC q1 169 (.iconst 3) 1 := by decide +kernel
theorem d1_170 : DC q1 170 (.iload 4) 2 := by decide +kernel
theorem d1_172 : DC q1 172 .castore 1 := by decide +kernel
theorem d1_173 : DC q1 173 .dup 1 := by decide +kernel
theorem d1_174 : DC q1 174 (.iconst 4) 1 := by decide +kernel
theorem d1_175 : DC q1 175 (.iload 5) 2 := by decide +kernel
theorem d1_177 : DC q1 177 .castore 1 := by decide +kernel
theorem d1_178 : DC q1 178 .dup 1 := by decide +kernel
theorem d1_179 : DC q1 179 (.iconst 5) 1 := by decide +kernel
theorem d1_180 : DC q1 180 (.iload 6) 2 := by decide +kernel
theorem d1_182 : DC q1 182 .castore 1 := by decide +kernel
theorem d1_183 : DC q1 183 .dup 1 := by decide +kernel
theorem d1_184 : DC q1 184 (.bipush 6) 2 := by decide +kernel
theorem d1_186 : DC q1 186 (.iload 7) 2 := by decide +kernel
theorem d1_188 : DC q1 188 .castore 1 := by decide +kernel
theorem d1_189 : DC q1 189 .dup 1 := by decide +kernel
theorem d1_190 : DC q1 190 (.bipush 7) 2 := by decide +kernel
theorem d1_192 : DC q1 192 (.iload 8) 2 := by decide +kernel
theorem d1_194 : DC q1 194 .castore 1 := by decide +kernel
theorem d1_195 : DC q1 195 .areturn 1 := by decide +kernel
abbrev q2 : ByteArray := jdk_42_method_152_code
theorem d2_0 : DC q2 0 (.getstatic 38) 3 := by decide +kernel
theorem d2_3 : DC q2 3 (.ifCond .eq 10) 3 := by decide +kernel
theorem d2_6 : DC q2 6 (.aload_n 0) 1 := by decide +kernel
theorem d2_7 : DC q2 7 (.getfield 15) 3 := by decide +kernel
theorem d2_10 : DC q2 10 (.goto 4) 3 := by decide +kernel
theorem d2_14 : DC q2 14 .ireturn 1 := by decide +kernel
abbrev yy2 : MethodName := ⟨"java/lang/String", "coder", "()B"⟩
theorem pn_1 : plainName "java/lang/String" = true := by first | (simp [plainName, overriddenIn]; done) | decide +kernel
abbrev q3 : ByteArray := jdk_42_method_27_code
theorem d3_0 : DC q3 0 (.iload_n 0) 1 := by decide +kernel
theorem d3_1 : DC q3 1 (.ifCond .ne 11) 3 := by decide +kernel
theorem d3_4 : DC q3 4 (.aload_n 1) 1 := by decide +kernel
theorem d3_5 : DC q3 5 (.invokevirtual 279) 3 := by decide +kernel
theorem d3_8 : DC q3 8 (.checkcast 280) 3 := by decide +kernel
theorem d3_11 : DC q3 11 .areturn 1 := by decide +kernel
abbrev yy3 : MethodName := ⟨"java/lang/String", "encode8859_1", "(B[BZ)[B"⟩
abbrev q4 : ByteArray := jdk_42_method_26_code
theorem d4_0 : DC q4 0 (.iload_n 0) 1 := by decide +kernel
theorem d4_1 : DC q4 1 (.aload_n 1) 1 := by decide +kernel
theorem d4_2 : DC q4 2 (.iconst 1) 1 := by decide +kernel
theorem d4_3 : DC q4 3 (.invokestatic 351) 3 := by decide +kernel
theorem pd_0 : parseMethodDescriptor "(B[BZ)[B" = some ⟨[.byte, (.array .byte), .boolean], some (.array .byte)⟩ := by decide +kernel
theorem d4_6 : DC q4 6 .areturn 1 := by decide +kernel
abbrev yy4 : MethodName := ⟨"java/lang/String", "encode8859_1", "(B[B)[B"⟩
abbrev q5 : ByteArray := jdk_42_method_18_code
theorem d5_0 : DC q5 0 (.aload_n 0) 1 := by decide +kernel
theorem d5_1 : DC q5 1 (.getstatic 86) 3 := by decide +kernel
theorem d5_4 : DC q5 4 (.if_acmp .ne 10) 3 := by decide +kernel
theorem d5_14 : DC q5 14 (.aload_n 0) 1 := by decide +kernel
theorem d5_15 : DC q5 15 (.getstatic 116) 3 := by decide +kernel
theorem d5_18 : DC q5 18 (.if_acmp .ne 9) 3 := by decide +kernel
theorem d5_21 : DC q5 21 (.iload_n 1) 1 := by decide +kernel
theorem d5_22 : DC q5 22 (.aload_n 2) 1 := by decide +kernel
theorem d5_23 : DC q5 23 (.invokestatic 256) 3 := by decide +kernel
theorem pd_1 : parseMethodDescriptor "(B[B)[B" = some ⟨[.byte, (.array .byte)], some (.array .byte)⟩ := by decide +kernel
theorem d5_26 : DC q5 26 .areturn 1 := by decide +kernel
abbrev yy5 : MethodName := ⟨"java/lang/String", "encode", "(Ljava/nio/charset/Charset;B[B)[B"⟩
abbrev q6 : ByteArray := jdk_42_method_64_code
theorem d6_0 : DC q6 0 (.aload_n 1) 1 := by decide +kernel
theorem d6_1 : DC q6 1 (.ifnonnull 11) 3 := by decide +kernel
theorem d6_12 : DC q6 12 (.aload_n 1) 1 := by decide +kernel
theorem d6_13 : DC q6 13 (.aload_n 0) 1 := by decide +kernel
theorem d6_14 : DC q6 14 (.invokevirtual 335) 3 := by decide +kernel
theorem pd_2 : parseMethodDescriptor "()B" = some ⟨[], some .byte⟩ := by decide +kernel
theorem d6_17 : DC q6 17 (.aload_n 0) 1 := by decide +kernel
theorem d6_18 : DC q6 18 (.getfield 9) 3 := by decide +kernel
theorem d6_21 : DC q6 21 (.invokestatic 535) 3 := by decide +kernel
theorem pd_3 : parseMethodDescriptor "(Ljava/nio/charset/Charset;B[B)[B" = some ⟨[(.object "java/nio/charset/Charset"), .byte, (.array .byte)], some (.array .byte)⟩ := by decide +kernel
theorem d6_24 : DC q6 24 .areturn 1 := by decide +kernel
abbrev yy6 : MethodName := ⟨"java/lang/String", "getBytes", "(Ljava/nio/charset/Charset;)[B"⟩
abbrev q7 : ByteArray := jdk_2450_method_8_code
theorem d7_0 : DC q7 0 (.iload 6) 2 := by decide +kernel
theorem d7_2 : DC q7 2 (.ifCond .eq 9) 3 := by decide +kernel
theorem d7_5 : DC q7 5 (.getstatic 95) 3 := by decide +kernel
theorem d7_8 : DC q7 8 (.goto 6) 3 := by decide +kernel
theorem d7_14 : DC q7 14 (.astore 8) 2 := by decide +kernel
theorem d7_16 : DC q7 16 (.iload_n 2) 1 := by decide +kernel
theorem d7_17 : DC q7 17 (.iload_n 3) 1 := by decide +kernel
theorem d7_18 : DC q7 18 (.iload_n 2) 1 := by decide +kernel
theorem d7_19 : DC q7 19 .isub 1 := by decide +kernel
theorem d7_20 : DC q7 20 (.bipush (-4)) 2 := by decide +kernel
theorem d7_22 : DC q7 22 .iand 1 := by decide +kernel
theorem d7_23 : DC q7 23 .iadd 1 := by decide +kernel
theorem d7_24 : DC q7 24 (.istore 9) 2 := by decide +kernel
theorem d7_26 : DC q7 26 (.iload 5) 2 := by decide +kernel
theorem d7_28 : DC q7 28 (.istore 10) 2 := by decide +kernel
theorem d7_30 : DC q7 30 (.iload_n 2) 1 := by decide +kernel
theorem d7_31 : DC q7 31 (.iload 9) 2 := by decide +kernel
theorem d7_33 : DC q7 33 (.if_icmp .ge 147) 3 := by decide +kernel
theorem d7_36 : DC q7 36 (.aload 8) 2 := by decide +kernel
theorem d7_38 : DC q7 38 (.aload_n 1) 1 := by decide +kernel
theorem d7_39 : DC q7 39 (.iload_n 2) 1 := by decide +kernel
theorem d7_40 : DC q7 40 (.iinc 2 1) 3 := by decide +kernel
theorem d7_43 : DC q7 43 .baload 1 := by decide +kernel
theorem d7_44 : DC q7 44 (.sipush 255) 3 := by decide +kernel
theorem d7_47 : DC q7 47 .iand 1 := by decide +kernel
theorem d7_48 : DC q7 48 .iaload 1 := by decide +kernel
theorem d7_49 : DC q7 49 (.istore 11) 2 := by decide +kernel
theorem d7_51 : DC q7 51 (.aload 8) 2 := by decide +kernel
theorem d7_53 : DC q7 53 (.aload_n 1) 1 := by decide +kernel
theorem d7_54 : DC q7 54 (.iload_n 2) 1 := by decide +kernel
theorem d7_55 : DC q7 55 (.iinc 2 1) 3 := by decide +kernel
theorem d7_58 : DC q7 58 .baload 1 := by decide +kernel
theorem d7_59 : DC q7 59 (.sipush 255) 3 := by decide +kernel
theorem d7_62 : DC q7 62 .iand 1 := by decide +kernel
theorem d7_63 : DC q7 63 .iaload 1 := by decide +kernel
theorem d7_64 : DC q7 64 (.istore 12) 2 := by decide +kernel
theorem d7_66 : DC q7 66 (.aload 8) 2 := by decide +kernel
theorem d7_68 : DC q7 68 (.aload_n 1) 1 := by decide +kernel
theorem d7_69 : DC q7 69 (.iload_n 2) 1 := by decide +kernel
theorem d7_70 : DC q7 70 (.iinc 2 1) 3 := by decide +kernel
theorem d7_73 : DC q7 73 .baload 1 := by decide +kernel
theorem d7_74 : DC q7 74 (.sipush 255) 3 := by decide +kernel
theorem d7_77 : DC q7 77 .iand 1 := by decide +kernel
theorem d7_78 : DC q7 78 .iaload 1 := by decide +kernel
theorem d7_79 : DC q7 79 (.istore 13) 2 := by decide +kernel
theorem d7_81 : DC q7 81 (.aload 8) 2 := by decide +kernel
theorem d7_83 : DC q7 83 (.aload_n 1) 1 := by decide +kernel
theorem d7_84 : DC q7 84 (.iload_n 2) 1 := by decide +kernel
theorem d7_85 : DC q7 85 (.iinc 2 1) 3 := by decide +kernel
theorem d7_88 : DC q7 88 .baload 1 := by decide +kernel
theorem d7_89 : DC q7 89 (.sipush 255) 3 := by decide +kernel
theorem d7_92 : DC q7 92 .iand 1 := by decide +kernel
theorem d7_93 : DC q7 93 .iaload 1 := by decide +kernel
theorem d7_94 : DC q7 94 (.istore 14) 2 := by decide +kernel
theorem d7_96 : DC q7 96 (.iload 11) 2 := by decide +kernel
theorem d7_98 : DC q7 98 (.iload 12) 2 := by decide +kernel
theorem d7_100 : DC q7 100 .ior 1 := by decide +kernel
theorem d7_101 : DC q7 101 (.iload 13) 2 := by decide +kernel
theorem d7_103 : DC q7 103 .ior 1 := by decide +kernel
theorem d7_104 : DC q7 104 (.iload 14) 2 := by decide +kernel
theorem d7_106 : DC q7 106 .ior 1 := by decide +kernel
theorem d7_107 : DC q7 107 (.ifCond .ge 9) 3 := by decide +kernel
theorem d7_116 : DC q7 116 (.iload 11) 2 := by decide +kernel
theorem d7_118 : DC q7 118 (.bipush 18) 2 := by decide +kernel
theorem d7_120 : DC q7 120 .ishl 1 := by decide +kernel
theorem d7_121 : DC q7 121 (.iload 12) 2 := by decide +kernel
theorem d7_123 : DC q7 123 (.bipush 12) 2 := by decide +kernel
theorem d7_125 : DC q7 125 .ishl 1 := by decide +kernel
theorem d7_126 : DC q7 126 .ior 1 := by decide +kernel
theorem d7_127 : DC q7 127 (.iload 13) 2 := by decide +kernel
theorem d7_129 : DC q7 129 (.bipush 6) 2 := by decide +kernel
theorem d7_131 : DC q7 131 .ishl 1 := by decide +kernel
theorem d7_132 : DC q7 132 .ior 1 := by decide +kernel
theorem d7_133 : DC q7 133 (.iload 14) 2 := by decide +kernel
theorem d7_135 : DC q7 135 .ior 1 := by decide +kernel
theorem d7_136 : DC q7 136 (.istore 15) 2 := by decide +kernel
theorem d7_138 : DC q7 138 (.aload 4) 2 := by decide +kernel
theorem d7_140 : DC q7 140 (.iload 10) 2 := by decide +kernel
theorem d7_142 : DC q7 142 (.iinc 10 1) 3 := by decide +kernel
theorem d7_145 : DC q7 145 (.iload 15) 2 := by decide +kernel
theorem d7_147 : DC q7 147 (.bipush 16) 2 := by decide +kernel
theorem d7_149 : DC q7 149 .ishr 1 := by decide +kernel
theorem d7_150 : DC q7 150 .i2b 1 := by decide +kernel
theorem d7_151 : DC q7 151 .bastore 1 := by decide +kernel
theorem d7_152 : DC q7 152 (.aload 4) 2 := by decide +kernel
theorem d7_154 : DC q7 154 (.iload 10) 2 := by decide +kernel
theorem d7_156 : DC q7 156 (.iinc 10 1) 3 := by decide +kernel
theorem d7_159 : DC q7 159 (.iload 15) 2 := by decide +kernel
theorem d7_161 : DC q7 161 (.bipush 8) 2 := by decide +kernel
theorem d7_163 : DC q7 163 .ishr 1 := by decide +kernel
theorem d7_164 : DC q7 164 .i2b 1 := by decide +kernel
theorem d7_165 : DC q7 165 .bastore 1 := by decide +kernel
theorem d7_166 : DC q7 166 (.aload 4) 2 := by decide +kernel
theorem d7_168 : DC q7 168 (.iload 10) 2 := by decide +kernel
theorem d7_170 : DC q7 170 (.iinc 10 1) 3 := by decide +kernel
theorem d7_173 : DC q7 173 (.iload 15) 2 := by decide +kernel
theorem d7_175 : DC q7 175 .i2b 1 := by decide +kernel
theorem d7_176 : DC q7 176 .bastore 1 := by decide +kernel
theorem d7_177 : DC q7 177 (.goto (-147)) 3 := by decide +kernel
theorem d7_180 : DC q7 180 (.iload 10) 2 := by decide +kernel
theorem d7_182 : DC q7 182 (.iload 5) 2 := by decide +kernel
theorem d7_184 : DC q7 184 .isub 1 := by decide +kernel
theorem d7_185 : DC q7 185 .ireturn 1 := by decide +kernel
abbrev yy7 : MethodName := ⟨"java/util/Base64$Decoder", "decodeBlock", "([BII[BIZZ)I"⟩
theorem pn_2 : plainName "java/util/Base64$Decoder" = true := by first | (simp [plainName, overriddenIn]; done) | decide +kernel
abbrev q8 : ByteArray := jdk_2452_method_9_code
theorem d8_0 : DC q8 0 (.iload 6) 2 := by decide +kernel
theorem d8_2 : DC q8 2 (.ifCond .eq 9) 3 := by decide +kernel
theorem d8_5 : DC q8 5 (.getstatic 111) 3 := by decide +kernel
theorem d8_8 : DC q8 8 (.goto 6) 3 := by decide +kernel
theorem d8_14 : DC q8 14 (.astore 7) 2 := by decide +kernel
theorem d8_16 : DC q8 16 (.iload_n 2) 1 := by decide +kernel
theorem d8_17 : DC q8 17 (.istore 8) 2 := by decide +kernel
theorem d8_19 : DC q8 19 (.iload 5) 2 := by decide +kernel
theorem d8_21 : DC q8 21 (.istore 9) 2 := by decide +kernel
theorem d8_23 : DC q8 23 (.iload 8) 2 := by decide +kernel
theorem d8_25 : DC q8 25 (.iload_n 3) 1 := by decide +kernel
theorem d8_26 : DC q8 26 (.if_icmp .ge 126) 3 := by decide +kernel
theorem d8_29 : DC q8 29 (.aload_n 1) 1 := by decide +kernel
theorem d8_30 : DC q8 30 (.iload 8) 2 := by decide +kernel
theorem d8_32 : DC q8 32 (.iinc 8 1) 3 := by decide +kernel
theorem d8_35 : DC q8 35 .baload 1 := by decide +kernel
theorem d8_36 : DC q8 36 (.sipush 255) 3 := by decide +kernel
theorem d8_39 : DC q8 39 .iand 1 := by decide +kernel
theorem d8_40 : DC q8 40 (.bipush 16) 2 := by decide +kernel
theorem d8_42 : DC q8 42 .ishl 1 := by decide +kernel
theorem d8_43 : DC q8 43 (.aload_n 1) 1 := by decide +kernel
theorem d8_44 : DC q8 44 (.iload 8) 2 := by decide +kernel
theorem d8_46 : DC q8 46 (.iinc 8 1) 3 := by decide +kernel
theorem d8_49 : DC q8 49 .baload 1 := by decide +kernel
theorem d8_50 : DC q8 50 (.sipush 255) 3 := by decide +kernel
theorem d8_53 : DC q8 53 .iand 1 := by decide +kernel
theorem d8_54 : DC q8 54 (.bipush 8) 2 := by decide +kernel
theorem d8_56 : DC q8 56 .ishl 1 := by decide +kernel
theorem d8_57 : DC q8 57 .ior 1 := by decide +kernel
theorem d8_58 : DC q8 58 (.aload_n 1) 1 := by decide +kernel
theorem d8_59 : DC q8 59 (.iload 8) 2 := by decide +kernel
theorem d8_61 : DC q8 61 (.iinc 8 1) 3 := by decide +kernel
theorem d8_64 : DC q8 64 .baload 1 := by decide +kernel
theorem d8_65 : DC q8 65 (.sipush 255) 3 := by decide +kernel
theorem d8_68 : DC q8 68 .iand 1 := by decide +kernel
theorem d8_69 : DC q8 69 .ior 1 := by decide +kernel
theorem d8_70 : DC q8 70 (.istore 10) 2 := by decide +kernel
theorem d8_72 : DC q8 72 (.aload 4) 2 := by decide +kernel
theorem d8_74 : DC q8 74 (.iload 9) 2 := by decide +kernel
theorem d8_76 : DC q8 76 (.iinc 9 1) 3 := by decide +kernel
theorem d8_79 : DC q8 79 (.aload 7) 2 := by decide +kernel
theorem d8_81 : DC q8 81 (.iload 10) 2 := by decide +kernel
theorem d8_83 : DC q8 83 (.bipush 18) 2 := by decide +kernel
theorem d8_85 : DC q8 85 .iushr 1 := by decide +kernel
theorem d8_86 : DC q8 86 (.bipush 63) 2 := by decide +kernel
theorem d8_88 : DC q8 88 .iand 1 := by decide +kernel
theorem d8_89 : DC q8 89 .caload 1 := by decide +kernel
theorem d8_90 : DC q8 90 .i2b 1 := by decide +kernel
theorem d8_91 : DC q8 91 .bastore 1 := by decide +kernel
theorem d8_92 : DC q8 92 (.aload 4) 2 := by decide +kernel
theorem d8_94 : DC q8 94 (.iload 9) 2 := by decide +kernel
theorem d8_96 : DC q8 96 (.iinc 9 1) 3 := by decide +kernel
theorem d8_99 : DC q8 99 (.aload 7) 2 := by decide +kernel
theorem d8_101 : DC q8 101 (.iload 10) 2 := by decide +kernel
theorem d8_103 : DC q8 103 (.bipush 12) 2 := by decide +kernel
theorem d8_105 : DC q8 105 .iushr 1 := by decide +kernel
theorem d8_106 : DC q8 106 (.bipush 63) 2 := by decide +kernel
theorem d8_108 : DC q8 108 .iand 1 := by decide +kernel
theorem d8_109 : DC q8 109 .caload 1 := by decide +kernel
theorem d8_110 : DC q8 110 .i2b 1 := by decide +kernel
theorem d8_111 : DC q8 111 .bastore 1 := by decide +kernel
theorem d8_112 : DC q8 112 (.aload 4) 2 := by decide +kernel
theorem d8_114 : DC q8 114 (.iload 9) 2 := by decide +kernel
theorem d8_116 : DC q8 116 (.iinc 9 1) 3 := by decide +kernel
theorem d8_119 : DC q8 119 (.aload 7) 2 := by decide +kernel
theorem d8_121 : DC q8 121 (.iload 10) 2 := by decide +kernel
theorem d8_123 : DC q8 123 (.bipush 6) 2 := by decide +kernel
theorem d8_125 : DC q8 125 .iushr 1 := by decide +kernel
theorem d8_126 : DC q8 126 (.bipush 63) 2 := by decide +kernel
theorem d8_128 : DC q8 128 .iand 1 := by decide +kernel
theorem d8_129 : DC q8 129 .caload 1 := by decide +kernel
theorem d8_130 : DC q8 130 .i2b 1 := by decide +kernel
theorem d8_131 : DC q8 131 .bastore 1 := by decide +kernel
theorem d8_132 : DC q8 132 (.aload 4) 2 := by decide +kernel
theorem d8_134 : DC q8 134 (.iload 9) 2 := by decide +kernel
theorem d8_136 : DC q8 136 (.iinc 9 1) 3 := by decide +kernel
theorem d8_139 : DC q8 139 (.aload 7) 2 := by decide +kernel
theorem d8_141 : DC q8 141 (.iload 10) 2 := by decide +kernel
theorem d8_143 : DC q8 143 (.bipush 63) 2 := by decide +kernel
theorem d8_145 : DC q8 145 .iand 1 := by decide +kernel
theorem d8_146 : DC q8 146 .caload 1 := by decide +kernel
theorem d8_147 : DC q8 147 .i2b 1 := by decide +kernel
theorem d8_148 : DC q8 148 .bastore 1 := by decide +kernel
theorem d8_149 : DC q8 149 (.goto (-126)) 3 := by decide +kernel
theorem d8_152 : DC q8 152 .return_ 1 := by decide +kernel
abbrev yy8 : MethodName := ⟨"java/util/Base64$Encoder", "encodeBlock", "([BII[BIZ)V"⟩
theorem pn_3 : plainName "java/util/Base64$Encoder" = true := by first | (simp [plainName, overriddenIn]; done) | decide +kernel
abbrev q9 : ByteArray := jdk_41_method_13_code
theorem d9_0 : DC q9 0 (.iload_n 2) 1 := by decide +kernel
theorem d9_1 : DC q9 1 (.iload_n 0) 1 := by decide +kernel
theorem d9_2 : DC q9 2 .ior 1 := by decide +kernel
theorem d9_3 : DC q9 3 (.iload_n 1) 1 := by decide +kernel
theorem d9_4 : DC q9 4 .ior 1 := by decide +kernel
theorem d9_5 : DC q9 5 (.ifCond .lt 10) 3 := by decide +kernel
theorem d9_8 : DC q9 8 (.iload_n 1) 1 := by decide +kernel
theorem d9_9 : DC q9 9 (.iload_n 2) 1 := by decide +kernel
theorem d9_10 : DC q9 10 (.iload_n 0) 1 := by decide +kernel
theorem d9_11 : DC q9 11 .isub 1 := by decide +kernel
theorem d9_12 : DC q9 12 (.if_icmp .le 11) 3 := by decide +kernel
theorem d9_23 : DC q9 23 (.iload_n 0) 1 := by decide +kernel
theorem d9_24 : DC q9 24 .ireturn 1 := by decide +kernel
abbrev yy9 : MethodName := ⟨"jdk/internal/util/Preconditions", "checkFromIndexSize", "(IIILjava/util/function/BiFunction;)I"⟩
theorem pn_4 : plainName "jdk/internal/util/Preconditions" = true := by first | (simp [plainName, overriddenIn]; done) | decide +kernel
abbrev q10 : ByteArray := jdk_42_method_157_code
theorem d10_0 : DC q10 0 (.iload_n 0) 1 := by decide +kernel
theorem d10_1 : DC q10 1 (.iload_n 1) 1 := by decide +kernel
theorem d10_2 : DC q10 2 (.iload_n 2) 1 := by decide +kernel
theorem d10_3 : DC q10 3 (.getstatic 1053) 3 := by decide +kernel
theorem d10_6 : DC q10 6 (.invokestatic 1065) 3 := by decide +kernel
theorem pd_4 : parseMethodDescriptor "(IIILjava/util/function/BiFunction;)I" = some ⟨[.int, .int, .int, (.object "java/util/function/BiFunction")], some .int⟩ := by decide +kernel
theorem d10_9 : DC q10 9 .ireturn 1 := by decide +kernel
abbrev yy10 : MethodName := ⟨"java/lang/String", "checkBoundsOffCount", "(III)I"⟩
abbrev q11 : ByteArray := jdk_65_method_132_code
theorem d11_0 : DC q11 0 (.iload_n 1) 1 := by decide +kernel
theorem d11_1 : DC q11 1 (.ifCond .ne 9) 3 := by decide +kernel
theorem d11_4 : DC q11 4 (.iload_n 2) 1 := by decide +kernel
theorem d11_5 : DC q11 5 (.aload_n 0) 1 := by decide +kernel
theorem d11_6 : DC q11 6 .arraylength 1 := by decide +kernel
theorem d11_7 : DC q11 7 (.if_icmp .eq 10) 3 := by decide +kernel
theorem d11_17 : DC q11 17 (.aload_n 0) 1 := by decide +kernel
theorem d11_18 : DC q11 18 (.invokevirtual 310) 3 := by decide +kernel
theorem d11_21 : DC q11 21 (.checkcast 311) 3 := by decide +kernel
theorem d11_24 : DC q11 24 .areturn 1 := by decide +kernel
abbrev yy11 : MethodName := ⟨"java/util/Arrays", "copyOfRange", "([BII)[B"⟩
theorem pn_5 : plainName "java/util/Arrays" = true := by first | (simp [plainName, overriddenIn]; done) | decide +kernel
abbrev q12 : ByteArray := jdk_42_method_7_code
theorem d12_0 : DC q12 0 (.aload_n 0) 1 := by decide +kernel
theorem d12_1 : DC q12 1 (.invokespecial 1) 3 := by decide +kernel
theorem d12_4 : DC q12 4 (.iload_n 3) 1 := by decide +kernel
theorem d12_5 : DC q12 5 (.iload 4) 2 := by decide +kernel
theorem d12_7 : DC q12 7 (.aload_n 1) 1 := by decide +kernel
theorem d12_8 : DC q12 8 .arraylength 1 := by decide +kernel
theorem d12_9 : DC q12 9 (.invokestatic 34) 3 := by decide +kernel
theorem pd_5 : parseMethodDescriptor "(III)I" = some ⟨[.int, .int, .int], some .int⟩ := by decide +kernel
theorem d12_12 : DC q12 12 .pop 1 := by decide +kernel
theorem d12_13 : DC q12 13 (.iload 4) 2 := by decide +kernel
theorem d12_15 : DC q12 15 (.ifCond .ne 22) 3 := by decide +kernel
theorem d12_37 : DC q12 37 (.getstatic 38) 3 := by decide +kernel
theorem d12_40 : DC q12 40 (.ifCond .eq 29) 3 := by decide +kernel
theorem d12_43 : DC q12 43 (.iload_n 2) 1 := by decide +kernel
theorem d12_44 : DC q12 44 .i2b 1 := by decide +kernel
theorem d12_45 : DC q12 45 (.ifCond .ne 24) 3 := by decide +kernel
theorem d12_48 : DC q12 48 (.aload_n 0) 1 := by decide +kernel
theorem d12_49 : DC q12 49 (.aload_n 1) 1 := by decide +kernel
theorem d12_50 : DC q12 50 (.iload_n 3) 1 := by decide +kernel
theorem d12_51 : DC q12 51 (.iload_n 3) 1 := by decide +kernel
theorem d12_52 : DC q12 52 (.iload 4) 2 := by decide +kernel
theorem d12_54 : DC q12 54 .iadd 1 := by decide +kernel
theorem d12_55 : DC q12 55 (.invokestatic 54) 3 := by decide +kernel
theorem pd_6 : parseMethodDescriptor "([BII)[B" = some ⟨[(.array .byte), .int, .int], some (.array .byte)⟩ := by decide +kernel
theorem d12_58 : DC q12 58 (.putfield 9) 3 := by decide +kernel
theorem d12_61 : DC q12 61 (.aload_n 0) 1 := by decide +kernel
theorem d12_62 : DC q12 62 (.iconst 0) 1 := by decide +kernel
theorem d12_63 : DC q12 63 (.putfield 15) 3 := by decide +kernel
theorem d12_66 : DC q12 66 (.goto 61) 3 := by decide +kernel
theorem d12_127 : DC q12 127 .return_ 1 := by decide +kernel
abbrev yy12 : MethodName := ⟨"java/lang/String", "<init>", "([BIII)V"⟩
abbrev q13 : ByteArray := jdk_43_method_13_code
theorem d13_0 : DC q13 0 (.aload_n 0) 1 := by decide +kernel
theorem d13_1 : DC q13 1 .arraylength 1 := by decide +kernel
theorem d13_2 : DC q13 2 (.aload_n 1) 1 := by decide +kernel
theorem d13_3 : DC q13 3 .arraylength 1 := by decide +kernel
theorem d13_4 : DC q13 4 (.if_icmp .ne 30) 3 := by decide +kernel
theorem d13_7 : DC q13 7 (.iconst 0) 1 := by decide +kernel
theorem d13_8 : DC q13 8 (.istore_n 2) 1 := by decide +kernel
theorem d13_9 : DC q13 9 (.iload_n 2) 1 := by decide +kernel
theorem d13_10 : DC q13 10 (.aload_n 0) 1 := by decide +kernel
theorem d13_11 : DC q13 11 .arraylength 1 := by decide +kernel
theorem d13_12 : DC q13 12 (.if_icmp .ge 20) 3 := by decide +kernel
theorem d13_32 : DC q13 32 (.iconst 1) 1 := by decide +kernel
theorem d13_33 : DC q13 33 .ireturn 1 := by decide +kernel
theorem d13_15 : DC q13 15 (.aload_n 0) 1 := by decide +kernel
theorem d13_16 : DC q13 16 (.iload_n 2) 1 := by decide +kernel
theorem d13_17 : DC q13 17 .baload 1 := by decide +kernel
theorem d13_18 : DC q13 18 (.aload_n 1) 1 := by decide +kernel
theorem d13_19 : DC q13 19 (.iload_n 2) 1 := by decide +kernel
theorem d13_20 : DC q13 20 .baload 1 := by decide +kernel
theorem d13_21 : DC q13 21 (.if_icmp .eq 5) 3 := by decide +kernel
theorem d13_26 : DC q13 26 (.iinc 2 1) 3 := by decide +kernel
theorem d13_29 : DC q13 29 (.goto (-20)) 3 := by decide +kernel
abbrev yy13 : MethodName := ⟨"java/lang/StringLatin1", "equals", "([B[B)Z"⟩
theorem pn_6 : plainName "java/lang/StringLatin1" = true := by first | (simp [plainName, overriddenIn]; done) | decide +kernel
abbrev q14 : ByteArray := jdk_42_method_66_code
theorem d14_0 : DC q14 0 (.aload_n 0) 1 := by decide +kernel
theorem d14_1 : DC q14 1 (.aload_n 1) 1 := by decide +kernel
theorem d14_2 : DC q14 2 (.if_acmp .ne 5) 3 := by decide +kernel
theorem d14_7 : DC q14 7 (.aload_n 1) 1 := by decide +kernel
theorem d14_8 : DC q14 8 (.instanceof 10) 3 := by decide +kernel
theorem d14_11 : DC q14 11 (.ifCond .eq 43) 3 := by decide +kernel
theorem d14_14 : DC q14 14 (.aload_n 1) 1 := by decide +kernel
theorem d14_15 : DC q14 15 (.checkcast 10) 3 := by decide +kernel
theorem d14_18 : DC q14 18 (.astore_n 2) 1 := by decide +kernel
theorem d14_19 : DC q14 19 (.getstatic 38) 3 := by decide +kernel
theorem d14_22 : DC q14 22 (.ifCond .eq 14) 3 := by decide +kernel
theorem d14_25 : DC q14 25 (.aload_n 0) 1 := by decide +kernel
theorem d14_26 : DC q14 26 (.getfield 15) 3 := by decide +kernel
theorem d14_29 : DC q14 29 (.aload_n 2) 1 := by decide +kernel
theorem d14_30 : DC q14 30 (.getfield 15) 3 := by decide +kernel
theorem d14_33 : DC q14 33 (.if_icmp .ne 21) 3 := by decide +kernel
theorem d14_36 : DC q14 36 (.aload_n 0) 1 := by decide +kernel
theorem d14_37 : DC q14 37 (.getfield 9) 3 := by decide +kernel
theorem d14_40 : DC q14 40 (.aload_n 2) 1 := by decide +kernel
theorem d14_41 : DC q14 41 (.getfield 9) 3 := by decide +kernel
theorem d14_44 : DC q14 44 (.invokestatic 541) 3 := by decide +kernel
theorem pd_7 : parseMethodDescriptor "([B[B)Z" = some ⟨[(.array .byte), (.array .byte)], some .boolean⟩ := by decide +kernel
theorem d14_47 : DC q14 47 (.ifCond .eq 7) 3 := by decide +kernel
theorem d14_50 : DC q14 50 (.iconst 1) 1 := by decide +kernel
theorem d14_51 : DC q14 51 (.goto 4) 3 := by decide +kernel
theorem d14_55 : DC q14 55 .ireturn 1 := by decide +kernel
abbrev yy14 : MethodName := ⟨"java/lang/String", "equals", "(Ljava/lang/Object;)Z"⟩
abbrev q15 : ByteArray := jdk_2450_method_7_code
theorem d15_0 : DC q15 0 (.aload_n 0) 1 := by decide +kernel
theorem d15_1 : DC q15 1 (.getfield 7) 3 := by decide +kernel
theorem d15_4 : DC q15 4 (.ifCond .eq 9) 3 := by decide +kernel
theorem d15_7 : DC q15 7 (.getstatic 95) 3 := by decide +kernel
theorem d15_10 : DC q15 10 (.goto 6) 3 := by decide +kernel
theorem d15_16 : DC q15 16 (.astore 4) 2 := by decide +kernel
theorem d15_18 : DC q15 18 (.iconst 0) 1 := by decide +kernel
theorem d15_19 : DC q15 19 (.istore 5) 2 := by decide +kernel
theorem d15_21 : DC q15 21 (.iload_n 3) 1 := by decide +kernel
theorem d15_22 : DC q15 22 (.iload_n 2) 1 := by decide +kernel
theorem d15_23 : DC q15 23 .isub 1 := by decide +kernel
theorem d15_24 : DC q15 24 (.istore 6) 2 := by decide +kernel
theorem d15_26 : DC q15 26 (.iload 6) 2 := by decide +kernel
theorem d15_28 : DC q15 28 (.ifCond .ne 5) 3 := by decide +kernel
theorem d15_33 : DC q15 33 (.iload 6) 2 := by decide +kernel
theorem d15_35 : DC q15 35 (.iconst 2) 1 := by decide +kernel
theorem d15_36 : DC q15 36 (.if_icmp .ge 30) 3 := by decide +kernel
theorem d15_66 : DC q15 66 (.aload_n 0) 1 := by decide +kernel
theorem d15_67 : DC q15 67 (.getfield 13) 3 := by decide +kernel
theorem d15_70 : DC q15 70 (.ifCond .eq 71) 3 := by decide +kernel
theorem d15_141 : DC q15 141 (.aload_n 1) 1 := by decide +kernel
theorem d15_142 : DC q15 142 (.iload_n 3) 1 := by decide +kernel
theorem d15_143 : DC q15 143 (.iconst 1) 1 := by decide +kernel
theorem d15_144 : DC q15 144 .isub 1 := by decide +kernel
theorem d15_145 : DC q15 145 .baload 1 := by decide +kernel
theorem d15_146 : DC q15 146 (.bipush 61) 2 := by decide +kernel
theorem d15_148 : DC q15 148 (.if_icmp .ne 19) 3 := by decide +kernel
theorem d15_167 : DC q15 167 (.iload 5) 2 := by decide +kernel
theorem d15_169 : DC q15 169 (.ifCond .ne 18) 3 := by decide +kernel
theorem d15_172 : DC q15 172 (.iload 6) 2 := by decide +kernel
theorem d15_174 : DC q15 174 (.iconst 3) 1 := by decide +kernel
theorem d15_175 : DC q15 175 .iand 1 := by decide +kernel
theorem d15_176 : DC q15 176 (.ifCond .eq 11) 3 := by decide +kernel
theorem d15_179 : DC q15 179 (.iconst 4) 1 := by decide +kernel
theorem d15_180 : DC q15 180 (.iload 6) 2 := by decide +kernel
theorem d15_182 : DC q15 182 (.iconst 3) 1 := by decide +kernel
theorem d15_183 : DC q15 183 .iand 1 := by decide +kernel
theorem d15_184 : DC q15 184 .isub 1 := by decide +kernel
theorem d15_185 : DC q15 185 (.istore 5) 2 := by decide +kernel
theorem d15_187 : DC q15 187 (.iconst 3) 1 := by decide +kernel
theorem d15_188 : DC q15 188 (.iload 6) 2 := by decide +kernel
theorem d15_190 : DC q15 190 .i2l 1 := by decide +kernel
theorem d15_191 : DC q15 191 (.ldc2_w 107) 3 := by decide +kernel
theorem d15_194 : DC q15 194 .ladd 1 := by decide +kernel
theorem d15_195 : DC q15 195 (.ldc2_w 109) 3 := by decide +kernel
theorem d15_198 : DC q15 198 .ldiv 1 := by decide +kernel
theorem d15_199 : DC q15 199 .l2i 1 := by decide +kernel
theorem d15_200 : DC q15 200 .imul 1 := by decide +kernel
theorem d15_201 : DC q15 201 (.iload 5) 2 := by decide +kernel
theorem d15_203 : DC q15 203 .isub 1 := by decide +kernel
theorem d15_204 : DC q15 204 .ireturn 1 := by decide +kernel
abbrev yy15 : MethodName := ⟨"java/util/Base64$Decoder", "decodedOutLength", "([BII)I"⟩
abbrev q16 : ByteArray := jdk_2450_method_9_code
theorem d16_0 : DC q16 0 (.aload_n 0) 1 := by decide +kernel
theorem d16_1 : DC q16 1 (.getfield 7) 3 := by decide +kernel
theorem d16_4 : DC q16 4 (.ifCond .eq 9) 3 := by decide +kernel
theorem d16_7 : DC q16 7 (.getstatic 95) 3 := by decide +kernel
theorem d16_10 : DC q16 10 (.goto 6) 3 := by decide +kernel
theorem d16_16 : DC q16 16 (.astore 5) 2 := by decide +kernel
theorem d16_18 : DC q16 18 (.iconst 0) 1 := by decide +kernel
theorem d16_19 : DC q16 19 (.istore 6) 2 := by decide +kernel
theorem d16_21 : DC q16 21 (.iconst 0) 1 := by decide +kernel
theorem d16_22 : DC q16 22 (.istore 7) 2 := by decide +kernel
theorem d16_24 : DC q16 24 (.bipush 18) 2 := by decide +kernel
theorem d16_26 : DC q16 26 (.istore 8) 2 := by decide +kernel
theorem d16_28 : DC q16 28 (.iload_n 2) 1 := by decide +kernel
theorem d16_29 : DC q16 29 (.iload_n 3) 1 := by decide +kernel
theorem d16_30 : DC q16 30 (.if_icmp .ge 251) 3 := by decide +kernel
theorem d16_33 : DC q16 33 (.iload 8) 2 := by decide +kernel
theorem d16_35 : DC q16 35 (.bipush 18) 2 := by decide +kernel
theorem d16_37 : DC q16 37 (.if_icmp .ne 53) 3 := by decide +kernel
theorem d16_40 : DC q16 40 (.iload_n 2) 1 := by decide +kernel
theorem d16_41 : DC q16 41 (.iload_n 3) 1 := by decide +kernel
theorem d16_42 : DC q16 42 (.iconst 4) 1 := by decide +kernel
theorem d16_43 : DC q16 43 .isub 1 := by decide +kernel
theorem d16_44 : DC q16 44 (.if_icmp .ge 46) 3 := by decide +kernel
theorem d16_90 : DC q16 90 (.iload_n 2) 1 := by decide +kernel
theorem d16_91 : DC q16 91 (.iload_n 3) 1 := by decide +kernel
theorem d16_92 : DC q16 92 (.if_icmp .lt 6) 3 := by decide +kernel
theorem d16_98 : DC q16 98 (.aload_n 1) 1 := by decide +kernel
theorem d16_99 : DC q16 99 (.iload_n 2) 1 := by decide +kernel
theorem d16_100 : DC q16 100 (.iinc 2 1) 3 := by decide +kernel
theorem d16_103 : DC q16 103 .baload 1 := by decide +kernel
theorem d16_104 : DC q16 104 (.sipush 255) 3 := by decide +kernel
theorem d16_107 : DC q16 107 .iand 1 := by decide +kernel
theorem d16_108 : DC q16 108 (.istore 9) 2 := by decide +kernel
theorem d16_110 : DC q16 110 (.aload 5) 2 := by decide +kernel
theorem d16_112 : DC q16 112 (.iload 9) 2 := by decide +kernel
theorem d16_114 : DC q16 114 .iaload 1 := by decide +kernel
theorem d16_115 : DC q16 115 .dup 1 := by decide +kernel
theorem d16_116 : DC q16 116 (.istore 9) 2 := by decide +kernel
theorem d16_118 : DC q16 118 (.ifCond .ge 96) 3 := by decide +kernel
theorem d16_214 : DC q16 214 (.iload 7) 2 := by decide +kernel
theorem d16_216 : DC q16 216 (.iload 9) 2 := by decide +kernel
theorem d16_218 : DC q16 218 (.iload 8) 2 := by decide +kernel
theorem d16_220 : DC q16 220 .ishl 1 := by decide +kernel
theorem d16_221 : DC q16 221 .ior 1 := by decide +kernel
theorem d16_222 : DC q16 222 (.istore 7) 2 := by decide +kernel
theorem d16_224 : DC q16 224 (.iinc 8 (-6)) 3 := by decide +kernel
theorem d16_227 : DC q16 227 (.iload 8) 2 := by decide +kernel
theorem d16_229 : DC q16 229 (.ifCond .ge 49) 3 := by decide +kernel
theorem d16_278 : DC q16 278 (.goto (-250)) 3 := by decide +kernel
theorem d16_281 : DC q16 281 (.iload 8) 2 := by decide +kernel
theorem d16_283 : DC q16 283 (.bipush 6) 2 := by decide +kernel
theorem d16_285 : DC q16 285 (.if_icmp .ne 20) 3 := by decide +kernel
theorem d16_288 : DC q16 288 (.aload 4) 2 := by decide +kernel
theorem d16_290 : DC q16 290 (.iload 6) 2 := by decide +kernel
theorem d16_292 : DC q16 292 (.iinc 6 1) 3 := by decide +kernel
theorem d16_295 : DC q16 295 (.iload 7) 2 := by decide +kernel
theorem d16_297 : DC q16 297 (.bipush 16) 2 := by decide +kernel
theorem d16_299 : DC q16 299 .ishr 1 := by decide +kernel
theorem d16_300 : DC q16 300 .i2b 1 := by decide +kernel
theorem d16_301 : DC q16 301 .bastore 1 := by decide +kernel
theorem d16_302 : DC q16 302 (.goto 56) 3 := by decide +kernel
theorem d16_358 : DC q16 358 (.iload_n 2) 1 := by decide +kernel
theorem d16_359 : DC q16 359 (.iload_n 3) 1 := by decide +kernel
theorem d16_360 : DC q16 360 (.if_icmp .ge 56) 3 := by decide +kernel
theorem d16_416 : DC q16 416 (.iload 6) 2 := by decide +kernel
theorem d16_418 : DC q16 418 .ireturn 1 := by decide +kernel
abbrev yy16 : MethodName := ⟨"java/util/Base64$Decoder", "decode0", "([BII[B)I"⟩
abbrev q17 : ByteArray := jdk_2450_method_2_code
theorem d17_0 : DC q17 0 (.aload_n 0) 1 := by decide +kernel
theorem d17_1 : DC q17 1 (.aload_n 1) 1 := by decide +kernel
theorem d17_2 : DC q17 2 (.iconst 0) 1 := by decide +kernel
theorem d17_3 : DC q17 3 (.aload_n 1) 1 := by decide +kernel
theorem d17_4 : DC q17 4 .arraylength 1 := by decide +kernel
theorem d17_5 : DC q17 5 (.invokevirtual 16) 3 := by decide +kernel
theorem pd_8 : parseMethodDescriptor "([BII)I" = some ⟨[(.array .byte), .int, .int], some .int⟩ := by decide +kernel
theorem d17_8 : DC q17 8 (.newarray .byte) 2 := by decide +kernel
theorem d17_10 : DC q17 10 (.astore_n 2) 1 := by decide +kernel
theorem d17_11 : DC q17 11 (.aload_n 0) 1 := by decide +kernel
theorem d17_12 : DC q17 12 (.aload_n 1) 1 := by decide +kernel
theorem d17_13 : DC q17 13 (.iconst 0) 1 := by decide +kernel
theorem d17_14 : DC q17 14 (.aload_n 1) 1 := by decide +kernel
theorem d17_15 : DC q17 15 .arraylength 1 := by decide +kernel
theorem d17_16 : DC q17 16 (.aload_n 2) 1 := by decide +kernel
theorem d17_17 : DC q17 17 (.invokevirtual 20) 3 := by decide +kernel
theorem pd_9 : parseMethodDescriptor "([BII[B)I" = some ⟨[(.array .byte), .int, .int, (.array .byte)], some .int⟩ := by decide +kernel
theorem d17_20 : DC q17 20 (.istore_n 3) 1 := by decide +kernel
theorem d17_21 : DC q17 21 (.iload_n 3) 1 := by decide +kernel
theorem d17_22 : DC q17 22 (.aload_n 2) 1 := by decide +kernel
theorem d17_23 : DC q17 23 .arraylength 1 := by decide +kernel
theorem d17_24 : DC q17 24 (.if_icmp .eq 9) 3 := by decide +kernel
theorem d17_33 : DC q17 33 (.aload_n 2) 1 := by decide +kernel
theorem d17_34 : DC q17 34 .areturn 1 := by decide +kernel
abbrev yy17 : MethodName := ⟨"java/util/Base64$Decoder", "decode", "([B)[B"⟩
abbrev q18 : ByteArray := jdk_2450_method_3_code
theorem d18_0 : DC q18 0 (.aload_n 0) 1 := by decide +kernel
theorem d18_1 : DC q18 1 (.aload_n 1) 1 := by decide +kernel
theorem d18_2 : DC q18 2 (.getstatic 30) 3 := by decide +kernel
theorem d18_5 : DC q18 5 (.invokevirtual 36) 3 := by decide +kernel
theorem pd_10 : parseMethodDescriptor "(Ljava/nio/charset/Charset;)[B" = some ⟨[(.object "java/nio/charset/Charset")], some (.array .byte)⟩ := by decide +kernel
theorem d18_8 : DC q18 8 (.invokevirtual 42) 3 := by decide +kernel
theorem pd_11 : parseMethodDescriptor "([B)[B" = some ⟨[(.array .byte)], some (.array .byte)⟩ := by decide +kernel
theorem d18_11 : DC q18 11 .areturn 1 := by decide +kernel
abbrev yy18 : MethodName := ⟨"java/util/Base64$Decoder", "decode", "(Ljava/lang/String;)[B"⟩
abbrev q19 : ByteArray := jdk_2452_method_2_code
theorem d19_0 : DC q19 0 (.iconst 0) 1 := by decide +kernel
theorem d19_1 : DC q19 1 (.istore_n 3) 1 := by decide +kernel
theorem d19_2 : DC q19 2 (.aload_n 0) 1 := by decide +kernel
theorem d19_3 : DC q19 3 (.getfield 21) 3 := by decide +kernel
theorem d19_6 : DC q19 6 (.ifCond .eq 18) 3 := by decide +kernel
theorem d19_24 : DC q19 24 (.iload_n 1) 1 := by decide +kernel
theorem d19_25 : DC q19 25 (.iconst 3) 1 := by decide +kernel
theorem d19_26 : DC q19 26 .irem 1 := by decide +kernel
theorem d19_27 : DC q19 27 (.istore 4) 2 := by decide +kernel
theorem d19_29 : DC q19 29 (.iconst 4) 1 := by decide +kernel
theorem d19_30 : DC q19 30 (.iload_n 1) 1 := by decide +kernel
theorem d19_31 : DC q19 31 (.iconst 3) 1 := by decide +kernel
theorem d19_32 : DC q19 32 .idiv 1 := by decide +kernel
abbrev q20 : ByteArray := jdk_29_method_28_code
theorem d20_0 : DC q20 0 (.iload_n 0) 1 := by decide +kernel
theorem d20_1 : DC q20 1 .i2l 1 := by decide +kernel
theorem d20_2 : DC q20 2 (.iload_n 1) 1 := by decide +kernel
theorem d20_3 : DC q20 3 .i2l 1 := by decide +kernel
theorem d20_4 : DC q20 4 .lmul 1 := by decide +kernel
theorem d20_5 : DC q20 5 (.lstore_n 2) 1 := by decide +kernel
theorem d20_6 : DC q20 6 (.lload_n 2) 1 := by decide +kernel
theorem d20_7 : DC q20 7 .l2i 1 := by decide +kernel
theorem d20_8 : DC q20 8 .i2l 1 := by decide +kernel
theorem d20_9 : DC q20 9 (.lload_n 2) 1 := by decide +kernel
theorem d20_10 : DC q20 10 .lcmp 1 := by decide +kernel
theorem d20_11 : DC q20 11 (.ifCond .eq 13) 3 := by decide +kernel
theorem d20_24 : DC q20 24 (.lload_n 2) 1 := by decide +kernel
theorem d20_25 : DC q20 25 .l2i 1 := by decide +kernel
theorem d20_26 : DC q20 26 .ireturn 1 := by decide +kernel
abbrev yy19 : MethodName := ⟨"java/lang/Math", "multiplyExact", "(II)I"⟩
theorem d19_33 : DC q19 33 (.invokestatic 30) 3 := by decide +kernel
theorem pd_12 : parseMethodDescriptor "(II)I" = some ⟨[.int, .int], some .int⟩ := by decide +kernel
theorem d19_36 : DC q19 36 (.iload 4) 2 := by decide +kernel
theorem d19_38 : DC q19 38 (.ifCond .ne 7) 3 := by decide +kernel
theorem d19_45 : DC q19 45 (.iload 4) 2 := by decide +kernel
theorem d19_47 : DC q19 47 (.iconst 1) 1 := by decide +kernel
theorem d19_48 : DC q19 48 .iadd 1 := by decide +kernel
abbrev q21 : ByteArray := jdk_29_method_24_code
theorem d21_0 : DC q21 0 (.iload_n 0) 1 := by decide +kernel
theorem d21_1 : DC q21 1 (.iload_n 1) 1 := by decide +kernel
theorem d21_2 : DC q21 2 .iadd 1 := by decide +kernel
theorem d21_3 : DC q21 3 (.istore_n 2) 1 := by decide +kernel
theorem d21_4 : DC q21 4 (.iload_n 0) 1 := by decide +kernel
theorem d21_5 : DC q21 5 (.iload_n 2) 1 := by decide +kernel
theorem d21_6 : DC q21 6 .ixor 1 := by decide +kernel
theorem d21_7 : DC q21 7 (.iload_n 1) 1 := by decide +kernel
theorem d21_8 : DC q21 8 (.iload_n 2) 1 := by decide +kernel
theorem d21_9 : DC q21 9 .ixor 1 := by decide +kernel
theorem d21_10 : DC q21 10 .iand 1 := by decide +kernel
theorem d21_11 : DC q21 11 (.ifCond .ge 13) 3 := by decide +kernel
theorem d21_24 : DC q21 24 (.iload_n 2) 1 := by decide +kernel
theorem d21_25 : DC q21 25 .ireturn 1 := by decide +kernel
abbrev yy20 : MethodName := ⟨"java/lang/Math", "addExact", "(II)I"⟩
theorem d19_49 : DC q19 49 (.invokestatic 24) 3 := by decide +kernel
theorem d19_52 : DC q19 52 (.istore_n 3) 1 := by decide +kernel
theorem d19_53 : DC q19 53 (.aload_n 0) 1 := by decide +kernel
theorem d19_54 : DC q19 54 (.getfield 17) 3 := by decide +kernel
theorem d19_57 : DC q19 57 (.ifCond .le 22) 3 := by decide +kernel
theorem d19_79 : DC q19 79 (.goto 21) 3 := by decide +kernel
theorem d19_100 : DC q19 100 (.iload_n 3) 1 := by decide +kernel
theorem d19_101 : DC q19 101 .ireturn 1 := by decide +kernel
abbrev yy21 : MethodName := ⟨"java/util/Base64$Encoder", "encodedOutLength", "(IZ)I"⟩
abbrev q22 : ByteArray := jdk_2452_method_10_code
theorem d22_0 : DC q22 0 (.aload_n 0) 1 := by decide +kernel
theorem d22_1 : DC q22 1 (.getfield 7) 3 := by decide +kernel
theorem d22_4 : DC q22 4 (.ifCond .eq 9) 3 := by decide +kernel
theorem d22_7 : DC q22 7 (.getstatic 111) 3 := by decide +kernel
theorem d22_10 : DC q22 10 (.goto 6) 3 := by decide +kernel
theorem d22_16 : DC q22 16 (.astore 5) 2 := by decide +kernel
theorem d22_18 : DC q22 18 (.iload_n 2) 1 := by decide +kernel
theorem d22_19 : DC q22 19 (.istore 6) 2 := by decide +kernel
theorem d22_21 : DC q22 21 (.iload_n 3) 1 := by decide +kernel
theorem d22_22 : DC q22 22 (.iload_n 2) 1 := by decide +kernel
theorem d22_23 : DC q22 23 .isub 1 := by decide +kernel
theorem d22_24 : DC q22 24 (.iconst 3) 1 := by decide +kernel
theorem d22_25 : DC q22 25 .idiv 1 := by decide +kernel
theorem d22_26 : DC q22 26 (.iconst 3) 1 := by decide +kernel
theorem d22_27 : DC q22 27 .imul 1 := by decide +kernel
theorem d22_28 : DC q22 28 (.istore 7) 2 := by decide +kernel
theorem d22_30 : DC q22 30 (.iload_n 2) 1 := by decide +kernel
theorem d22_31 : DC q22 31 (.iload 7) 2 := by decide +kernel
theorem d22_33 : DC q22 33 .iadd 1 := by decide +kernel
theorem d22_34 : DC q22 34 (.istore 8) 2 := by decide +kernel
theorem d22_36 : DC q22 36 (.aload_n 0) 1 := by decide +kernel
theorem d22_37 : DC q22 37 (.getfield 17) 3 := by decide +kernel
theorem d22_40 : DC q22 40 (.ifCond .le 26) 3 := by decide +kernel
theorem d22_66 : DC q22 66 (.iconst 0) 1 := by decide +kernel
theorem d22_67 : DC q22 67 (.istore 9) 2 := by decide +kernel
theorem d22_69 : DC q22 69 (.iload 6) 2 := by decide +kernel
theorem d22_71 : DC q22 71 (.iload 8) 2 := by decide +kernel
theorem d22_73 : DC q22 73 (.if_icmp .ge 116) 3 := by decide +kernel
theorem d22_189 : DC q22 189 (.iload 6) 2 := by decide +kernel
theorem d22_191 : DC q22 191 (.iload_n 3) 1 := by decide +kernel
theorem d22_192 : DC q22 192 (.if_icmp .ge 160) 3 := by decide +kernel
theorem d22_195 : DC q22 195 (.aload_n 1) 1 := by decide +kernel
theorem d22_196 : DC q22 196 (.iload 6) 2 := by decide +kernel
theorem d22_198 : DC q22 198 (.iinc 6 1) 3 := by decide +kernel
theorem d22_201 : DC q22 201 .baload 1 := by decide +kernel
theorem d22_202 : DC q22 202 (.sipush 255) 3 := by decide +kernel
theorem d22_205 : DC q22 205 .iand 1 := by decide +kernel
theorem d22_206 : DC q22 206 (.istore 10) 2 := by decide +kernel
theorem d22_208 : DC q22 208 (.aload 4) 2 := by decide +kernel
theorem d22_210 : DC q22 210 (.iload 9) 2 := by decide +kernel
theorem d22_212 : DC q22 212 (.iinc 9 1) 3 := by decide +kernel
theorem d22_215 : DC q22 215 (.aload 5) 2 := by decide +kernel
theorem d22_217 : DC q22 217 (.iload 10) 2 := by decide +kernel
theorem d22_219 : DC q22 219 (.iconst 2) 1 := by decide +kernel
theorem d22_220 : DC q22 220 .ishr 1 := by decide +kernel
theorem d22_221 : DC q22 221 .caload 1 := by decide +kernel
theorem d22_222 : DC q22 222 .i2b 1 := by decide +kernel
theorem d22_223 : DC q22 223 .bastore 1 := by decide +kernel
theorem d22_224 : DC q22 224 (.iload 6) 2 := by decide +kernel
theorem d22_226 : DC q22 226 (.iload_n 3) 1 := by decide +kernel
theorem d22_227 : DC q22 227 (.if_icmp .ne 52) 3 := by decide +kernel
theorem d22_230 : DC q22 230 (.aload 4) 2 := by decide +kernel
theorem d22_232 : DC q22 232 (.iload 9) 2 := by decide +kernel
theorem d22_234 : DC q22 234 (.iinc 9 1) 3 := by decide +kernel
theorem d22_237 : DC q22 237 (.aload 5) 2 := by decide +kernel
theorem d22_239 : DC q22 239 (.iload 10) 2 := by decide +kernel
theorem d22_241 : DC q22 241 (.iconst 4) 1 := by decide +kernel
theorem d22_242 : DC q22 242 .ishl 1 := by decide +kernel
theorem d22_243 : DC q22 243 (.bipush 63) 2 := by decide +kernel
theorem d22_245 : DC q22 245 .iand 1 := by decide +kernel
theorem d22_246 : DC q22 246 .caload 1 := by decide +kernel
theorem d22_247 : DC q22 247 .i2b 1 := by decide +kernel
theorem d22_248 : DC q22 248 .bastore 1 := by decide +kernel
theorem d22_249 : DC q22 249 (.aload_n 0) 1 := by decide +kernel
theorem d22_250 : DC q22 250 (.getfield 21) 3 := by decide +kernel
theorem d22_253 : DC q22 253 (.ifCond .eq 99) 3 := by decide +kernel
theorem d22_352 : DC q22 352 (.iload 9) 2 := by decide +kernel
theorem d22_354 : DC q22 354 .ireturn 1 := by decide +kernel
abbrev yy22 : MethodName := ⟨"java/util/Base64$Encoder", "encode0", "([BII[B)I"⟩
abbrev q23 : ByteArray := jdk_2452_method_3_code
theorem d23_0 : DC q23 0 (.aload_n 0) 1 := by decide +kernel
theorem d23_1 : DC q23 1 (.aload_n 1) 1 := by decide +kernel
theorem d23_2 : DC q23 2 .arraylength 1 := by decide +kernel
theorem d23_3 : DC q23 3 (.iconst 1) 1 := by decide +kernel
theorem d23_4 : DC q23 4 (.invokevirtual 42) 3 := by decide +kernel
theorem pd_13 : parseMethodDescriptor "(IZ)I" = some ⟨[.int, .boolean], some .int⟩ := by decide +kernel
theorem d23_7 : DC q23 7 (.istore_n 2) 1 := by decide +kernel
theorem d23_8 : DC q23 8 (.iload_n 2) 1 := by decide +kernel
theorem d23_9 : DC q23 9 (.newarray .byte) 2 := by decide +kernel
theorem d23_11 : DC q23 11 (.astore_n 3) 1 := by decide +kernel
theorem d23_12 : DC q23 12 (.aload_n 0) 1 := by decide +kernel
theorem d23_13 : DC q23 13 (.aload_n 1) 1 := by decide +kernel
theorem d23_14 : DC q23 14 (.iconst 0) 1 := by decide +kernel
theorem d23_15 : DC q23 15 (.aload_n 1) 1 := by decide +kernel
theorem d23_16 : DC q23 16 .arraylength 1 := by decide +kernel
theorem d23_17 : DC q23 17 (.aload_n 3) 1 := by decide +kernel
theorem d23_18 : DC q23 18 (.invokevirtual 46) 3 := by decide +kernel
theorem d23_21 : DC q23 21 (.istore 4) 2 := by decide +kernel
theorem d23_23 : DC q23 23 (.iload 4) 2 := by decide +kernel
theorem d23_25 : DC q23 25 (.aload_n 3) 1 := by decide +kernel
theorem d23_26 : DC q23 26 .arraylength 1 := by decide +kernel
theorem d23_27 : DC q23 27 (.if_icmp .eq 10) 3 := by decide +kernel
theorem d23_37 : DC q23 37 (.aload_n 3) 1 := by decide +kernel
theorem d23_38 : DC q23 38 .areturn 1 := by decide +kernel
abbrev yy23 : MethodName := ⟨"java/util/Base64$Encoder", "encode", "([B)[B"⟩
abbrev q24 : ByteArray := jdk_2452_method_5_code
theorem d24_0 : DC q24 0 (.aload_n 0) 1 := by decide +kernel
theorem d24_1 : DC q24 1 (.aload_n 1) 1 := by decide +kernel
theorem d24_2 : DC q24 2 (.invokevirtual 61) 3 := by decide +kernel
theorem d24_5 : DC q24 5 (.astore_n 2) 1 := by decide +kernel
theorem d24_6 : DC q24 6 (.new 65) 3 := by decide +kernel
theorem d24_9 : DC q24 9 .dup 1 := by decide +kernel
theorem d24_10 : DC q24 10 (.aload_n 2) 1 := by decide +kernel
theorem d24_11 : DC q24 11 (.iconst 0) 1 := by decide +kernel
theorem d24_12 : DC q24 12 (.iconst 0) 1 := by decide +kernel
theorem d24_13 : DC q24 13 (.aload_n 2) 1 := by decide +kernel
theorem d24_14 : DC q24 14 .arraylength 1 := by decide +kernel
theorem d24_15 : DC q24 15 (.invokespecial 67) 3 := by decide +kernel
theorem pd_14 : parseMethodDescriptor "([BIII)V" = some ⟨[(.array .byte), .int, .int, .int], none⟩ := by decide +kernel
theorem d24_18 : DC q24 18 .areturn 1 := by decide +kernel
abbrev yy24 : MethodName := ⟨"java/util/Base64$Encoder", "encodeToString", "([B)Ljava/lang/String;"⟩
abbrev q25 : ByteArray := prog_2_method_3_code
theorem d25_0 : DC q25 0 (.getstatic 19) 3 := by decide +kernel
theorem d25_3 : DC q25 3 (.aload_n 0) 1 := by decide +kernel
theorem d25_4 : DC q25 4 (.invokevirtual 23) 3 := by decide +kernel
theorem pd_15 : parseMethodDescriptor "(Ljava/lang/String;)[B" = some ⟨[(.object "java/lang/String")], some (.array .byte)⟩ := by decide +kernel
theorem d25_7 : DC q25 7 (.astore_n 1) 1 := by decide +kernel
theorem d25_8 : DC q25 8 (.getstatic 7) 3 := by decide +kernel
theorem d25_11 : DC q25 11 (.aload_n 1) 1 := by decide +kernel
theorem d25_12 : DC q25 12 (.invokevirtual 13) 3 := by decide +kernel
theorem pd_16 : parseMethodDescriptor "([B)Ljava/lang/String;" = some ⟨[(.array .byte)], some (.object "java/lang/String")⟩ := by decide +kernel
theorem d25_15 : DC q25 15 (.aload_n 0) 1 := by decide +kernel
theorem d25_16 : DC q25 16 (.invokevirtual 29) 3 := by decide +kernel
theorem pd_17 : parseMethodDescriptor "(Ljava/lang/Object;)Z" = some ⟨[(.object "java/lang/Object")], some .boolean⟩ := by decide +kernel
theorem d25_19 : DC q25 19 (.ifCond .ne 13) 3 := by decide +kernel
theorem d25_32 : DC q25 32 (.aload_n 1) 1 := by decide +kernel
theorem d25_33 : DC q25 33 .areturn 1 := by decide +kernel
abbrev yy25 : MethodName := ⟨"com/example/keyset/keyset/crypto/Base64Url", "decode", "(Ljava/lang/String;)[B"⟩
theorem pn_7 : plainName "com/example/keyset/keyset/crypto/Base64Url" = true := by first | (simp [plainName, overriddenIn]; done) | decide +kernel
theorem d16_305 : DC q16 305 (.iload 8) 2 := by decide +kernel
theorem d16_307 : DC q16 307 (.ifCond .ne 34) 3 := by decide +kernel
theorem d16_310 : DC q16 310 (.aload 4) 2 := by decide +kernel
theorem d16_312 : DC q16 312 (.iload 6) 2 := by decide +kernel
theorem d16_314 : DC q16 314 (.iinc 6 1) 3 := by decide +kernel
theorem d16_317 : DC q16 317 (.iload 7) 2 := by decide +kernel
theorem d16_319 : DC q16 319 (.bipush 16) 2 := by decide +kernel
theorem d16_321 : DC q16 321 .ishr 1 := by decide +kernel
theorem d16_322 : DC q16 322 .i2b 1 := by decide +kernel
theorem d16_323 : DC q16 323 .bastore 1 := by decide +kernel
theorem d16_324 : DC q16 324 (.aload 4) 2 := by decide +kernel
theorem d16_326 : DC q16 326 (.iload 6) 2 := by decide +kernel
theorem d16_328 : DC q16 328 (.iinc 6 1) 3 := by decide +kernel
theorem d16_331 : DC q16 331 (.iload 7) 2 := by decide +kernel
theorem d16_333 : DC q16 333 (.bipush 8) 2 := by decide +kernel
theorem d16_335 : DC q16 335 .ishr 1 := by decide +kernel
theorem d16_336 : DC q16 336 .i2b 1 := by decide +kernel
theorem d16_337 : DC q16 337 .bastore 1 := by decide +kernel
theorem d16_338 : DC q16 338 (.goto 20) 3 := by decide +kernel
theorem d22_279 : DC q22 279 (.aload_n 1) 1 := by decide +kernel
theorem d22_280 : DC q22 280 (.iload 6) 2 := by decide +kernel
theorem d22_282 : DC q22 282 (.iinc 6 1) 3 := by decide +kernel
theorem d22_285 : DC q22 285 .baload 1 := by decide +kernel
theorem d22_286 : DC q22 286 (.sipush 255) 3 := by decide +kernel
theorem d22_289 : DC q22 289 .iand 1 := by decide +kernel
theorem d22_290 : DC q22 290 (.istore 11) 2 := by decide +kernel
theorem d22_292 : DC q22 292 (.aload 4) 2 := by decide +kernel
theorem d22_294 : DC q22 294 (.iload 9) 2 := by decide +kernel
theorem d22_296 : DC q22 296 (.iinc 9 1) 3 := by decide +kernel
theorem d22_299 : DC q22 299 (.aload 5) 2 := by decide +kernel
theorem d22_301 : DC q22 301 (.iload 10) 2 := by decide +kernel
theorem d22_303 : DC q22 303 (.iconst 4) 1 := by decide +kernel
theorem d22_304 : DC q22 304 .ishl 1 := by decide +kernel
theorem d22_305 : DC q22 305 (.bipush 63) 2 := by decide +kernel
theorem d22_307 : DC q22 307 .iand 1 := by decide +kernel
theorem d22_308 : DC q22 308 (.iload 11) 2 := by decide +kernel
theorem d22_310 : DC q22 310 (.iconst 4) 1 := by decide +kernel
theorem d22_311 : DC q22 311 .ishr 1 := by decide +kernel
theorem d22_312 : DC q22 312 .ior 1 := by decide +kernel
theorem d22_313 : DC q22 313 .caload 1 := by decide +kernel
theorem d22_314 : DC q22 314 .i2b 1 := by decide +kernel
theorem d22_315 : DC q22 315 .bastore 1 := by decide +kernel
theorem d22_316 : DC q22 316 (.aload 4) 2 := by decide +kernel
theorem d22_318 : DC q22 318 (.iload 9) 2 := by decide +kernel
theorem d22_320 : DC q22 320 (.iinc 9 1) 3 := by decide +kernel
theorem d22_323 : DC q22 323 (.aload 5) 2 := by decide +kernel
theorem d22_325 : DC q22 325 (.iload 11) 2 := by decide +kernel
theorem d22_327 : DC q22 327 (.iconst 2) 1 := by decide +kernel
theorem d22_328 : DC q22 328 .ishl 1 := by decide +kernel
theorem d22_329 : DC q22 329 (.bipush 63) 2 := by decide +kernel
theorem d22_331 : DC q22 331 .iand 1 := by decide +kernel
theorem d22_332 : DC q22 332 .caload 1 := by decide +kernel
theorem d22_333 : DC q22 333 .i2b 1 := by decide +kernel
theorem d22_334 : DC q22 334 .bastore 1 := by decide +kernel
theorem d22_335 : DC q22 335 (.aload_n 0) 1 := by decide +kernel
theorem d22_336 : DC q22 336 (.getfield 21) 3 := by decide +kernel
theorem d22_339 : DC q22 339 (.ifCond .eq 13) 3 := by decide +kernel
theorem d16_232 : DC q16 232 (.aload 4) 2 := by decide +kernel
theorem d16_234 : DC q16 234 (.iload 6) 2 := by decide +kernel
theorem d16_236 : DC q16 236 (.iinc 6 1) 3 := by decide +kernel
theorem d16_239 : DC q16 239 (.iload 7) 2 := by decide +kernel
theorem d16_241 : DC q16 241 (.bipush 16) 2 := by decide +kernel
theorem d16_243 : DC q16 243 .ishr 1 := by decide +kernel
theorem d16_244 : DC q16 244 .i2b 1 := by decide +kernel
theorem d16_245 : DC q16 245 .bastore 1 := by decide +kernel
theorem d16_246 : DC q16 246 (.aload 4) 2 := by decide +kernel
theorem d16_248 : DC q16 248 (.iload 6) 2 := by decide +kernel
theorem d16_250 : DC q16 250 (.iinc 6 1) 3 := by decide +kernel
theorem d16_253 : DC q16 253 (.iload 7) 2 := by decide +kernel
theorem d16_255 : DC q16 255 (.bipush 8) 2 := by decide +kernel
theorem d16_257 : DC q16 257 .ishr 1 := by decide +kernel
theorem d16_258 : DC q16 258 .i2b 1 := by decide +kernel
theorem d16_259 : DC q16 259 .bastore 1 := by decide +kernel
theorem d16_260 : DC q16 260 (.aload 4) 2 := by decide +kernel
theorem d16_262 : DC q16 262 (.iload 6) 2 := by decide +kernel
theorem d16_264 : DC q16 264 (.iinc 6 1) 3 := by decide +kernel
theorem d16_267 : DC q16 267 (.iload 7) 2 := by decide +kernel
theorem d16_269 : DC q16 269 .i2b 1 := by decide +kernel
theorem d16_270 : DC q16 270 .bastore 1 := by decide +kernel
theorem d16_271 : DC q16 271 (.bipush 18) 2 := by decide +kernel
theorem d16_273 : DC q16 273 (.istore 8) 2 := by decide +kernel
theorem d16_275 : DC q16 275 (.iconst 0) 1 := by decide +kernel
theorem d16_276 : DC q16 276 (.istore 7) 2 := by decide +kernel
theorem d16_341 : DC q16 341 (.iload 8) 2 := by decide +kernel
theorem d16_343 : DC q16 343 (.bipush 12) 2 := by decide +kernel
theorem d16_345 : DC q16 345 (.if_icmp .ne 13) 3 := by decide +kernel
theorem d19_41 : DC q19 41 (.iconst 0) 1 := by decide +kernel
theorem d19_42 : DC q19 42 (.goto 7) 3 := by decide +kernel
theorem d22_76 : DC q22 76 (.iload 6) 2 := by decide +kernel
theorem d22_78 : DC q22 78 (.iload 7) 2 := by decide +kernel
theorem d22_80 : DC q22 80 .iadd 1 := by decide +kernel
theorem d22_81 : DC q22 81 (.iload 8) 2 := by decide +kernel
abbrev q26 : ByteArray := jdk_29_method_69_code
theorem d26_0 : DC q26 0 (.iload_n 0) 1 := by decide +kernel
theorem d26_1 : DC q26 1 (.iload_n 1) 1 := by decide +kernel
theorem d26_2 : DC q26 2 (.if_icmp .gt 7) 3 := by decide +kernel
theorem d26_5 : DC q26 5 (.iload_n 0) 1 := by decide +kernel
theorem d26_6 : DC q26 6 (.goto 4) 3 := by decide +kernel
theorem d26_10 : DC q26 10 .ireturn 1 := by decide +kernel
abbrev yy26 : MethodName := ⟨"java/lang/Math", "min", "(II)I"⟩
theorem d22_83 : DC q22 83 (.invokestatic 124) 3 := by decide +kernel
theorem d22_86 : DC q22 86 (.istore 10) 2 := by decide +kernel
theorem d22_88 : DC q22 88 (.aload_n 0) 1 := by decide +kernel
theorem d22_89 : DC q22 89 (.aload_n 1) 1 := by decide +kernel
theorem d22_90 : DC q22 90 (.iload 6) 2 := by decide +kernel
theorem d22_92 : DC q22 92 (.iload 10) 2 := by decide +kernel
theorem d22_94 : DC q22 94 (.aload 4) 2 := by decide +kernel
theorem d22_96 : DC q22 96 (.iload 9) 2 := by decide +kernel
theorem d22_98 : DC q22 98 (.aload_n 0) 1 := by decide +kernel
theorem d22_99 : DC q22 99 (.getfield 7) 3 := by decide +kernel
theorem d22_102 : DC q22 102 (.invokevirtual 127) 3 := by decide +kernel
theorem pd_18 : parseMethodDescriptor "([BII[BIZ)V" = some ⟨[(.array .byte), .int, .int, (.array .byte), .int, .boolean], none⟩ := by decide +kernel
theorem d22_105 : DC q22 105 (.iload 10) 2 := by decide +kernel
theorem d22_107 : DC q22 107 (.iload 6) 2 := by decide +kernel
theorem d22_109 : DC q22 109 .isub 1 := by decide +kernel
theorem d22_110 : DC q22 110 (.iconst 3) 1 := by decide +kernel
theorem d22_111 : DC q22 111 .idiv 1 := by decide +kernel
theorem d22_112 : DC q22 112 (.iconst 4) 1 := by decide +kernel
theorem d22_113 : DC q22 113 .imul 1 := by decide +kernel
theorem d22_114 : DC q22 114 (.istore 11) 2 := by decide +kernel
theorem d22_116 : DC q22 116 (.iload 9) 2 := by decide +kernel
theorem d22_118 : DC q22 118 (.iload 11) 2 := by decide +kernel
theorem d22_120 : DC q22 120 .iadd 1 := by decide +kernel
theorem d22_121 : DC q22 121 (.istore 9) 2 := by decide +kernel
theorem d22_123 : DC q22 123 (.iload 10) 2 := by decide +kernel
theorem d22_125 : DC q22 125 (.istore 6) 2 := by decide +kernel
theorem d22_127 : DC q22 127 (.iload 11) 2 := by decide +kernel
theorem d22_129 : DC q22 129 (.aload_n 0) 1 := by decide +kernel
theorem d22_130 : DC q22 130 (.getfield 17) 3 := by decide +kernel
theorem d22_133 : DC q22 133 (.if_icmp .ne 53) 3 := by decide +kernel
theorem d22_186 : DC q22 186 (.goto (-117)) 3 := by decide +kernel
theorem d16_47 : DC q16 47 (.aload_n 0) 1 := by decide +kernel
theorem d16_48 : DC q16 48 (.aload_n 1) 1 := by decide +kernel
theorem d16_49 : DC q16 49 (.iload_n 2) 1 := by decide +kernel
theorem d16_50 : DC q16 50 (.iload_n 3) 1 := by decide +kernel
theorem d16_51 : DC q16 51 (.aload 4) 2 := by decide +kernel
theorem d16_53 : DC q16 53 (.iload 6) 2 := by decide +kernel
theorem d16_55 : DC q16 55 (.aload_n 0) 1 := by decide +kernel
theorem d16_56 : DC q16 56 (.getfield 7) 3 := by decide +kernel
theorem d16_59 : DC q16 59 (.aload_n 0) 1 := by decide +kernel
theorem d16_60 : DC q16 60 (.getfield 13) 3 := by decide +kernel
theorem d16_63 : DC q16 63 (.invokevirtual 111) 3 := by decide +kernel
theorem pd_19 : parseMethodDescriptor "([BII[BIZZ)I" = some ⟨[(.array .byte), .int, .int, (.array .byte), .int, .boolean, .boolean], some .int⟩ := by decide +kernel
theorem d16_66 : DC q16 66 (.istore 9) 2 := by decide +kernel
theorem d16_68 : DC q16 68 (.iload 9) 2 := by decide +kernel
theorem d16_70 : DC q16 70 (.iconst 2) 1 := by decide +kernel
theorem d16_71 : DC q16 71 .iadd 1 := by decide +kernel
theorem d16_72 : DC q16 72 (.iconst 3) 1 := by decide +kernel
theorem d16_73 : DC q16 73 .idiv 1 := by decide +kernel
theorem d16_74 : DC q16 74 (.iconst 4) 1 := by decide +kernel
theorem d16_75 : DC q16 75 .imul 1 := by decide +kernel
theorem d16_76 : DC q16 76 (.istore 10) 2 := by decide +kernel
theorem d16_78 : DC q16 78 (.iload_n 2) 1 := by decide +kernel
theorem d16_79 : DC q16 79 (.iload 10) 2 := by decide +kernel
theorem d16_81 : DC q16 81 .iadd 1 := by decide +kernel
theorem d16_82 : DC q16 82 (.istore_n 2) 1 := by decide +kernel
theorem d16_83 : DC q16 83 (.iload 6) 2 := by decide +kernel
theorem d16_85 : DC q16 85 (.iload 9) 2 := by decide +kernel
theorem d16_87 : DC q16 87 .iadd 1 := by decide +kernel
theorem d16_88 : DC q16 88 (.istore 6) 2 := by decide +kernel
theorem d16_95 : DC q16 95 (.goto 186) 3 := by decide +kernel
theorem d12_18 : DC q12 18 (.aload_n 0) 1 := by decide +kernel
theorem d12_19 : DC q12 19 (.ldc 7) 2 := by decide +kernel
theorem d12_21 : DC q12 21 (.getfield 9) 3 := by decide +kernel
theorem d12_24 : DC q12 24 (.putfield 9) 3 := by decide +kernel
theorem d12_27 : DC q12 27 (.aload_n 0) 1 := by decide +kernel
theorem d12_28 : DC q12 28 (.ldc 7) 2 := by decide +kernel
theorem d12_30 : DC q12 30 (.getfield 15) 3 := by decide +kernel
theorem d12_33 : DC q12 33 (.putfield 15) 3 := by decide +kernel
theorem d12_36 : DC q12 36 .return_ 1 := by decide +kernel
theorem d15_31 : DC q15 31 (.iconst 0) 1 := by decide +kernel
theorem d15_32 : DC q15 32 .ireturn 1 := by decide +kernel
abbrev q27 : ByteArray := jdk_42_method_149_code
theorem d27_0 : DC q27 0 (.aload_n 0) 1 := by decide +kernel
theorem d27_1 : DC q27 1 (.invokespecial 1) 3 := by decide +kernel
theorem d27_4 : DC q27 4 (.iload_n 3) 1 := by decide +kernel
theorem d27_5 : DC q27 5 (.ifCond .ne 22) 3 := by decide +kernel
theorem d27_8 : DC q27 8 (.aload_n 0) 1 := by decide +kernel
theorem d27_9 : DC q27 9 (.ldc 7) 2 := by decide +kernel
theorem d27_11 : DC q27 11 (.getfield 9) 3 := by decide +kernel
theorem d27_14 : DC q27 14 (.putfield 9) 3 := by decide +kernel
theorem d27_17 : DC q27 17 (.aload_n 0) 1 := by decide +kernel
theorem d27_18 : DC q27 18 (.ldc 7) 2 := by decide +kernel
theorem d27_20 : DC q27 20 (.getfield 15) 3 := by decide +kernel
theorem d27_23 : DC q27 23 (.putfield 15) 3 := by decide +kernel
theorem d27_26 : DC q27 26 .return_ 1 := by decide +kernel
abbrev yy27 : MethodName := ⟨"java/lang/String", "<init>", "([CIILjava/lang/Void;)V"⟩
abbrev q28 : ByteArray := jdk_42_method_3_code
theorem d28_0 : DC q28 0 (.aload_n 0) 1 := by decide +kernel
theorem d28_1 : DC q28 1 (.aload_n 1) 1 := by decide +kernel
theorem d28_2 : DC q28 2 (.iconst 0) 1 := by decide +kernel
theorem d28_3 : DC q28 3 (.aload_n 1) 1 := by decide +kernel
theorem d28_4 : DC q28 4 .arraylength 1 := by decide +kernel
theorem d28_5 : DC q28 5 .aconst_null 1 := by decide +kernel
theorem d28_6 : DC q28 6 (.invokespecial 27) 3 := by decide +kernel
theorem pd_20 : parseMethodDescriptor "([CIILjava/lang/Void;)V" = some ⟨[(.array .char), .int, .int, (.object "java/lang/Void")], none⟩ := by decide +kernel
theorem d28_9 : DC q28 9 .return_ 1 := by decide +kernel
abbrev yy28 : MethodName := ⟨"java/lang/String", "<init>", "([C)V"⟩
abbrev q29 : ByteArray := method_3_code
theorem d29_0 : DC q29 0 (.iload_n 1) 1 := by decide +kernel
theorem d29_1 : DC q29 1 (.iload_n 2) 1 := by decide +kernel
theorem d29_2 : DC q29 2 (.if_icmp .ge 14) 3 := by decide +kernel
theorem d29_16 : DC q29 16 (.iconst 1) 1 := by decide +kernel
theorem d29_17 : DC q29 17 (.goto 4) 3 := by decide +kernel
theorem d29_21 : DC q29 21 .ireturn 1 := by decide +kernel
abbrev yy29 : MethodName := ⟨"com/example/keyset/keyset/crypto/Base64UrlDecodePinLaw", "at", "([BIII)Z"⟩
theorem d29_5 : DC q29 5 (.aload_n 0) 1 := by decide +kernel
theorem d29_6 : DC q29 6 (.iload_n 1) 1 := by decide +kernel
theorem d29_7 : DC q29 7 .baload 1 := by decide +kernel
theorem d29_8 : DC q29 8 (.sipush 255) 3 := by decide +kernel
theorem d29_11 : DC q29 11 .iand 1 := by decide +kernel
theorem d29_12 : DC q29 12 (.iload_n 3) 1 := by decide +kernel
theorem d29_13 : DC q29 13 (.if_icmp .ne 7) 3 := by decide +kernel
theorem pd_21 : parseMethodDescriptor "(I)C" = some ⟨[.int], some .char⟩ := by decide +kernel
theorem pd_22 : parseMethodDescriptor "(ICCCCCCCC)[C" = some ⟨[.int, .char, .char, .char, .char, .char, .char, .char, .char], some (.array .char)⟩ := by decide +kernel
theorem pd_23 : parseMethodDescriptor "([C)V" = some ⟨[(.array .char)], none⟩ := by decide +kernel
theorem pd_24 : parseMethodDescriptor "([BIII)Z" = some ⟨[(.array .byte), .int, .int, .int], some .boolean⟩ := by decide +kernel
end Jvm.Pilot.@@N@@
namespace Jvm.Pilot.@@N@@
open Jvm Jvm.ClassFile Sem Op Lib Jvm.Free Jvm.Stand Jvm.LawKit Jvm.RoadKit Bundle
def own_QV (Z : State) (x : Addr) (N : Int32) (cs : List Int32) (h : Heap) (n0 : Nat) (v : Option Value) (h' : Heap) (L : List Loc) : Prop := v = none ∧ Fr n0 L ∧ Keep h h' [x] ∧ Exa Z h' x "java/lang/String" ∧ Fld Z h' x "java/lang/String" "coder" "B" (.int 0) ∧
  ∃ (t : Addr) (kb : ClassId), n0 ≤ t ∧ h.size ≤ t ∧ ¬ t = x ∧ Fld Z h' x "java/lang/String" "value" "[B" (.ref t) ∧ Arv Z h' t kb .byte N (cs.map fun c => .int (c.toInt8.toInt32)) (.int 0) ∧ Exa Z h' t "[B"
theorem own_backVE {p : Program} {l : Launch} {e : Env} {R : Room} {s : State} {args : Array Value} {below : List Frame} {len W : Nat} {Z : State} {a0 : Array Value} {h : Heap} (hZ : Z.Warmed39 s.vm) (hw : ∀ d ∈ StrChars.Road.words, d.before a0 Z = true) {kI : Nat} (wi : (Jvm.Cond.instantiable "java/lang/String" kI).before a0 Z = true)
    {x b : Addr} {kC : ClassId} {cs : List Int32} {d v0 c0 : Value} {z N : Int32} {n n0 : Nat} (hx0 : n0 ≤ x) (hh0 : n0 ≤ h.size) (E : Exa Z h x "java/lang/String") (V : Fld Z h x "java/lang/String" "value" "[B" v0) (C : Fld Z h x "java/lang/String" "coder" "B" c0) (K : Arv Z h b kC .char N (cs.map Value.int) d) (S : Sta Z h "java/lang/String" "COMPACT_STRINGS" "Z" (.int z)) (hz : ¬ z = 0)
    (hn : cs.length = n) (hN : N.toNatClampNeg = n) (l0 : 0 < n) (l2 : n ≤ 4000) (hp : ∀ c ∈ cs, ¬ (255 : Int32) < c) (hfr : 4 ≤ R.frames) (hlo : W + 65 ≤ R.locals) :
    Back l R p e below s args (⟨"java/lang/String", "<init>", "([C)V"⟩ : MethodName) len W (fun P a => a = #[.ref x, .ref b] ∧ P.U.heap = h ∧ P.cells + 1 ≤ R.cells ∧ P.slots + n ≤ R.slots)
      (fun P _ v B => ∃ L, own_QV Z x N cs h n0 v B.U.heap L ∧ B.locs = P.locs ++ L ∧ B.cells = P.cells + 1 ∧ B.slots = P.slots + n) := by
  subst hn
  refine Back.mono (StrChars.Road.backArv hZ hw wi E V C K S hz hN l0 (by omega) hp hfr hlo) (fun P a hp => hp) (fun P a v B hp hq => ?_)
  obtain ⟨L, ⟨q1, q2, q3, q4, q5, q6, q7, ⟨kb, v1, v2⟩, q9⟩, hl, hc, hs⟩ := hq
  exact ⟨L, ⟨q1, fun y hy => by rw [q2 y hy]; exact hx0, q3, q5, q7, h.size, kb, hh0, Nat.le_refl _, Nat.ne_of_gt E.lt, q6, v2, own_exaB v1 v2⟩, hl, hc, hs⟩
theorem own_latc {v r : Int32} (h : own_Ch v r) : ¬ (255 : Int32) < r := by
  have a := own_ch_r h
  have e : (255 : Int32).toInt = 255 := by decide
  rw [Int32.lt_iff_toInt_lt, e]; omega
theorem own_latn : ∀ c ∈ ([] : List Int32), ¬ (255 : Int32) < c := fun _ h => by cases h
theorem own_lats {v r : Int32} {L : List Int32} (h : own_Ch v r) (hL : ∀ c ∈ L, ¬ (255 : Int32) < c) : ∀ c ∈ r :: L, ¬ (255 : Int32) < c := fun c hc => by
  rcases List.mem_cons.mp hc with rfl | q
  · exact own_latc h
  · exact hL c q
end Jvm.Pilot.@@N@@
namespace Jvm.Pilot.@@N@@
open Jvm Jvm.ClassFile Sem Op Lib Jvm.Free Jvm.Stand Jvm.LawKit Jvm.RoadKit Bundle
section OwnS
variable {p : Program} {l : Launch} {e : Env} {R : Room} {s : State} {m : MethodId} {args : Array Value} {below : List Frame} {meth : Method} {c : Code} {T A t : State} {locs : List Loc} {cells slots : Nat} {Z : State} {a0 : Array Value} {h : Heap} {code : ByteArray} {Ls : Array Slot} {S : List Value} {pc : Nat} {own : String}
def own_EL : List (String × Nat) := [("java/lang/String", 7)]
abbrev own_Ps := Addr → Option Value → Heap → List Loc → Prop
def own_EndS (p : Program) (e : Env) (below : List Frame) (s A : State) (Q : own_Ps) (rc rs : Nat) : Prop :=
  ∃ s₂ o, Steps p.tables e below A s₂ ∧ s₂.status = .running ∧ Ended s₂ below o ∧ ∃ v L, o = .returned v ∧ (∃ al, Q al v s₂.heap L ∧ Lit s₂ "java/lang/String" 7 al) ∧ ReturnedEndW s o s₂ L rc rs
abbrev own_MS (l : Launch) (Z : State) (y : MethodName) (code : ByteArray) (ml : Nat) (ret : Option FieldType) (rm : Room) (as' : Array Value) (h0 : Heap) (Q : own_Ps) : Prop :=
  MetFree l y (head1 [Jvm.Cond.code y code ml ret] rm) (fun a U => a = as' ∧ Z.Warmed39 U.vm ∧ U.heap = h0 ∧ CHv Z own_EL U.vm h0) (fun _ _ _ _ _ => True) (fun _ U o U' => ∃ v L, o = .returned v ∧ (∃ al, Q al v U'.heap L ∧ Lit U' "java/lang/String" 7 al) ∧ ReturnedEndW U o U' L rm.cells rm.slots)
abbrev own_G0S (l : Launch) (Z : State) (y : MethodName) (code : ByteArray) (ml : Nat) (ret : Option FieldType) (rm : Room) (as' : Array Value) (h0 : Heap) (Q : own_Ps) : Prop :=
  ∀ (p : Program) (e : Env) (s : State) (m : MethodId) (below : List Frame) (meth : Method) (c : Code) (s₁ A : State), p.tables.exec = Jvm.exec ∧ c.code = code → c.maxLocals = ml → s.vm.findClass y.cls = some m.cls → meth.name = y.name → meth.locks = false → meth.sig.returnType = ret → Z.Warmed39 s.vm → CHv Z own_EL s.vm h0 →
    Stand p l e rm s m as' below meth c s₁ [] 0 0 → s₁.heap = h0 → (∀ t, Steps p.tables e below (s₁.setTop (entryFrame m as' ml)) t → Steps p.tables e below A t) → own_EndS p e below s A Q rm.cells rm.slots
theorem own_bodyS {y : MethodName} {ml : Nat} {ret : Option FieldType} {rm : Room} {as' : Array Value} {h0 : Heap} {Q : own_Ps} (plain : plainFor y = true) (G : own_G0S l Z y code ml ret rm as' h0 Q) : own_MS l Z y code ml ret rm as' h0 Q := by
  refine MetFree.of_bodySF plain hisR ?_
  intro p e s m args below meth c s₁ Bd hml0 hP hK
  obtain ⟨rfl, hZ, hh, hC⟩ := hP
  exact G p e s m below meth c s₁ _ ⟨Bd.exec, Bd.bytes⟩ hml0 (findClass_of_methodNamed Bd.named) (name_of_methodNamed Bd.named Bd.method).1 (BodyLoose.notSynchronized Bd) Bd.returns hZ hC (Stand.of_body Bd) (by rw [← hh, Bd.state]; rfl) (fun _ q => q)
theorem own_backS {y : MethodName} {bytes : ByteArray} {maxL : Nat} {ret : Option FieldType} {rm : Room} {len W : Nat} {as' : Array Value} {Q : own_Ps} (hM : own_MS l Z y bytes maxL ret rm as' h Q)
    (hZ : Z.Warmed39 s.vm) (wc : (Jvm.Cond.code y bytes maxL ret).before a0 Z = true) (wz : (Jvm.Cond.initialized y.cls).before a0 Z = true) (hf : rm.frames + 1 ≤ R.frames) (hl : W + (maxL + 11) + rm.locals ≤ R.locals) (hEL : EW Z a0 own_EL) (H : CHv Z own_EL s.vm h) :
    BackS l R p e below s args y len W (fun A a => a = as' ∧ A.U.heap = h ∧ A.cells + rm.cells ≤ R.cells ∧ A.slots + rm.slots ≤ R.slots)
      (fun A _ v B => ∃ L al, Q al v B.U.heap L ∧ Lit B.U "java/lang/String" 7 al ∧ B.locs = A.locs ++ L ∧ B.cells = A.cells + rm.cells ∧ B.slots = A.slots + rm.slots) :=
  BackS.of_freeW (bytes := bytes) (maxL := maxL) (ret := ret) (E := fun _ _ o t L k n => k = rm.cells ∧ n = rm.slots ∧ ∃ v, o = .returned v ∧ ∃ al, Q al v t.heap L ∧ Lit t "java/lang/String" 7 al) hM hf hl
    (fun m meth c A a Y hp => have hU : Z.Warmed39 A.U.vm := wtrans hZ Y.warmed
      ⟨by show (Cond.and _ .tt).before a A.U = true; rw [Cond.before_and, mv hU wc]; rfl, mv hU wc, mv hU wz, hp.2.2.1, hp.2.2.2⟩)
    (fun m meth c A a g mk Y hp => ⟨hp.1, wtrans hZ Y.warmed, hp.2.1, (CHv.at (s := s) (vm0 := s.vm) Y hZ hEL H).1⟩) (fun _ _ _ _ _ _ _ _ _ => trivial)
    (fun _ _ _ _ ⟨v, L, h1, h2, h3⟩ => ⟨L, _, _, h3, rfl, rfl, v, h1, h2⟩)
    (fun m meth c A a g mk v t L k n Y hp _ _ ⟨e1, e2, v', e3, al, e4, e5⟩ => by cases e3; subst e1 e2; exact ⟨L, al, e4, e5, rfl, rfl, rfl⟩)
theorem own_findB {vm : Vm} {cs : ClassId} {text : String} {a b : Addr} {k : ClassId} {n : Int32} {vs : List Value} {dv : Value} (hW : Z.Warmed39 vm) (w : (Jvm.Cond.stringLink "java/lang/String" 7 text).before a0 Z = true) (hf : vm.findClass "java/lang/String" = some cs) (hC : CHv Z own_EL vm h) (hL : Lit (s.setVm vm) "java/lang/String" 7 a)
    (F : Fld Z h a "java/lang/String" "value" "[B" (.ref b)) (V : Arv Z h b k .byte n vs dv) : Z.vm.findClass "[B" = some k := by
  have w2 : (Jvm.Cond.stringLink "java/lang/String" 7 text).before a0 (Wst Z vm h) = true := mvS (s := { Z with heap := h }) hW w
  obtain ⟨k0, cf, i, units, hkx, hcf, hp, hu, -, -, -⟩ := Cond.stringLink_spec (s := Wst Z vm h) hf w2
  have hres : k0.resolved[7]? = some (some (.string a)) := by
    have q : (s.setVm vm).resolvedAt? "java/lang/String" 7 = some (.string a) := hL
    have hf' : vm.findClass "java/lang/String" = some cs := hf
    have hk' : vm.classes[cs]? = some k0 := hkx
    simp [State.resolvedAt?, hf', hk'] at q
    cases hr : k0.resolved[7]? with
    | none => rw [hr] at q; cases q
    | some o => rw [hr] at q; cases o with
      | none => cases q
      | some r => simpa using q
  obtain ⟨q, hqa, cS, ⟨⟨s1, s2, s3, ⟨cv, kv, iv, s4, s4'⟩, ⟨cc, kc, ic, s5, s5'⟩, s6, s7, s8, s9, s10, -⟩, -, -⟩, -, hB, -⟩ := SlB.of (hC _ (List.mem_singleton.mpr rfl) units a ⟨cs, k0, cf, i, hf, hkx, hcf, hp, hu, Or.inl hres⟩)
  subst hqa
  obtain ⟨kv', z4⟩ := ff_back (U := Wst Z vm h) hW.alike s4
  obtain ⟨cell, cf', kf, j, f, h1, h2, h3, h4, h5, h6, h7⟩ := F
  have eC : some cell = some q.sC := h1.symm.trans s1
  have eF : some (cf', kf, j, f) = some (cv, kv', iv, q.fSV) := h2.symm.trans z4
  cases eC
  simp only [Option.some.injEq, Prod.mk.injEq] at eF
  obtain ⟨-, -, -, rfl⟩ := eF
  have eb : some (Value.ref b) = some (Value.ref q.sd) := h7.symm.trans s8
  cases eb
  obtain ⟨cl, Ar, q1, -⟩ := V
  have eA : some cl = some q.SA := Ar.1.symm.trans s10
  cases eA
  rw [← q1, ← hW.alike.findClass]; exact hB
theorem o_ldcC (X : Stand p l e R s m args below meth c T locs cells slots) (hx : p.tables.exec = Jvm.exec ∧ c.code = code) (hZ : Z.Warmed39 s.vm) (k : ∀ t, Steps p.tables e below (T.setTop (mkF m pc Ls S)) t → Steps p.tables e below A t) (hown : s.vm.findClass "java/lang/String" = some m.cls) (w : (Jvm.Cond.stringLink "java/lang/String" 7 "").before a0 Z = true) (wS : ∀ a ∈ Bundle.stringAtoms, a.before a0 Z = true)
    (eT : T.heap = h) (hEL : EW Z a0 own_EL) (H : CHv Z own_EL s.vm h) (hd : decode code pc = .ok (.ldc 7, 2)) (hc : cells + 2 ≤ R.cells := by decide) (hl : slots + 4 ≤ R.slots := by decide) :
    ∃ al T' h' k1 bl kb, Stand p l e R (s.setVm T'.vm) m args below meth c T' locs (cells + 2) (slots + 4) ∧ T'.heap = h' ∧ Ext h h' ∧ s.Since T'.vm k1 ∧ k1 ≤ h'.size ∧ Z.Warmed39 (s.setVm T'.vm).vm ∧ (s.setVm T'.vm).vm.findClass "java/lang/String" = some m.cls ∧
      Fld Z h' al "java/lang/String" "coder" "B" (.int 0) ∧ Fld Z h' al "java/lang/String" "value" "[B" (.ref bl) ∧ Arv Z h' bl kb .byte 0 [] (.int 0) ∧ Exa Z h' bl "[B" ∧ Lit (s.setVm T'.vm) "java/lang/String" 7 al ∧
      ∀ t, Steps p.tables e below (T'.setTop (mkF m (pc + 2) Ls (.ref al :: S))) t → Steps p.tables e below A t := by
  obtain ⟨al, T', h', k1, bl, kb, X', e', E', hS', hk', hZ', hown', -, Fc, Fv, V, -, -, hCH, hL, -, st⟩ := ldcCH (s := s) (vm0 := s.vm) (index := 7) (text := "") (vs := []) (z := 0) (n := 0) X hx.1 hZ hown w wS eT ((Jvm.State.WarmedH.refl s).since 0) (Nat.zero_le _) hEL (List.mem_singleton.mpr rfl) H ⟨fun c hc => by simp at hc, rfl⟩ (by decide) rfl (g := mkF m pc Ls S) rfl (hb hx.2 hd) (by decide) (by decide) hc hl
  exact ⟨al, T', h', k1, bl, kb, X', e', E', hS', hk', hZ', hown', Fc, Fv, V, own_exaB (own_findB (s := s) hZ' w hown' hCH.1 hL Fv V) V, hL, fun t q => k t (st _ q)⟩
theorem o_specialS (X : Stand p l e R s m args below meth c T locs cells slots) (hx : p.tables.exec = Jvm.exec ∧ c.code = code) (hZ : Z.Warmed39 s.vm) (k : ∀ t, Steps p.tables e below (T.setTop (mkF m pc Ls S)) t → Steps p.tables e below A t) (y : MethodName) {index : Nat} (hy1 : y.name = "<init>") (hown : s.vm.findClass own = some m.cls) (w1 : (Jvm.Cond.methodLink own index y).before a0 Z = true) (w2 : (Jvm.Cond.instanceMethod y).before a0 Z = true)
    {bytes : ByteArray} {maxL : Nat} (w4 : (Jvm.Cond.code y bytes maxL none).before a0 Z = true) {rm : Room} {as' : Array Value} {Q : own_Ps} (hM : own_MS l Z y bytes maxL none rm as' h Q) (w6 : (Jvm.Cond.initialized y.cls).before a0 Z = true) (hEL : EW Z a0 own_EL) (H : CHv Z own_EL s.vm h) (W : Nat) (a : Addr)
    (argsL rest : List Value) (hlen : ∀ sig, parseMethodDescriptor y.desc = some sig → argsL.length = sig.parameters.length) {ml : Nat} (hml : c.maxLocals = ml) (eT : T.heap = h) (hd : decode code pc = .ok (.invokespecial index, 3)) (hf : rm.frames + 1 ≤ R.frames := by decide) (hl : W + (maxL + 11) + rm.locals ≤ R.locals := by decide)
    (hS : S = argsL.reverse ++ .ref a :: rest := by exact rfl) (hsz : Ls.size = ml := by exact rfl) (hW : (rest.map fun v => v.category).sum ≤ W := by exact Nat.le_of_eq rfl) (has : (.ref a :: argsL).toArray = as' := by exact rfl) (hc : cells + rm.cells ≤ R.cells := by decide) (hs : slots + rm.slots ≤ R.slots := by decide) (hy : y.cls ≠ "java/lang/invoke/MethodHandle" ∧ y.cls ≠ "java/lang/invoke/VarHandle" := by decide) :
    ∃ v T' L al, Stand p l e R (s.setVm T'.vm) m args below meth c T' (locs ++ L) (cells + rm.cells) (slots + rm.slots) ∧ Q al v T'.heap L ∧ Lit (s.setVm T'.vm) "java/lang/String" 7 al ∧ s.Since T'.vm T'.heap.size ∧ Z.Warmed39 (s.setVm T'.vm).vm ∧ (s.setVm T'.vm).vm.findClass own = some m.cls ∧
      ∀ t, Steps p.tables e below (T'.setTop (mkF m (pc + 3) Ls (v.toList ++ rest))) t → Steps p.tables e below A t := by
  obtain ⟨v, _, B, -, X', hs', gs, hp, st⟩ := X.specialBackS hx.1 (y := y) hy1 hown (mvT hZ w1) (mvT hZ w2) (mvT hZ w4) hy (own_backS (W := W) hM hZ w4 w6 hf hl hEL H) (g := mkF m pc Ls S) rfl (by rw [hml]; exact hsz) (Steps.refl _) (a := a) (argsL := argsL) (rest := rest) hlen hS (by show 2 * 0 + _ ≤ _; omega) (hb hx.2 hd) (fun _ _ => ⟨has, eT, hc, hs⟩)
  obtain ⟨T', L', c', n'⟩ := B
  obtain ⟨L, al, hQ, hL, l1, l2, l3⟩ := hp
  dsimp only [Pt.U, Pt.locs, Pt.cells, Pt.slots] at X' hs' gs hQ hL l1 l2 l3 st
  subst l1 l2 l3
  exact ⟨v, T', L, al, X', hQ, hL, hs', State.Warmed39.trans (t := s) hZ hs'.1, by rw [show (s.setVm T'.vm).vm = T'.vm from rfl, hs'.1.alike.findClass]; exact hown, fun t q => k t (st.trans q)⟩
theorem o_retVS {vm : Vm} (X : Stand p l e R (s.setVm vm) m args below meth c T locs cells slots) (hx : p.tables.exec = Jvm.exec ∧ c.code = code) (k : ∀ t, Steps p.tables e below (T.setTop (mkF m pc Ls [])) t → Steps p.tables e below A t) (hlk : meth.locks = false) (hret : meth.sig.returnType = none) (hd : decode code pc = .ok (.return_, 1))
    {n : Nat} (hS : s.Since vm n) (hn : n ≤ T.heap.size) {Q : own_Ps} {rc rs : Nat} {al : Addr} (hL : Lit (s.setVm vm) "java/lang/String" 7 al) (hq : Q al none T.heap locs) (hc : cells ≤ rc := by decide) (hs : slots ≤ rs := by decide) : own_EndS p e below s A Q rc rs := by
  obtain ⟨fs, hr, hrun, hended, hW⟩ := Stand.leaveW (s := s) (vm₁ := vm) X hS hn (v := none) (fun _ => rfl) hlk
  exact ⟨_, _, k _ (X.returnOut hx.1 hret (hb hx.2 hd) hr), hrun, hended, _, _, rfl, ⟨al, hq, State.resolvedAt?_warmed39 X.warmed.wide hL⟩, hW.1, hW.2.1, hW.2.2.1, hW.2.2.2.mono hc hs⟩
end OwnS
end Jvm.Pilot.@@N@@
namespace Jvm.Pilot.@@N@@
open Jvm Jvm.ClassFile Sem Op Lib Jvm.Free Jvm.Stand Jvm.LawKit Jvm.RoadKit Bundle Jvm.Pilot.@@N@@.Jvm.D
variable {l : Launch} {Z : State} {a0 : Array Value}
theorem own_wS {Z : State} {a0 : Array Value} (hw : own_W a0 Z) : ∀ a ∈ Bundle.stringAtoms, a.before a0 Z = true := fun d hd => by
  simp only [Bundle.stringAtoms, List.mem_cons, List.not_mem_nil, or_false] at hd
  rcases hd with rfl | rfl | rfl | rfl | rfl | rfl | rfl
  · exact (hw 11 rfl)
  · exact (hw 10 rfl)
  · exact (hw 27 rfl)
  · exact (hw 37 rfl)
  · exact (hw 35 rfl)
  · exact (hw 187 rfl)
  · exact (hw 188 rfl)
theorem own_hEL {Z : State} {a0 : Array Value} (hw : own_W a0 Z) : EW Z a0 own_EL := EW.cons (hw 186 rfl) (fun c hc => by simp at hc) EW.nil
theorem ef_11 (m : MethodId) (x0 : Int32) : entryFrame m #[.int x0] 1 = mkF m 0 #[Li x0] [] := by first | (simp [entryFrame, mkF, argsToLocals, Value.category]; done) | rfl
def Q11 (Z : State) (p1 : Int32) (h0 : Heap) (n0 : Nat) (v : Option Value) (h : Heap) (L : List Loc) : Prop := ∃ (r : Int32), v = some (.int r) ∧ Fr n0 L ∧ h = h0 ∧ own_Ch p1 r
set_option maxRecDepth 65536 in
set_option maxHeartbeats 40000000 in
theorem rm11 (hw : own_W a0 Z) (p1 : Int32) (h0 : Heap) (n0 : Nat) (Z0 : n0 ≤ h0.size) (hv : own_R64 p1) :
    own_M l Z yy0 q0 1 (some .char) ⟨0, 0, 0, 0⟩ #[.int p1] h0 [] (Q11 Z p1 h0 n0) := by
  refine own_body (plainFor_of_name pn_0) ?_
  intro p e s m below meth c s₁ A hx hml hown hnm hlk hret hZ X0 e0 k0
  replace k0 := own_ent (ef_11 m p1) k0
  have N0 := Fr.nil n0
  have k1 := fun t_ ht_ => k0 t_ (o_iloadN X0 hx d0_0 rfl (o_bipush X0 hx d0_1 26 rfl ht_))
  by_cases h26 : p1 < (26 : Int32)
  · have k2 := fun t_ ht_ => k1 t_ (o_icmpNo X0 hx d0_3 (tlt (h26)).2.1 (o_bipush X0 hx d0_6 65 rfl (o_iloadN X0 hx d0_8 rfl (o_iadd X0 hx d0_9 rfl (o_i2c X0 hx d0_10 ht_)))))
    exact o_retN X0 hx k2 hlk hret (by simp) d0_11 (by rw [e0]; exact ⟨_, rfl, N0, rfl, own_ch1 hv h26⟩)
  · have k3 := fun t_ ht_ => k1 t_ (o_icmpYes X0 hx d0_3 (flt (h26)).2.1 12 (o_iloadN X0 hx d0_12 rfl (o_bipush X0 hx d0_13 52 rfl ht_)))
    by_cases h52 : p1 < (52 : Int32)
    · have k4 := fun t_ ht_ => k3 t_ (o_icmpNo X0 hx d0_15 (tlt (h52)).2.1 (o_bipush X0 hx d0_18 97 rfl (o_iloadN X0 hx d0_20 rfl (o_bipush X0 hx d0_21 26 rfl (o_isub X0 hx d0_23 rfl (o_iadd X0 hx d0_24 rfl (o_i2c X0 hx d0_25 ht_)))))))
      exact o_retN X0 hx k4 hlk hret (by simp) d0_26 (by rw [e0]; exact ⟨_, rfl, N0, rfl, own_ch2 hv h26 h52⟩)
    · have k5 := fun t_ ht_ => k3 t_ (o_icmpYes X0 hx d0_15 (flt (h52)).2.1 27 (o_iloadN X0 hx d0_27 rfl (o_bipush X0 hx d0_28 62 rfl ht_)))
      by_cases h62 : p1 < (62 : Int32)
      · have k6 := fun t_ ht_ => k5 t_ (o_icmpNo X0 hx d0_30 (tlt (h62)).2.1 (o_bipush X0 hx d0_33 48 rfl (o_iloadN X0 hx d0_35 rfl (o_bipush X0 hx d0_36 52 rfl (o_isub X0 hx d0_38 rfl (o_iadd X0 hx d0_39 rfl (o_i2c X0 hx d0_40 ht_)))))))
        exact o_retN X0 hx k6 hlk hret (by simp) d0_41 (by rw [e0]; exact ⟨_, rfl, N0, rfl, own_ch3 hv h26 h52 h62⟩)
      · have k7 := fun t_ ht_ => k5 t_ (o_icmpYes X0 hx d0_30 (flt (h62)).2.1 42 (o_iloadN X0 hx d0_42 rfl (o_bipush X0 hx d0_43 62 rfl ht_)))
        by_cases h63 : p1 = (62 : Int32)
        · have k9 := fun t_ ht_ => k7 t_ (o_icmpNo X0 hx d0_45 (teq (h63)).2 (o_bipush X0 hx d0_48 45 rfl ht_))
          exact o_retN X0 hx k9 hlk hret (by simp) d0_50 (by rw [e0]; exact ⟨_, rfl, N0, rfl, own_ch4 hv h63⟩)
        · have k8 := fun t_ ht_ => k7 t_ (o_icmpYes X0 hx d0_45 (feq (h63)).2 51 (o_bipush X0 hx d0_51 95 rfl ht_))
          exact o_retN X0 hx k8 hlk hret (by simp) d0_53 (by rw [e0]; exact ⟨_, rfl, N0, rfl, own_ch5 hv h62 h63⟩)
theorem ef_12 (m : MethodId) (x0 x1 x2 x3 x4 x5 x6 x7 x8 : Int32) : entryFrame m #[.int x0, .int x1, .int x2, .int x3, .int x4, .int x5, .int x6, .int x7, .int x8] 9 = mkF m 0 #[Li x0, Li x1, Li x2, Li x3, Li x4, Li x5, Li x6, Li x7, Li x8] [] := by first | (simp [entryFrame, mkF, argsToLocals, Value.category]; done) | rfl
def Q12 (Z : State) (c0p c1p c2p c3p c4p c5p c6p c7p : Int32) (h0 : Heap) (n0 : Nat) (v : Option Value) (h : Heap) (L : List Loc) : Prop := ∃ (ar : Addr) (kc : ClassId), v = some (.ref ar) ∧ Fr n0 L ∧ Keep h0 h [] ∧ Arv Z h ar kc .char (0 : Int32) [] (.int 0) ∧ h0.size ≤ ar
set_option maxRecDepth 65536 in
set_option maxHeartbeats 40000000 in
theorem rm12 (hw : own_W a0 Z) (c0p c1p c2p c3p c4p c5p c6p c7p : Int32) (h0 : Heap) (n0 : Nat) (Z0 : n0 ≤ h0.size) :
    own_M l Z yy1 q1 9 (some (.array .char)) ⟨0, 1, 0, 0⟩ #[.int 0, .int c0p, .int c1p, .int c2p, .int c3p, .int c4p, .int c5p, .int c6p, .int c7p] h0 [] (Q12 Z c0p c1p c2p c3p c4p c5p c6p c7p h0 n0) := by
  refine own_body (plainFor_of_name pn_0) ?_
  intro p e s m below meth c s₁ A hx hml hown hnm hlk hret hZ X0 e0 k0
  replace k0 := own_ent (ef_12 m 0 c0p c1p c2p c3p c4p c5p c6p c7p) k0
  have N0 := Fr.nil n0
  have KK : Keep h0 h0 [] := Keep.refl h0 []
  have k1 := fun t_ ht_ => k0 t_ (o_iloadN X0 hx d1_0 rfl (o_ifNo X0 hx d1_1 ((if0 _ _).trans (teq (by decide)).2) (o_iconst X0 hx d1_4 0 rfl ht_)))
  obtain ⟨T2, h2, c2, X2, e2, E2, Ax2, Bx2, k2⟩ := o_newP X0 hx hZ k1 (hw 8 rfl) e0 (by decide) 0 (by decide) "[C" d1_5
  obtain ⟨b2, g2⟩ : ∃ z, z = h0.size := ⟨_, rfl⟩
  rw [← g2] at Ax2 Bx2 k2
  have g_b2 : n0 ≤ b2 := Nat.le_trans Z0 (Nat.le_of_eq g2.symm)
  have sz_b2 : h0.size ≤ b2 := Nat.le_trans KK.1 (Nat.le_of_eq g2.symm)
  have Zs2 := Nat.le_trans Z0 E2.1
  replace KK := KK.ext E2
  have Ex_b2 := Bx2
  have V_b2 : Arv Z h2 b2 c2 .char 0 [] (.int 0) := Arv.new Ax2 (by decide)
  exact o_retA X2 hx k2 hlk hret rfl d1_7 (by rw [e2]; exact ⟨b2, c2, rfl, N0, KK, V_b2, sz_b2⟩)
theorem ef_13 (m : MethodId) (x0 x1 x2 x3 x4 x5 x6 x7 x8 : Int32) : entryFrame m #[.int x0, .int x1, .int x2, .int x3, .int x4, .int x5, .int x6, .int x7, .int x8] 9 = mkF m 0 #[Li x0, Li x1, Li x2, Li x3, Li x4, Li x5, Li x6, Li x7, Li x8] [] := by first | (simp [entryFrame, mkF, argsToLocals, Value.category]; done) | rfl
def Q13 (Z : State) (c0p c1p c2p c3p c4p c5p c6p c7p : Int32) (h0 : Heap) (n0 : Nat) (v : Option Value) (h : Heap) (L : List Loc) : Prop := ∃ (ar : Addr) (kc : ClassId), v = some (.ref ar) ∧ Fr n0 L ∧ Keep h0 h [] ∧ Arv Z h ar kc .char (2 : Int32) [.int (nar .char c0p), .int (nar .char c1p)] (.int 0) ∧ h0.size ≤ ar
set_option maxRecDepth 65536 in
set_option maxHeartbeats 40000000 in
theorem rm13 (hw : own_W a0 Z) (c0p c1p c2p c3p c4p c5p c6p c7p : Int32) (h0 : Heap) (n0 : Nat) (Z0 : n0 ≤ h0.size) :
    own_M l Z yy1 q1 9 (some (.array .char)) ⟨0, 1, 2, 0⟩ #[.int 1, .int c0p, .int c1p, .int c2p, .int c3p, .int c4p, .int c5p, .int c6p, .int c7p] h0 [] (Q13 Z c0p c1p c2p c3p c4p c5p c6p c7p h0 n0) := by
  refine own_body (plainFor_of_name pn_0) ?_
  intro p e s m below meth c s₁ A hx hml hown hnm hlk hret hZ X0 e0 k0
  replace k0 := own_ent (ef_13 m 1 c0p c1p c2p c3p c4p c5p c6p c7p) k0
  have N0 := Fr.nil n0
  have KK : Keep h0 h0 [] := Keep.refl h0 []
  have k1 := fun t_ ht_ => k0 t_ (o_iloadN X0 hx d1_0 rfl (o_ifYes X0 hx d1_1 ((if0 _ _).trans (feq (by decide)).2) 8 (o_iloadN X0 hx d1_8 rfl (o_iconst X0 hx d1_9 1 rfl (o_icmpNo X0 hx d1_10 (teq (by decide)).2 (o_iconst X0 hx d1_13 2 rfl ht_))))))
  obtain ⟨T2, h2, c2, X2, e2, E2, Ax2, Bx2, k2⟩ := o_newP X0 hx hZ k1 (hw 8 rfl) e0 (by decide) 2 (by decide) "[C" d1_14
  obtain ⟨b2, g2⟩ : ∃ z, z = h0.size := ⟨_, rfl⟩
  rw [← g2] at Ax2 Bx2 k2
  have g_b2 : n0 ≤ b2 := Nat.le_trans Z0 (Nat.le_of_eq g2.symm)
  have sz_b2 : h0.size ≤ b2 := Nat.le_trans KK.1 (Nat.le_of_eq g2.symm)
  have Zs2 := Nat.le_trans Z0 E2.1
  replace KK := KK.ext E2
  have Ex_b2 := Bx2
  have V_b2 : Arv Z h2 b2 c2 .char 2 [.int 0, .int 0] (.int 0) := (Arv.new Ax2 (by decide)).pad (pad_rep [] (.int 0) 2)
  have k3 := fun t_ ht_ => k2 t_ (o_dup X2 hx d1_16 rfl (o_iconst X2 hx d1_17 0 rfl (o_iloadN X2 hx d1_18 rfl ht_)))
  obtain ⟨T4, h4, X4, e4, W4, V_b2, k4⟩ := o_stC X2 hx hZ k3 e2 V_b2 0 [.int (nar .char c0p), .int 0] d1_19
  replace Ex_b2 := Ex_b2.wr W4
  have Zs4 := Nat.le_trans Zs2 (Keep.of_wr W4).1
  replace KK := KK.wr W4 (Or.inr sz_b2)
  have N4 := Fr.snoc X4 N0 g_b2
  have k5 := fun t_ ht_ => k4 t_ (o_dup X4 hx d1_20 rfl (o_iconst X4 hx d1_21 1 rfl (o_iloadN X4 hx d1_22 rfl ht_)))
  obtain ⟨T6, h6, X6, e6, W6, V_b2, k6⟩ := o_stC X4 hx hZ k5 e4 V_b2 1 [.int (nar .char c0p), .int (nar .char c1p)] d1_23
  replace Ex_b2 := Ex_b2.wr W6
  have Zs6 := Nat.le_trans Zs4 (Keep.of_wr W6).1
  replace KK := KK.wr W6 (Or.inr sz_b2)
  have N6 := Fr.snoc X6 N4 g_b2
  exact o_retA X6 hx k6 hlk hret rfl d1_24 (by rw [e6]; exact ⟨b2, c2, rfl, N6, KK, V_b2, sz_b2⟩)
theorem ef_14 (m : MethodId) (x0 x1 x2 x3 x4 x5 x6 x7 x8 : Int32) : entryFrame m #[.int x0, .int x1, .int x2, .int x3, .int x4, .int x5, .int x6, .int x7, .int x8] 9 = mkF m 0 #[Li x0, Li x1, Li x2, Li x3, Li x4, Li x5, Li x6, Li x7, Li x8] [] := by first | (simp [entryFrame, mkF, argsToLocals, Value.category]; done) | rfl
def Q14 (Z : State) (c0p c1p c2p c3p c4p c5p c6p c7p : Int32) (h0 : Heap) (n0 : Nat) (v : Option Value) (h : Heap) (L : List Loc) : Prop := ∃ (ar : Addr) (kc : ClassId), v = some (.ref ar) ∧ Fr n0 L ∧ Keep h0 h [] ∧ Arv Z h ar kc .char (3 : Int32) [.int (nar .char c0p), .int (nar .char c1p), .int (nar .char c2p)] (.int 0) ∧ h0.size ≤ ar
set_option maxRecDepth 65536 in
set_option maxHeartbeats 40000000 in
theorem rm14 (hw : own_W a0 Z) (c0p c1p c2p c3p c4p c5p c6p c7p : Int32) (h0 : Heap) (n0 : Nat) (Z0 : n0 ≤ h0.size) :
    own_M l Z yy1 q1 9 (some (.array .char)) ⟨0, 1, 3, 0⟩ #[.int 2, .int c0p, .int c1p, .int c2p, .int c3p, .int c4p, .int c5p, .int c6p, .int c7p] h0 [] (Q14 Z c0p c1p c2p c3p c4p c5p c6p c7p h0 n0) := by
  refine own_body (plainFor_of_name pn_0) ?_
  intro p e s m below meth c s₁ A hx hml hown hnm hlk hret hZ X0 e0 k0
  replace k0 := own_ent (ef_14 m 2 c0p c1p c2p c3p c4p c5p c6p c7p) k0
  have N0 := Fr.nil n0
  have KK : Keep h0 h0 [] := Keep.refl h0 []
  have k1 := fun t_ ht_ => k0 t_ (o_iloadN X0 hx d1_0 rfl (o_ifYes X0 hx d1_1 ((if0 _ _).trans (feq (by decide)).2) 8 (o_iloadN X0 hx d1_8 rfl (o_iconst X0 hx d1_9 1 rfl (o_icmpYes X0 hx d1_10 (feq (by decide)).2 25 (o_iloadN X0 hx d1_25 rfl (o_iconst X0 hx d1_26 2 rfl (o_icmpNo X0 hx d1_27 (teq (by decide)).2 (o_iconst X0 hx d1_30 3 rfl ht_)))))))))
  obtain ⟨T2, h2, c2, X2, e2, E2, Ax2, Bx2, k2⟩ := o_newP X0 hx hZ k1 (hw 8 rfl) e0 (by decide) 3 (by decide) "[C" d1_31
  obtain ⟨b2, g2⟩ : ∃ z, z = h0.size := ⟨_, rfl⟩
  rw [← g2] at Ax2 Bx2 k2
  have g_b2 : n0 ≤ b2 := Nat.le_trans Z0 (Nat.le_of_eq g2.symm)
  have sz_b2 : h0.size ≤ b2 := Nat.le_trans KK.1 (Nat.le_of_eq g2.symm)
  have Zs2 := Nat.le_trans Z0 E2.1
  replace KK := KK.ext E2
  have Ex_b2 := Bx2
  have V_b2 : Arv Z h2 b2 c2 .char 3 [.int 0, .int 0, .int 0] (.int 0) := (Arv.new Ax2 (by decide)).pad (pad_rep [] (.int 0) 3)
  have k3 := fun t_ ht_ => k2 t_ (o_dup X2 hx d1_33 rfl (o_iconst X2 hx d1_34 0 rfl (o_iloadN X2 hx d1_35 rfl ht_)))
  obtain ⟨T4, h4, X4, e4, W4, V_b2, k4⟩ := o_stC X2 hx hZ k3 e2 V_b2 0 [.int (nar .char c0p), .int 0, .int 0] d1_36
  replace Ex_b2 := Ex_b2.wr W4
  have Zs4 := Nat.le_trans Zs2 (Keep.of_wr W4).1
  replace KK := KK.wr W4 (Or.inr sz_b2)
  have N4 := Fr.snoc X4 N0 g_b2
  have k5 := fun t_ ht_ => k4 t_ (o_dup X4 hx d1_37 rfl (o_iconst X4 hx d1_38 1 rfl (o_iloadN X4 hx d1_39 rfl ht_)))
  obtain ⟨T6, h6, X6, e6, W6, V_b2, k6⟩ := o_stC X4 hx hZ k5 e4 V_b2 1 [.int (nar .char c0p), .int (nar .char c1p), .int 0] d1_40
  replace Ex_b2 := Ex_b2.wr W6
  have Zs6 := Nat.le_trans Zs4 (Keep.of_wr W6).1
  replace KK := KK.wr W6 (Or.inr sz_b2)
  have N6 := Fr.snoc X6 N4 g_b2
  have k7 := fun t_ ht_ => k6 t_ (o_dup X6 hx d1_41 rfl (o_iconst X6 hx d1_42 2 rfl (o_iloadN X6 hx d1_43 rfl ht_)))
  obtain ⟨T8, h8, X8, e8, W8, V_b2, k8⟩ := o_stC X6 hx hZ k7 e6 V_b2 2 [.int (nar .char c0p), .int (nar .char c1p), .int (nar .char c2p)] d1_44
  replace Ex_b2 := Ex_b2.wr W8
  have Zs8 := Nat.le_trans Zs6 (Keep.of_wr W8).1
  replace KK := KK.wr W8 (Or.inr sz_b2)
  have N8 := Fr.snoc X8 N6 g_b2
  exact o_retA X8 hx k8 hlk hret rfl d1_45 (by rw [e8]; exact ⟨b2, c2, rfl, N8, KK, V_b2, sz_b2⟩)
theorem ef_15 (m : MethodId) (x0 x1 x2 x3 x4 x5 x6 x7 x8 : Int32) : entryFrame m #[.int x0, .int x1, .int x2, .int x3, .int x4, .int x5, .int x6, .int x7, .int x8] 9 = mkF m 0 #[Li x0, Li x1, Li x2, Li x3, Li x4, Li x5, Li x6, Li x7, Li x8] [] := by first | (simp [entryFrame, mkF, argsToLocals, Value.category]; done) | rfl
def Q15 (Z : State) (c0p c1p c2p c3p c4p c5p c6p c7p : Int32) (h0 : Heap) (n0 : Nat) (v : Option Value) (h : Heap) (L : List Loc) : Prop := ∃ (ar : Addr) (kc : ClassId), v = some (.ref ar) ∧ Fr n0 L ∧ Keep h0 h [] ∧ Arv Z h ar kc .char (4 : Int32) [.int (nar .char c0p), .int (nar .char c1p), .int (nar .char c2p), .int (nar .char c3p)] (.int 0) ∧ h0.size ≤ ar
set_option maxRecDepth 65536 in
set_option maxHeartbeats 40000000 in
theorem rm15 (hw : own_W a0 Z) (c0p c1p c2p c3p c4p c5p c6p c7p : Int32) (h0 : Heap) (n0 : Nat) (Z0 : n0 ≤ h0.size) :
    own_M l Z yy1 q1 9 (some (.array .char)) ⟨0, 1, 4, 0⟩ #[.int 3, .int c0p, .int c1p, .int c2p, .int c3p, .int c4p, .int c5p, .int c6p, .int c7p] h0 [] (Q15 Z c0p c1p c2p c3p c4p c5p c6p c7p h0 n0) := by
  refine own_body (plainFor_of_name pn_0) ?_
  intro p e s m below meth c s₁ A hx hml hown hnm hlk hret hZ X0 e0 k0
  replace k0 := own_ent (ef_15 m 3 c0p c1p c2p c3p c4p c5p c6p c7p) k0
  have N0 := Fr.nil n0
  have KK : Keep h0 h0 [] := Keep.refl h0 []
  have k1 := fun t_ ht_ => k0 t_ (o_iloadN X0 hx d1_0 rfl (o_ifYes X0 hx d1_1 ((if0 _ _).trans (feq (by decide)).2) 8 (o_iloadN X0 hx d1_8 rfl (o_iconst X0 hx d1_9 1 rfl (o_icmpYes X0 hx d1_10 (feq (by decide)).2 25 (o_iloadN X0 hx d1_25 rfl (o_iconst X0 hx d1_26 2 rfl (o_icmpYes X0 hx d1_27 (feq (by decide)).2 46 (o_iloadN X0 hx d1_46 rfl (o_iconst X0 hx d1_47 3 rfl (o_icmpNo X0 hx d1_48 (teq (by decide)).2 (o_iconst X0 hx d1_51 4 rfl ht_))))))))))))
  obtain ⟨T2, h2, c2, X2, e2, E2, Ax2, Bx2, k2⟩ := o_newP X0 hx hZ k1 (hw 8 rfl) e0 (by decide) 4 (by decide) "[C" d1_52
  obtain ⟨b2, g2⟩ : ∃ z, z = h0.size := ⟨_, rfl⟩
  rw [← g2] at Ax2 Bx2 k2
  have g_b2 : n0 ≤ b2 := Nat.le_trans Z0 (Nat.le_of_eq g2.symm)
  have sz_b2 : h0.size ≤ b2 := Nat.le_trans KK.1 (Nat.le_of_eq g2.symm)
  have Zs2 := Nat.le_trans Z0 E2.1
  replace KK := KK.ext E2
  have Ex_b2 := Bx2
  have V_b2 : Arv Z h2 b2 c2 .char 4 [.int 0, .int 0, .int 0, .int 0] (.int 0) := (Arv.new Ax2 (by decide)).pad (pad_rep [] (.int 0) 4)
  have k3 := fun t_ ht_ => k2 t_ (o_dup X2 hx d1_54 rfl (o_iconst X2 hx d1_55 0 rfl (o_iloadN X2 hx d1_56 rfl ht_)))
  obtain ⟨T4, h4, X4, e4, W4, V_b2, k4⟩ := o_stC X2 hx hZ k3 e2 V_b2 0 [.int (nar .char c0p), .int 0, .int 0, .int 0] d1_57
  replace Ex_b2 := Ex_b2.wr W4
  have Zs4 := Nat.le_trans Zs2 (Keep.of_wr W4).1
  replace KK := KK.wr W4 (Or.inr sz_b2)
  have N4 := Fr.snoc X4 N0 g_b2
  have k5 := fun t_ ht_ => k4 t_ (o_dup X4 hx d1_58 rfl (o_iconst X4 hx d1_59 1 rfl (o_iloadN X4 hx d1_60 rfl ht_)))
  obtain ⟨T6, h6, X6, e6, W6, V_b2, k6⟩ := o_stC X4 hx hZ k5 e4 V_b2 1 [.int (nar .char c0p), .int (nar .char c1p), .int 0, .int 0] d1_61
  replace Ex_b2 := Ex_b2.wr W6
  have Zs6 := Nat.le_trans Zs4 (Keep.of_wr W6).1
  replace KK := KK.wr W6 (Or.inr sz_b2)
  have N6 := Fr.snoc X6 N4 g_b2
  have k7 := fun t_ ht_ => k6 t_ (o_dup X6 hx d1_62 rfl (o_iconst X6 hx d1_63 2 rfl (o_iloadN X6 hx d1_64 rfl ht_)))
  obtain ⟨T8, h8, X8, e8, W8, V_b2, k8⟩ := o_stC X6 hx hZ k7 e6 V_b2 2 [.int (nar .char c0p), .int (nar .char c1p), .int (nar .char c2p), .int 0] d1_65
  replace Ex_b2 := Ex_b2.wr W8
  have Zs8 := Nat.le_trans Zs6 (Keep.of_wr W8).1
  replace KK := KK.wr W8 (Or.inr sz_b2)
  have N8 := Fr.snoc X8 N6 g_b2
  have k9 := fun t_ ht_ => k8 t_ (o_dup X8 hx d1_66 rfl (o_iconst X8 hx d1_67 3 rfl (o_iload X8 hx d1_68 rfl ht_)))
  obtain ⟨T10, h10, X10, e10, W10, V_b2, k10⟩ := o_stC X8 hx hZ k9 e8 V_b2 3 [.int (nar .char c0p), .int (nar .char c1p), .int (nar .char c2p), .int (nar .char c3p)] d1_70
  replace Ex_b2 := Ex_b2.wr W10
  have Zs10 := Nat.le_trans Zs8 (Keep.of_wr W10).1
  replace KK := KK.wr W10 (Or.inr sz_b2)
  have N10 := Fr.snoc X10 N8 g_b2
  exact o_retA X10 hx k10 hlk hret rfl d1_71 (by rw [e10]; exact ⟨b2, c2, rfl, N10, KK, V_b2, sz_b2⟩)
theorem ef_16 (m : MethodId) (x0 x1 x2 x3 x4 x5 x6 x7 x8 : Int32) : entryFrame m #[.int x0, .int x1, .int x2, .int x3, .int x4, .int x5, .int x6, .int x7, .int x8] 9 = mkF m 0 #[Li x0, Li x1, Li x2, Li x3, Li x4, Li x5, Li x6, Li x7, Li x8] [] := by first | (simp [entryFrame, mkF, argsToLocals, Value.category]; done) | rfl
def Q16 (Z : State) (c0p c1p c2p c3p c4p c5p c6p c7p : Int32) (h0 : Heap) (n0 : Nat) (v : Option Value) (h : Heap) (L : List Loc) : Prop := ∃ (ar : Addr) (kc : ClassId), v = some (.ref ar) ∧ Fr n0 L ∧ Keep h0 h [] ∧ Arv Z h ar kc .char (6 : Int32) [.int (nar .char c0p), .int (nar .char c1p), .int (nar .char c2p), .int (nar .char c3p), .int (nar .char c4p), .int (nar .char c5p)] (.int 0) ∧ h0.size ≤ ar
set_option maxRecDepth 65536 in
set_option maxHeartbeats 40000000 in
theorem rm16 (hw : own_W a0 Z) (c0p c1p c2p c3p c4p c5p c6p c7p : Int32) (h0 : Heap) (n0 : Nat) (Z0 : n0 ≤ h0.size) :
    own_M l Z yy1 q1 9 (some (.array .char)) ⟨0, 1, 6, 0⟩ #[.int 4, .int c0p, .int c1p, .int c2p, .int c3p, .int c4p, .int c5p, .int c6p, .int c7p] h0 [] (Q16 Z c0p c1p c2p c3p c4p c5p c6p c7p h0 n0) := by
  refine own_body (plainFor_of_name pn_0) ?_
  intro p e s m below meth c s₁ A hx hml hown hnm hlk hret hZ X0 e0 k0
  replace k0 := own_ent (ef_16 m 4 c0p c1p c2p c3p c4p c5p c6p c7p) k0
  have N0 := Fr.nil n0
  have KK : Keep h0 h0 [] := Keep.refl h0 []
  have k1 := fun t_ ht_ => k0 t_ (o_iloadN X0 hx d1_0 rfl (o_ifYes X0 hx d1_1 ((if0 _ _).trans (feq (by decide)).2) 8 (o_iloadN X0 hx d1_8 rfl (o_iconst X0 hx d1_9 1 rfl (o_icmpYes X0 hx d1_10 (feq (by decide)).2 25 (o_iloadN X0 hx d1_25 rfl (o_iconst X0 hx d1_26 2 rfl (o_icmpYes X0 hx d1_27 (feq (by decide)).2 46 (o_iloadN X0 hx d1_46 rfl (o_iconst X0 hx d1_47 3 rfl (o_icmpYes X0 hx d1_48 (feq (by decide)).2 72 (o_iloadN X0 hx d1_72 rfl (o_iconst X0 hx d1_73 4 rfl (o_icmpNo X0 hx d1_74 (teq (by decide)).2 (o_bipush X0 hx d1_77 6 rfl ht_)))))))))))))))
  obtain ⟨T2, h2, c2, X2, e2, E2, Ax2, Bx2, k2⟩ := o_newP X0 hx hZ k1 (hw 8 rfl) e0 (by decide) 6 (by decide) "[C" d1_79
  obtain ⟨b2, g2⟩ : ∃ z, z = h0.size := ⟨_, rfl⟩
  rw [← g2] at Ax2 Bx2 k2
  have g_b2 : n0 ≤ b2 := Nat.le_trans Z0 (Nat.le_of_eq g2.symm)
  have sz_b2 : h0.size ≤ b2 := Nat.le_trans KK.1 (Nat.le_of_eq g2.symm)
  have Zs2 := Nat.le_trans Z0 E2.1
  replace KK := KK.ext E2
  have Ex_b2 := Bx2
  have V_b2 : Arv Z h2 b2 c2 .char 6 [.int 0, .int 0, .int 0, .int 0, .int 0, .int 0] (.int 0) := (Arv.new Ax2 (by decide)).pad (pad_rep [] (.int 0) 6)
  have k3 := fun t_ ht_ => k2 t_ (o_dup X2 hx d1_81 rfl (o_iconst X2 hx d1_82 0 rfl (o_iloadN X2 hx d1_83 rfl ht_)))
  obtain ⟨T4, h4, X4, e4, W4, V_b2, k4⟩ := o_stC X2 hx hZ k3 e2 V_b2 0 [.int (nar .char c0p), .int 0, .int 0, .int 0, .int 0, .int 0] d1_84
  replace Ex_b2 := Ex_b2.wr W4
  have Zs4 := Nat.le_trans Zs2 (Keep.of_wr W4).1
  replace KK := KK.wr W4 (Or.inr sz_b2)
  have N4 := Fr.snoc X4 N0 g_b2
  have k5 := fun t_ ht_ => k4 t_ (o_dup X4 hx d1_85 rfl (o_iconst X4 hx d1_86 1 rfl (o_iloadN X4 hx d1_87 rfl ht_)))
  obtain ⟨T6, h6, X6, e6, W6, V_b2, k6⟩ := o_stC X4 hx hZ k5 e4 V_b2 1 [.int (nar .char c0p), .int (nar .char c1p), .int 0, .int 0, .int 0, .int 0] d1_88
  replace Ex_b2 := Ex_b2.wr W6
  have Zs6 := Nat.le_trans Zs4 (Keep.of_wr W6).1
  replace KK := KK.wr W6 (Or.inr sz_b2)
  have N6 := Fr.snoc X6 N4 g_b2
  have k7 := fun t_ ht_ => k6 t_ (o_dup X6 hx d1_89 rfl (o_iconst X6 hx d1_90 2 rfl (o_iloadN X6 hx d1_91 rfl ht_)))
  obtain ⟨T8, h8, X8, e8, W8, V_b2, k8⟩ := o_stC X6 hx hZ k7 e6 V_b2 2 [.int (nar .char c0p), .int (nar .char c1p), .int (nar .char c2p), .int 0, .int 0, .int 0] d1_92
  replace Ex_b2 := Ex_b2.wr W8
  have Zs8 := Nat.le_trans Zs6 (Keep.of_wr W8).1
  replace KK := KK.wr W8 (Or.inr sz_b2)
  have N8 := Fr.snoc X8 N6 g_b2
  have k9 := fun t_ ht_ => k8 t_ (o_dup X8 hx d1_93 rfl (o_iconst X8 hx d1_94 3 rfl (o_iload X8 hx d1_95 rfl ht_)))
  obtain ⟨T10, h10, X10, e10, W10, V_b2, k10⟩ := o_stC X8 hx hZ k9 e8 V_b2 3 [.int (nar .char c0p), .int (nar .char c1p), .int (nar .char c2p), .int (nar .char c3p), .int 0, .int 0] d1_97
  replace Ex_b2 := Ex_b2.wr W10
  have Zs10 := Nat.le_trans Zs8 (Keep.of_wr W10).1
  replace KK := KK.wr W10 (Or.inr sz_b2)
  have N10 := Fr.snoc X10 N8 g_b2
  have k11 := fun t_ ht_ => k10 t_ (o_dup X10 hx d1_98 rfl (o_iconst X10 hx d1_99 4 rfl (o_iload X10 hx d1_100 rfl ht_)))
  obtain ⟨T12, h12, X12, e12, W12, V_b2, k12⟩ := o_stC X10 hx hZ k11 e10 V_b2 4 [.int (nar .char c0p), .int (nar .char c1p), .int (nar .char c2p), .int (nar .char c3p), .int (nar .char c4p), .int 0] d1_102
  replace Ex_b2 := Ex_b2.wr W12
  have Zs12 := Nat.le_trans Zs10 (Keep.of_wr W12).1
  replace KK := KK.wr W12 (Or.inr sz_b2)
  have N12 := Fr.snoc X12 N10 g_b2
  have k13 := fun t_ ht_ => k12 t_ (o_dup X12 hx d1_103 rfl (o_iconst X12 hx d1_104 5 rfl (o_iload X12 hx d1_105 rfl ht_)))
  obtain ⟨T14, h14, X14, e14, W14, V_b2, k14⟩ := o_stC X12 hx hZ k13 e12 V_b2 5 [.int (nar .char c0p), .int (nar .char c1p), .int (nar .char c2p), .int (nar .char c3p), .int (nar .char c4p), .int (nar .char c5p)] d1_107
  replace Ex_b2 := Ex_b2.wr W14
  have Zs14 := Nat.le_trans Zs12 (Keep.of_wr W14).1
  replace KK := KK.wr W14 (Or.inr sz_b2)
  have N14 := Fr.snoc X14 N12 g_b2
  exact o_retA X14 hx k14 hlk hret rfl d1_108 (by rw [e14]; exact ⟨b2, c2, rfl, N14, KK, V_b2, sz_b2⟩)
theorem ef_17 (m : MethodId) (x0 x1 x2 x3 x4 x5 x6 x7 x8 : Int32) : entryFrame m #[.int x0, .int x1, .int x2, .int x3, .int x4, .int x5, .int x6, .int x7, .int x8] 9 = mkF m 0 #[Li x0, Li x1, Li x2, Li x3, Li x4, Li x5, Li x6, Li x7, Li x8] [] := by first | (simp [entryFrame, mkF, argsToLocals, Value.category]; done) | rfl
def Q17 (Z : State) (c0p c1p c2p c3p c4p c5p c6p c7p : Int32) (h0 : Heap) (n0 : Nat) (v : Option Value) (h : Heap) (L : List Loc) : Prop := ∃ (ar : Addr) (kc : ClassId), v = some (.ref ar) ∧ Fr n0 L ∧ Keep h0 h [] ∧ Arv Z h ar kc .char (7 : Int32) [.int (nar .char c0p), .int (nar .char c1p), .int (nar .char c2p), .int (nar .char c3p), .int (nar .char c4p), .int (nar .char c5p), .int (nar .char c6p)] (.int 0) ∧ h0.size ≤ ar
set_option maxRecDepth 65536 in
set_option maxHeartbeats 40000000 in
theorem rm17 (hw : own_W a0 Z) (c0p c1p c2p c3p c4p c5p c6p c7p : Int32) (h0 : Heap) (n0 : Nat) (Z0 : n0 ≤ h0.size) :
    own_M l Z yy1 q1 9 (some (.array .char)) ⟨0, 1, 7, 0⟩ #[.int 5, .int c0p, .int c1p, .int c2p, .int c3p, .int c4p, .int c5p, .int c6p, .int c7p] h0 [] (Q17 Z c0p c1p c2p c3p c4p c5p c6p c7p h0 n0) := by
  refine own_body (plainFor_of_name pn_0) ?_
  intro p e s m below meth c s₁ A hx hml hown hnm hlk hret hZ X0 e0 k0
  replace k0 := own_ent (ef_17 m 5 c0p c1p c2p c3p c4p c5p c6p c7p) k0
  have N0 := Fr.nil n0
  have KK : Keep h0 h0 [] := Keep.refl h0 []
  have k1 := fun t_ ht_ => k0 t_ (o_iloadN X0 hx d1_0 rfl (o_ifYes X0 hx d1_1 ((if0 _ _).trans (feq (by decide)).2) 8 (o_iloadN X0 hx d1_8 rfl (o_iconst X0 hx d1_9 1 rfl (o_icmpYes X0 hx d1_10 (feq (by decide)).2 25 (o_iloadN X0 hx d1_25 rfl (o_iconst X0 hx d1_26 2 rfl (o_icmpYes X0 hx d1_27 (feq (by decide)).2 46 (o_iloadN X0 hx d1_46 rfl (o_iconst X0 hx d1_47 3 rfl (o_icmpYes X0 hx d1_48 (feq (by decide)).2 72 (o_iloadN X0 hx d1_72 rfl (o_iconst X0 hx d1_73 4 rfl (o_icmpYes X0 hx d1_74 (feq (by decide)).2 109 (o_iloadN X0 hx d1_109 rfl (o_iconst X0 hx d1_110 5 rfl (o_icmpNo X0 hx d1_111 (teq (by decide)).2 (o_bipush X0 hx d1_114 7 rfl ht_))))))))))))))))))
  obtain ⟨T2, h2, c2, X2, e2, E2, Ax2, Bx2, k2⟩ := o_newP X0 hx hZ k1 (hw 8 rfl) e0 (by decide) 7 (by decide) "[C" d1_116
  obtain ⟨b2, g2⟩ : ∃ z, z = h0.size := ⟨_, rfl⟩
  rw [← g2] at Ax2 Bx2 k2
  have g_b2 : n0 ≤ b2 := Nat.le_trans Z0 (Nat.le_of_eq g2.symm)
  have sz_b2 : h0.size ≤ b2 := Nat.le_trans KK.1 (Nat.le_of_eq g2.symm)
  have Zs2 := Nat.le_trans Z0 E2.1
  replace KK := KK.ext E2
  have Ex_b2 := Bx2
  have V_b2 : Arv Z h2 b2 c2 .char 7 [.int 0, .int 0, .int 0, .int 0, .int 0, .int 0, .int 0] (.int 0) := (Arv.new Ax2 (by decide)).pad (pad_rep [] (.int 0) 7)
  have k3 := fun t_ ht_ => k2 t_ (o_dup X2 hx d1_118 rfl (o_iconst X2 hx d1_119 0 rfl (o_iloadN X2 hx d1_120 rfl ht_)))
  obtain ⟨T4, h4, X4, e4, W4, V_b2, k4⟩ := o_stC X2 hx hZ k3 e2 V_b2 0 [.int (nar .char c0p), .int 0, .int 0, .int 0, .int 0, .int 0, .int 0] d1_121
  replace Ex_b2 := Ex_b2.wr W4
  have Zs4 := Nat.le_trans Zs2 (Keep.of_wr W4).1
  replace KK := KK.wr W4 (Or.inr sz_b2)
  have N4 := Fr.snoc X4 N0 g_b2
  have k5 := fun t_ ht_ => k4 t_ (o_dup X4 hx d1_122 rfl (o_iconst X4 hx d1_123 1 rfl (o_iloadN X4 hx d1_124 rfl ht_)))
  obtain ⟨T6, h6, X6, e6, W6, V_b2, k6⟩ := o_stC X4 hx hZ k5 e4 V_b2 1 [.int (nar .char c0p), .int (nar .char c1p), .int 0, .int 0, .int 0, .int 0, .int 0] d1_125
  replace Ex_b2 := Ex_b2.wr W6
  have Zs6 := Nat.le_trans Zs4 (Keep.of_wr W6).1
  replace KK := KK.wr W6 (Or.inr sz_b2)
  have N6 := Fr.snoc X6 N4 g_b2
  have k7 := fun t_ ht_ => k6 t_ (o_dup X6 hx d1_126 rfl (o_iconst X6 hx d1_127 2 rfl (o_iloadN X6 hx d1_128 rfl ht_)))
  obtain ⟨T8, h8, X8, e8, W8, V_b2, k8⟩ := o_stC X6 hx hZ k7 e6 V_b2 2 [.int (nar .char c0p), .int (nar .char c1p), .int (nar .char c2p), .int 0, .int 0, .int 0, .int 0] d1_129
  replace Ex_b2 := Ex_b2.wr W8
  have Zs8 := Nat.le_trans Zs6 (Keep.of_wr W8).1
  replace KK := KK.wr W8 (Or.inr sz_b2)
  have N8 := Fr.snoc X8 N6 g_b2
  have k9 := fun t_ ht_ => k8 t_ (o_dup X8 hx d1_130 rfl (o_iconst X8 hx d1_131 3 rfl (o_iload X8 hx d1_132 rfl ht_)))
  obtain ⟨T10, h10, X10, e10, W10, V_b2, k10⟩ := o_stC X8 hx hZ k9 e8 V_b2 3 [.int (nar .char c0p), .int (nar .char c1p), .int (nar .char c2p), .int (nar .char c3p), .int 0, .int 0, .int 0] d1_134
  replace Ex_b2 := Ex_b2.wr W10
  have Zs10 := Nat.le_trans Zs8 (Keep.of_wr W10).1
  replace KK := KK.wr W10 (Or.inr sz_b2)
  have N10 := Fr.snoc X10 N8 g_b2
  have k11 := fun t_ ht_ => k10 t_ (o_dup X10 hx d1_135 rfl (o_iconst X10 hx d1_136 4 rfl (o_iload X10 hx d1_137 rfl ht_)))
  obtain ⟨T12, h12, X12, e12, W12, V_b2, k12⟩ := o_stC X10 hx hZ k11 e10 V_b2 4 [.int (nar .char c0p), .int (nar .char c1p), .int (nar .char c2p), .int (nar .char c3p), .int (nar .char c4p), .int 0, .int 0] d1_139
  replace Ex_b2 := Ex_b2.wr W12
  have Zs12 := Nat.le_trans Zs10 (Keep.of_wr W12).1
  replace KK := KK.wr W12 (Or.inr sz_b2)
  have N12 := Fr.snoc X12 N10 g_b2
  have k13 := fun t_ ht_ => k12 t_ (o_dup X12 hx d1_140 rfl (o_iconst X12 hx d1_141 5 rfl (o_iload X12 hx d1_142 rfl ht_)))
  obtain ⟨T14, h14, X14, e14, W14, V_b2, k14⟩ := o_stC X12 hx hZ k13 e12 V_b2 5 [.int (nar .char c0p), .int (nar .char c1p), .int (nar .char c2p), .int (nar .char c3p), .int (nar .char c4p), .int (nar .char c5p), .int 0] d1_144
  replace Ex_b2 := Ex_b2.wr W14
  have Zs14 := Nat.le_trans Zs12 (Keep.of_wr W14).1
  replace KK := KK.wr W14 (Or.inr sz_b2)
  have N14 := Fr.snoc X14 N12 g_b2
  have k15 := fun t_ ht_ => k14 t_ (o_dup X14 hx d1_145 rfl (o_bipush X14 hx d1_146 6 rfl (o_iload X14 hx d1_148 rfl ht_)))
  obtain ⟨T16, h16, X16, e16, W16, V_b2, k16⟩ := o_stC X14 hx hZ k15 e14 V_b2 6 [.int (nar .char c0p), .int (nar .char c1p), .int (nar .char c2p), .int (nar .char c3p), .int (nar .char c4p), .int (nar .char c5p), .int (nar .char c6p)] d1_150
  replace Ex_b2 := Ex_b2.wr W16
  have Zs16 := Nat.le_trans Zs14 (Keep.of_wr W16).1
  replace KK := KK.wr W16 (Or.inr sz_b2)
  have N16 := Fr.snoc X16 N14 g_b2
  exact o_retA X16 hx k16 hlk hret rfl d1_151 (by rw [e16]; exact ⟨b2, c2, rfl, N16, KK, V_b2, sz_b2⟩)
theorem ef_18 (m : MethodId) (x0 x1 x2 x3 x4 x5 x6 x7 x8 : Int32) : entryFrame m #[.int x0, .int x1, .int x2, .int x3, .int x4, .int x5, .int x6, .int x7, .int x8] 9 = mkF m 0 #[Li x0, Li x1, Li x2, Li x3, Li x4, Li x5, Li x6, Li x7, Li x8] [] := by first | (simp [entryFrame, mkF, argsToLocals, Value.category]; done) | rfl
def Q18 (Z : State) (c0p c1p c2p c3p c4p c5p c6p c7p : Int32) (h0 : Heap) (n0 : Nat) (v : Option Value) (h : Heap) (L : List Loc) : Prop := ∃ (ar : Addr) (kc : ClassId), v = some (.ref ar) ∧ Fr n0 L ∧ Keep h0 h [] ∧ Arv Z h ar kc .char (8 : Int32) [.int (nar .char c0p), .int (nar .char c1p), .int (nar .char c2p), .int (nar .char c3p), .int (nar .char c4p), .int (nar .char c5p), .int (nar .char c6p), .int (nar .char c7p)] (.int 0) ∧ h0.size ≤ ar
set_option maxRecDepth 65536 in
set_option maxHeartbeats 40000000 in
theorem rm18 (hw : own_W a0 Z) (c0p c1p c2p c3p c4p c5p c6p c7p : Int32) (h0 : Heap) (n0 : Nat) (Z0 : n0 ≤ h0.size) :
    own_M l Z yy1 q1 9 (some (.array .char)) ⟨0, 1, 8, 0⟩ #[.int 6, .int c0p, .int c1p, .int c2p, .int c3p, .int c4p, .int c5p, .int c6p, .int c7p] h0 [] (Q18 Z c0p c1p c2p c3p c4p c5p c6p c7p h0 n0) := by
  refine own_body (plainFor_of_name pn_0) ?_
  intro p e s m below meth c s₁ A hx hml hown hnm hlk hret hZ X0 e0 k0
  replace k0 := own_ent (ef_18 m 6 c0p c1p c2p c3p c4p c5p c6p c7p) k0
  have N0 := Fr.nil n0
  have KK : Keep h0 h0 [] := Keep.refl h0 []
  have k1 := fun t_ ht_ => k0 t_ (o_iloadN X0 hx d1_0 rfl (o_ifYes X0 hx d1_1 ((if0 _ _).trans (feq (by decide)).2) 8 (o_iloadN X0 hx d1_8 rfl (o_iconst X0 hx d1_9 1 rfl (o_icmpYes X0 hx d1_10 (feq (by decide)).2 25 (o_iloadN X0 hx d1_25 rfl (o_iconst X0 hx d1_26 2 rfl (o_icmpYes X0 hx d1_27 (feq (by decide)).2 46 (o_iloadN X0 hx d1_46 rfl (o_iconst X0 hx d1_47 3 rfl (o_icmpYes X0 hx d1_48 (feq (by decide)).2 72 (o_iloadN X0 hx d1_72 rfl (o_iconst X0 hx d1_73 4 rfl (o_icmpYes X0 hx d1_74 (feq (by decide)).2 109 (o_iloadN X0 hx d1_109 rfl (o_iconst X0 hx d1_110 5 rfl (o_icmpYes X0 hx d1_111 (feq (by decide)).2 152 (o_bipush X0 hx d1_152 8 rfl ht_))))))))))))))))))
  obtain ⟨T2, h2, c2, X2, e2, E2, Ax2, Bx2, k2⟩ := o_newP X0 hx hZ k1 (hw 8 rfl) e0 (by decide) 8 (by decide) "[C" d1_154
  obtain ⟨b2, g2⟩ : ∃ z, z = h0.size := ⟨_, rfl⟩
  rw [← g2] at Ax2 Bx2 k2
  have g_b2 : n0 ≤ b2 := Nat.le_trans Z0 (Nat.le_of_eq g2.symm)
  have sz_b2 : h0.size ≤ b2 := Nat.le_trans KK.1 (Nat.le_of_eq g2.symm)
  have Zs2 := Nat.le_trans Z0 E2.1
  replace KK := KK.ext E2
  have Ex_b2 := Bx2
  have V_b2 : Arv Z h2 b2 c2 .char 8 [.int 0, .int 0, .int 0, .int 0, .int 0, .int 0, .int 0, .int 0] (.int 0) := (Arv.new Ax2 (by decide)).pad (pad_rep [] (.int 0) 8)
  have k3 := fun t_ ht_ => k2 t_ (o_dup X2 hx d1_156 rfl (o_iconst X2 hx d1_157 0 rfl (o_iloadN X2 hx d1_158 rfl ht_)))
  obtain ⟨T4, h4, X4, e4, W4, V_b2, k4⟩ := o_stC X2 hx hZ k3 e2 V_b2 0 [.int (nar .char c0p), .int 0, .int 0, .int 0, .int 0, .int 0, .int 0, .int 0] d1_159
  replace Ex_b2 := Ex_b2.wr W4
  have Zs4 := Nat.le_trans Zs2 (Keep.of_wr W4).1
  replace KK := KK.wr W4 (Or.inr sz_b2)
  have N4 := Fr.snoc X4 N0 g_b2
  have k5 := fun t_ ht_ => k4 t_ (o_dup X4 hx d1_160 rfl (o_iconst X4 hx d1_161 1 rfl (o_iloadN X4 hx d1_162 rfl ht_)))
  obtain ⟨T6, h6, X6, e6, W6, V_b2, k6⟩ := o_stC X4 hx hZ k5 e4 V_b2 1 [.int (nar .char c0p), .int (nar .char c1p), .int 0, .int 0, .int 0, .int 0, .int 0, .int 0] d1_163
  replace Ex_b2 := Ex_b2.wr W6
  have Zs6 := Nat.le_trans Zs4 (Keep.of_wr W6).1
  replace KK := KK.wr W6 (Or.inr sz_b2)
  have N6 := Fr.snoc X6 N4 g_b2
  have k7 := fun t_ ht_ => k6 t_ (o_dup X6 hx d1_164 rfl (o_iconst X6 hx d1_165 2 rfl (o_iloadN X6 hx d1_166 rfl ht_)))
  obtain ⟨T8, h8, X8, e8, W8, V_b2, k8⟩ := o_stC X6 hx hZ k7 e6 V_b2 2 [.int (nar .char c0p), .int (nar .char c1p), .int (nar .char c2p), .int 0, .int 0, .int 0, .int 0, .int 0] d1_167
  replace Ex_b2 := Ex_b2.wr W8
  have Zs8 := Nat.le_trans Zs6 (Keep.of_wr W8).1
  replace KK := KK.wr W8 (Or.inr sz_b2)
  have N8 := Fr.snoc X8 N6 g_b2
  have k9 := fun t_ ht_ => k8 t_ (o_dup X8 hx d1_168 rfl (o_iconst X8 hx d1_169 3 rfl (o_iload X8 hx d1_170 rfl ht_)))
  obtain ⟨T10, h10, X10, e10, W10, V_b2, k10⟩ := o_stC X8 hx hZ k9 e8 V_b2 3 [.int (nar .char c0p), .int (nar .char c1p), .int (nar .char c2p), .int (nar .char c3p), .int 0, .int 0, .int 0, .int 0] d1_172
  replace Ex_b2 := Ex_b2.wr W10
  have Zs10 := Nat.le_trans Zs8 (Keep.of_wr W10).1
  replace KK := KK.wr W10 (Or.inr sz_b2)
  have N10 := Fr.snoc X10 N8 g_b2
  have k11 := fun t_ ht_ => k10 t_ (o_dup X10 hx d1_173 rfl (o_iconst X10 hx d1_174 4 rfl (o_iload X10 hx d1_175 rfl ht_)))
  obtain ⟨T12, h12, X12, e12, W12, V_b2, k12⟩ := o_stC X10 hx hZ k11 e10 V_b2 4 [.int (nar .char c0p), .int (nar .char c1p), .int (nar .char c2p), .int (nar .char c3p), .int (nar .char c4p), .int 0, .int 0, .int 0] d1_177
  replace Ex_b2 := Ex_b2.wr W12
  have Zs12 := Nat.le_trans Zs10 (Keep.of_wr W12).1
  replace KK := KK.wr W12 (Or.inr sz_b2)
  have N12 := Fr.snoc X12 N10 g_b2
  have k13 := fun t_ ht_ => k12 t_ (o_dup X12 hx d1_178 rfl (o_iconst X12 hx d1_179 5 rfl (o_iload X12 hx d1_180 rfl ht_)))
  obtain ⟨T14, h14, X14, e14, W14, V_b2, k14⟩ := o_stC X12 hx hZ k13 e12 V_b2 5 [.int (nar .char c0p), .int (nar .char c1p), .int (nar .char c2p), .int (nar .char c3p), .int (nar .char c4p), .int (nar .char c5p), .int 0, .int 0] d1_182
  replace Ex_b2 := Ex_b2.wr W14
  have Zs14 := Nat.le_trans Zs12 (Keep.of_wr W14).1
  replace KK := KK.wr W14 (Or.inr sz_b2)
  have N14 := Fr.snoc X14 N12 g_b2
  have k15 := fun t_ ht_ => k14 t_ (o_dup X14 hx d1_183 rfl (o_bipush X14 hx d1_184 6 rfl (o_iload X14 hx d1_186 rfl ht_)))
  obtain ⟨T16, h16, X16, e16, W16, V_b2, k16⟩ := o_stC X14 hx hZ k15 e14 V_b2 6 [.int (nar .char c0p), .int (nar .char c1p), .int (nar .char c2p), .int (nar .char c3p), .int (nar .char c4p), .int (nar .char c5p), .int (nar .char c6p), .int 0] d1_188
  replace Ex_b2 := Ex_b2.wr W16
  have Zs16 := Nat.le_trans Zs14 (Keep.of_wr W16).1
  replace KK := KK.wr W16 (Or.inr sz_b2)
  have N16 := Fr.snoc X16 N14 g_b2
  have k17 := fun t_ ht_ => k16 t_ (o_dup X16 hx d1_189 rfl (o_bipush X16 hx d1_190 7 rfl (o_iload X16 hx d1_192 rfl ht_)))
  obtain ⟨T18, h18, X18, e18, W18, V_b2, k18⟩ := o_stC X16 hx hZ k17 e16 V_b2 7 [.int (nar .char c0p), .int (nar .char c1p), .int (nar .char c2p), .int (nar .char c3p), .int (nar .char c4p), .int (nar .char c5p), .int (nar .char c6p), .int (nar .char c7p)] d1_194
  replace Ex_b2 := Ex_b2.wr W18
  have Zs18 := Nat.le_trans Zs16 (Keep.of_wr W18).1
  replace KK := KK.wr W18 (Or.inr sz_b2)
  have N18 := Fr.snoc X18 N16 g_b2
  exact o_retA X18 hx k18 hlk hret rfl d1_195 (by rw [e18]; exact ⟨b2, c2, rfl, N18, KK, V_b2, sz_b2⟩)
theorem ef_19 (m : MethodId) (x0 : Addr) : entryFrame m #[.ref x0] 1 = mkF m 0 #[Lr x0] [] := by first | (simp [entryFrame, mkF, argsToLocals, Value.category]; done) | rfl
def Q19 (Z : State) (a1 dco eno iso utf tbd tbe : Addr) (kd ke : ClassId) (G1 : Int32) (fm : Value) (h0 : Heap) (n0 : Nat) (v : Option Value) (h : Heap) (L : List Loc) : Prop := v = some (.int 0) ∧ Fr n0 L ∧ h = h0
set_option maxRecDepth 65536 in
set_option maxHeartbeats 40000000 in
theorem rm19 (hw : own_W a0 Z) (a1 dco eno iso utf tbd tbe : Addr) (kd ke : ClassId) (G1 : Int32) (fm : Value) (h0 : Heap) (n0 : Nat) (Z0 : n0 ≤ h0.size) (hG : own_G Z dco eno iso utf tbd tbe kd ke G1 fm) (X00 : Old Z n0 h0) (Fc : Fld Z h0 a1 "java/lang/String" "coder" "B" (.int 0)) :
    own_M l Z yy2 q2 1 (some .byte) ⟨0, 0, 0, 0⟩ #[.ref a1] h0 [] (Q19 Z a1 dco eno iso utf tbd tbe kd ke G1 fm h0 n0) := by
  refine own_body (plainFor_of_name pn_1) ?_
  intro p e s m below meth c s₁ A hx hml hown hnm hlk hret hZ X0 e0 k0
  replace k0 := own_ent (ef_19 m a1) k0
  have N0 := Fr.nil n0
  obtain ⟨sD, sE, eD, eE, fDu, fDm, fEp, fEl, fEu, sI, sU, iu, sTd, sTe, aTd, aTe, sC, gC, sS, fmr⟩ := id hG
  obtain ⟨T1, X1, e1, k1⟩ := o_getS X0 hx hZ k0 hown (host := "") (Or.inl (hw 22 rfl)) Via.refl e0 (sC.ext X00.2) d2_0
  have k2 := fun t_ ht_ => k1 t_ (o_ifNo X1 hx d2_3 ((if0 _ _).trans (feq (gC)).1) (o_aloadN X1 hx d2_6 rfl rfl ht_))
  obtain ⟨T3, X3, e3, k3⟩ := o_getF X1 hx hZ k2 hown (host := "") (Or.inl (hw 34 rfl)) Via.refl e1 Fc d2_7
  have k4 := fun t_ ht_ => k3 t_ (o_goto X3 hx d2_10 14 ht_)
  exact o_retN X3 hx k4 hlk hret (by simp) d2_14 (by rw [e3]; exact ⟨rfl, N0, rfl⟩)
theorem ef_20 (m : MethodId) (x0 : Int32) (x1 : Addr) (x2 : Int32) : entryFrame m #[.int x0, .ref x1, .int x2] 10 = mkF m 0 #[Li x0, Lr x1, Li x2, Lu, Lu, Lu, Lu, Lu, Lu, Lu] [] := by first | (simp [entryFrame, mkF, argsToLocals, Value.category]; done) | rfl
def Q20 (Z : State) (ar : Addr) (kb : ClassId) (Nb : Int32) (vs : List Value) (h0 : Heap) (n0 : Nat) (v : Option Value) (h : Heap) (L : List Loc) : Prop := ∃ (cr : Addr), v = some (.ref cr) ∧ Fr n0 L ∧ Keep h0 h [] ∧ Arv Z h cr kb .byte Nb vs (.int 0) ∧ Exa Z h cr "[B" ∧ h0.size ≤ cr
set_option maxRecDepth 65536 in
set_option maxHeartbeats 40000000 in
theorem rm20 (hw : own_W a0 Z) (ar : Addr) (kb : ClassId) (Nb : Int32) (vs : List Value) (h0 : Heap) (n0 : Nat) (Z0 : n0 ≤ h0.size) (Va : Arv Z h0 ar kb .byte Nb vs (.int 0)) (Ea : Exa Z h0 ar "[B") (hN : Nb.toNatClampNeg ≤ 8) :
    own_M l Z yy3 q3 10 (some (.array .byte)) ⟨1, 1, 8, 14⟩ #[.int 0, .ref ar, .int 1] h0 [] (Q20 Z ar kb Nb vs h0 n0) := by
  refine own_body (plainFor_of_name pn_1) ?_
  intro p e s m below meth c s₁ A hx hml hown hnm hlk hret hZ X0 e0 k0
  replace k0 := own_ent (ef_20 m 0 ar 1) k0
  have N0 := Fr.nil n0
  have KK : Keep h0 h0 [] := Keep.refl h0 []
  have k1 := fun t_ ht_ => k0 t_ (o_iloadN X0 hx d3_0 rfl (o_ifNo X0 hx d3_1 ((if0 _ _).trans (teq (by decide)).2) (o_aloadN X0 hx d3_4 rfl rfl ht_)))
  obtain ⟨T2, h2, X2, e2, E2, Ax2, Bx2, k2⟩ := o_clone X0 hx hZ k1 hown (hw 74 rfl) (hw 75 rfl) (hw 79 rfl) (hw 77 rfl) (hw 78 rfl) (hw 80 rfl) e0 Va Ea d3_5 hml 0 8 hN
  obtain ⟨b2, g2⟩ : ∃ z, z = h0.size := ⟨_, rfl⟩
  rw [← g2] at Ax2 Bx2 k2
  have ne_ar_b2 : ar ≠ b2 := Nat.ne_of_lt (Nat.lt_of_lt_of_le Va.lt (Nat.le_of_eq g2.symm))
  have g_b2 : n0 ≤ b2 := Nat.le_trans Z0 (Nat.le_of_eq g2.symm)
  have sz_b2 : h0.size ≤ b2 := Nat.le_trans KK.1 (Nat.le_of_eq g2.symm)
  replace Va := Va.ext E2
  replace Ea := Ea.ext E2
  have Zs2 := Nat.le_trans Z0 E2.1
  replace KK := KK.ext E2
  have V_b2 := Ax2
  have Ex_b2 := Bx2
  obtain ⟨T3, X3, e3, k3⟩ := o_cast X2 hx hZ k2 hown (hw 81 rfl) e2 (Ins.self Ex_b2) d3_8
  exact o_retA X3 hx k3 hlk hret rfl d3_11 (by rw [e3]; exact ⟨b2, rfl, N0, KK, V_b2, Ex_b2, sz_b2⟩)
theorem ef_21 (m : MethodId) (x0 : Int32) (x1 : Addr) : entryFrame m #[.int x0, .ref x1] 2 = mkF m 0 #[Li x0, Lr x1] [] := by first | (simp [entryFrame, mkF, argsToLocals, Value.category]; done) | rfl
def Q21 (Z : State) (ar : Addr) (kb : ClassId) (Nb : Int32) (vs : List Value) (h0 : Heap) (n0 : Nat) (v : Option Value) (h : Heap) (L : List Loc) : Prop := ∃ (cr : Addr), v = some (.ref cr) ∧ Fr n0 L ∧ Keep h0 h [] ∧ Arv Z h cr kb .byte Nb vs (.int 0) ∧ Exa Z h cr "[B" ∧ h0.size ≤ cr
set_option maxRecDepth 65536 in
set_option maxHeartbeats 40000000 in
theorem rm21 (hw : own_W a0 Z) (ar : Addr) (kb : ClassId) (Nb : Int32) (vs : List Value) (h0 : Heap) (n0 : Nat) (Z0 : n0 ≤ h0.size) (Va : Arv Z h0 ar kb .byte Nb vs (.int 0)) (Ea : Exa Z h0 ar "[B") (hN : Nb.toNatClampNeg ≤ 8) :
    own_M l Z yy4 q4 2 (some (.array .byte)) ⟨2, 1, 8, 35⟩ #[.int 0, .ref ar] h0 [] (Q21 Z ar kb Nb vs h0 n0) := by
  refine own_body (plainFor_of_name pn_1) ?_
  intro p e s m below meth c s₁ A hx hml hown hnm hlk hret hZ X0 e0 k0
  replace k0 := own_ent (ef_21 m 0 ar) k0
  have N0 := Fr.nil n0
  have KK : Keep h0 h0 [] := Keep.refl h0 []
  have k1 := fun t_ ht_ => k0 t_ (o_iloadN X0 hx d4_0 rfl (o_aloadN X0 hx d4_1 rfl rfl (o_iconst X0 hx d4_2 1 rfl ht_)))
  obtain ⟨_, T2, Lc2, X2, hQ2, k2⟩ := o_callSM X0 hx hZ k1 yy3 hown (hw 71 rfl) (hw 72 rfl) (hw 11 rfl) (hw 73 rfl) (rm20 hw ar kb Nb vs h0 n0 Z0 Va Ea hN) 0 [.int 0, .ref ar, .int 1] [] (lenOf pd_0 rfl) hml e0 d4_3
  obtain ⟨cr, rfl, Nq2, K1, V1, E1, G1_⟩ := hQ2
  have N2 := Fr.app N0 Nq2
  replace k2 := own_pushR k2
  replace Va := Va.keep K1 (by simp)
  replace Ea := Ea.keep K1
  have Zs2 := Nat.le_trans Z0 K1.1
  replace KK := KK.trans K1 (fun x q => nomatch q)
  exact o_retA X2 hx k2 hlk hret rfl d4_6 (by exact ⟨cr, rfl, N2, KK, V1, E1, G1_⟩)
theorem ef_22 (m : MethodId) (x0 : Addr) (x1 : Int32) (x2 : Addr) : entryFrame m #[.ref x0, .int x1, .ref x2] 3 = mkF m 0 #[Lr x0, Li x1, Lr x2] [] := by first | (simp [entryFrame, mkF, argsToLocals, Value.category]; done) | rfl
def Q22 (Z : State) (iso ar dco eno utf tbd tbe : Addr) (kd ke : ClassId) (G1 : Int32) (fm : Value) (kb : ClassId) (Nb : Int32) (vs : List Value) (h0 : Heap) (n0 : Nat) (v : Option Value) (h : Heap) (L : List Loc) : Prop := ∃ (cr : Addr), v = some (.ref cr) ∧ Fr n0 L ∧ Keep h0 h [] ∧ Arv Z h cr kb .byte Nb vs (.int 0) ∧ Exa Z h cr "[B" ∧ h0.size ≤ cr
set_option maxRecDepth 65536 in
set_option maxHeartbeats 40000000 in
theorem rm22 (hw : own_W a0 Z) (iso ar dco eno utf tbd tbe : Addr) (kd ke : ClassId) (G1 : Int32) (fm : Value) (kb : ClassId) (Nb : Int32) (vs : List Value) (h0 : Heap) (n0 : Nat) (Z0 : n0 ≤ h0.size) (hG : own_G Z dco eno iso utf tbd tbe kd ke G1 fm) (X00 : Old Z n0 h0) (Va : Arv Z h0 ar kb .byte Nb vs (.int 0)) (Ea : Exa Z h0 ar "[B") (hN : Nb.toNatClampNeg ≤ 8) :
    own_M l Z yy5 q5 3 (some (.array .byte)) ⟨3, 1, 8, 48⟩ #[.ref iso, .int 0, .ref ar] h0 [] (Q22 Z iso ar dco eno utf tbd tbe kd ke G1 fm kb Nb vs h0 n0) := by
  refine own_body (plainFor_of_name pn_1) ?_
  intro p e s m below meth c s₁ A hx hml hown hnm hlk hret hZ X0 e0 k0
  replace k0 := own_ent (ef_22 m iso 0 ar) k0
  have N0 := Fr.nil n0
  have KK : Keep h0 h0 [] := Keep.refl h0 []
  obtain ⟨sD, sE, eD, eE, fDu, fDm, fEp, fEl, fEu, sI, sU, iu, sTd, sTe, aTd, aTe, sC, gC, sS, fmr⟩ := id hG
  have k1 := fun t_ ht_ => k0 t_ (o_aloadN X0 hx d5_0 rfl rfl ht_)
  obtain ⟨T2, X2, e2, k2⟩ := o_getS X0 hx hZ k1 hown (host := "") (Or.inl (hw 65 rfl)) Via.refl e0 (sU.ext X00.2) d5_1
  have k3 := fun t_ ht_ => k2 t_ (o_acmp X2 hx d5_4 rfl rfl (same := false) (decide_eq_false (fun q => iu (Value.ref.inj q))) (by decide) (by decide : 14 = _) (o_aloadN X2 hx d5_14 rfl rfl ht_))
  obtain ⟨T4, X4, e4, k4⟩ := o_getS X2 hx hZ k3 hown (host := "") (Or.inl (hw 67 rfl)) Via.refl e2 (sI.ext X00.2) d5_15
  have k5 := fun t_ ht_ => k4 t_ (o_acmp X4 hx d5_18 rfl rfl (same := true) (decide_eq_true rfl) (by decide) (by decide : 21 = _) (o_iloadN X4 hx d5_21 rfl (o_aloadN X4 hx d5_22 rfl rfl ht_)))
  obtain ⟨_, T6, Lc6, X6, hQ6, k6⟩ := o_callSM X4 hx hZ k5 yy4 hown (hw 68 rfl) (hw 69 rfl) (hw 11 rfl) (hw 70 rfl) (rm21 hw ar kb Nb vs h0 n0 Z0 Va Ea hN) 0 [.int 0, .ref ar] [] (lenOf pd_1 rfl) hml e4 d5_23
  obtain ⟨cr, rfl, Nq6, K1, V1, E1, G1_⟩ := hQ6
  have N6 := Fr.app N0 Nq6
  replace k6 := own_pushR k6
  replace X00 := X00.keep K1 (by simp)
  replace Va := Va.keep K1 (by simp)
  replace Ea := Ea.keep K1
  have Zs6 := Nat.le_trans Z0 K1.1
  replace KK := KK.trans K1 (fun x q => nomatch q)
  exact o_retA X6 hx k6 hlk hret rfl d5_26 (by exact ⟨cr, rfl, N6, KK, V1, E1, G1_⟩)
theorem ef_23 (m : MethodId) (x0 x1 : Addr) : entryFrame m #[.ref x0, .ref x1] 2 = mkF m 0 #[Lr x0, Lr x1] [] := by first | (simp [entryFrame, mkF, argsToLocals, Value.category]; done) | rfl
def Q23 (Z : State) (a1 iso dco eno utf tbd tbe : Addr) (kd ke : ClassId) (G1 : Int32) (fm : Value) (ar : Addr) (kb : ClassId) (Nb : Int32) (vs : List Value) (h0 : Heap) (n0 : Nat) (v : Option Value) (h : Heap) (L : List Loc) : Prop := ∃ (cr : Addr), v = some (.ref cr) ∧ Fr n0 L ∧ Keep h0 h [] ∧ Arv Z h cr kb .byte Nb vs (.int 0) ∧ Exa Z h cr "[B" ∧ h0.size ≤ cr
set_option maxRecDepth 65536 in
set_option maxHeartbeats 40000000 in
theorem rm23 (hw : own_W a0 Z) (a1 iso dco eno utf tbd tbe : Addr) (kd ke : ClassId) (G1 : Int32) (fm : Value) (ar : Addr) (kb : ClassId) (Nb : Int32) (vs : List Value) (h0 : Heap) (n0 : Nat) (Z0 : n0 ≤ h0.size) (hG : own_G Z dco eno iso utf tbd tbe kd ke G1 fm) (X00 : Old Z n0 h0) (Es : Exa Z h0 a1 "java/lang/String") (Fc : Fld Z h0 a1 "java/lang/String" "coder" "B" (.int 0)) (Fv : Fld Z h0 a1 "java/lang/String" "value" "[B" (.ref ar)) (Va : Arv Z h0 ar kb .byte Nb vs (.int 0)) (Ea : Exa Z h0 ar "[B") (hN : Nb.toNatClampNeg ≤ 8) :
    own_M l Z yy6 q6 2 (some (.array .byte)) ⟨4, 1, 8, 62⟩ #[.ref a1, .ref iso] h0 [] (Q23 Z a1 iso dco eno utf tbd tbe kd ke G1 fm ar kb Nb vs h0 n0) := by
  refine own_body (plainFor_of_name pn_1) ?_
  intro p e s m below meth c s₁ A hx hml hown hnm hlk hret hZ X0 e0 k0
  replace k0 := own_ent (ef_23 m a1 iso) k0
  have N0 := Fr.nil n0
  have KK : Keep h0 h0 [] := Keep.refl h0 []
  obtain ⟨sD, sE, eD, eE, fDu, fDm, fEp, fEl, fEu, sI, sU, iu, sTd, sTe, aTd, aTe, sC, gC, sS, fmr⟩ := id hG
  have k1 := fun t_ ht_ => k0 t_ (o_aloadN X0 hx d6_0 rfl rfl (o_ifnonnullYes X0 hx d6_1 rfl 12 (o_aloadN X0 hx d6_12 rfl rfl (o_aloadN X0 hx d6_13 rfl rfl ht_))))
  obtain ⟨_, T2, Lc2, X2, hQ2, k2⟩ := o_virtualM X0 hx hZ k1 yy2 hown (hw 57 rfl) yy2 (hw 58 rfl) (hw 60 rfl) (hw 59 rfl) rfl (rm19 hw a1 dco eno iso utf tbd tbe kd ke G1 fm h0 n0 Z0 hG X00 Fc) (hw 61 rfl) (hw 11 rfl) 1 Es [] [.ref iso] (lenOf pd_2 rfl) hml e0 d6_14
  obtain ⟨rfl, Nq2, e2⟩ := hQ2
  have N2 := Fr.app N0 Nq2
  replace k2 := own_pushR k2
  have k3 := fun t_ ht_ => k2 t_ (o_aloadN X2 hx d6_17 rfl rfl ht_)
  obtain ⟨T4, X4, e4, k4⟩ := o_getF X2 hx hZ k3 hown (host := "") (Or.inl (hw 36 rfl)) Via.refl e2 Fv d6_18
  obtain ⟨_, T5, Lc5, X5, hQ5, k5⟩ := o_callSM X4 hx hZ k4 yy5 hown (hw 62 rfl) (hw 63 rfl) (hw 11 rfl) (hw 64 rfl) (rm22 hw iso ar dco eno utf tbd tbe kd ke G1 fm kb Nb vs h0 n0 Z0 hG X00 Va Ea hN) 0 [.ref iso, .int 0, .ref ar] [] (lenOf pd_3 rfl) hml e4 d6_21
  obtain ⟨cr, rfl, Nq5, K1, V1, E1, G1_⟩ := hQ5
  have N5 := Fr.app N2 Nq5
  replace k5 := own_pushR k5
  replace X00 := X00.keep K1 (by simp)
  replace Va := Va.keep K1 (by simp)
  replace Ea := Ea.keep K1
  replace Es := Es.keep K1
  replace Fc := Fc.keep K1 (by simp)
  replace Fv := Fv.keep K1 (by simp)
  have Zs5 := Nat.le_trans Z0 K1.1
  replace KK := KK.trans K1 (fun x q => nomatch q)
  exact o_retA X5 hx k5 hlk hret rfl d6_24 (by exact ⟨cr, rfl, N5, KK, V1, E1, G1_⟩)
theorem ef_24 (m : MethodId) (x0 x1 : Addr) (x2 x3 : Int32) (x4 : Addr) (x5 x6 x7 : Int32) : entryFrame m #[.ref x0, .ref x1, .int x2, .int x3, .ref x4, .int x5, .int x6, .int x7] 16 = mkF m 0 #[Lr x0, Lr x1, Li x2, Li x3, Lr x4, Li x5, Li x6, Li x7, Lu, Lu, Lu, Lu, Lu, Lu, Lu, Lu] [] := by first | (simp [entryFrame, mkF, argsToLocals, Value.category]; done) | rfl
def Q24 (Z : State) (dco ar ds eno iso utf tbd tbe : Addr) (kd ke : ClassId) (G1 : Int32) (fm : Value) (kb kc : ClassId) (B0 B1 B2 B3 B4 B5 v0 v1 v2 v3 v4 v5 v6 v7 r0 r1 r2 r3 r4 r5 r6 r7 : Int32) (h0 : Heap) (n0 : Nat) (v : Option Value) (h : Heap) (L : List Loc) : Prop := ∃ (y0 y1 y2 : Int32), v = some (.int (3 : Int32)) ∧ Fr n0 L ∧ Keep h0 h [ds] ∧ Arv Z h ds kc .byte (4 : Int32) [.int y0, .int y1, .int y2, .int (0 : Int32)] (.int 0) ∧ own_SB y0 B0 ∧ own_SB y1 B1 ∧ own_SB y2 B2
set_option maxRecDepth 65536 in
set_option maxHeartbeats 40000000 in
theorem rm24 (hw : own_W a0 Z) (dco ar ds eno iso utf tbd tbe : Addr) (kd ke : ClassId) (G1 : Int32) (fm : Value) (kb kc : ClassId) (B0 B1 B2 B3 B4 B5 v0 v1 v2 v3 v4 v5 v6 v7 r0 r1 r2 r3 r4 r5 r6 r7 : Int32) (h0 : Heap) (n0 : Nat) (Z0 : n0 ≤ h0.size) (hG : own_G Z dco eno iso utf tbd tbe kd ke G1 fm) (X00 : Old Z n0 h0) (Va : Arv Z h0 ar kb .byte (6 : Int32) [.int r0, .int r1, .int r2, .int r3, .int r4, .int r5] (.int 0)) (Vd : Arv Z h0 ds kc .byte (4 : Int32) [.int (0 : Int32), .int (0 : Int32), .int (0 : Int32), .int (0 : Int32)] (.int 0)) (hne : ar ≠ ds) (g_ds : n0 ≤ ds) (hD : own_D 4 B0 B1 B2 B3 B4 B5 v0 v1 v2 v3 v4 v5 v6 v7 r0 r1 r2 r3 r4 r5 r6 r7) :
    own_M l Z yy7 q7 16 (some .int) ⟨0, 0, 0, 0⟩ #[.ref dco, .ref ar, .int 0, .int 6, .ref ds, .int 0, .int 1, .int 0] h0 [] (Q24 Z dco ar ds eno iso utf tbd tbe kd ke G1 fm kb kc B0 B1 B2 B3 B4 B5 v0 v1 v2 v3 v4 v5 v6 v7 r0 r1 r2 r3 r4 r5 r6 r7 h0 n0) := by
  refine own_body (plainFor_of_name pn_2) ?_
  intro p e s m below meth c s₁ A hx hml hown hnm hlk hret hZ X0 e0 k0
  replace k0 := own_ent (ef_24 m dco ar 0 6 ds 0 1 0) k0
  have N0 := Fr.nil n0
  have KK : Keep h0 h0 [ds] := Keep.refl h0 [ds]
  obtain ⟨sD, sE, eD, eE, fDu, fDm, fEp, fEl, fEu, sI, sU, iu, sTd, sTe, aTd, aTe, sC, gC, sS, fmr⟩ := id hG
  obtain ⟨hq0, hq1, hc0, hc1, hc2, hc3, hc4, hc5, hc6, hc7, hz1, hz2, hz4, hz5⟩ := id hD
  have k1 := fun t_ ht_ => k0 t_ (o_iload X0 hx d7_0 rfl (o_ifNo X0 hx d7_2 ((if0 _ _).trans (feq (by decide)).1) ht_))
  obtain ⟨T2, X2, e2, k2⟩ := o_getS X0 hx hZ k1 hown (host := "") (Or.inl (hw 95 rfl)) Via.refl e0 (sTd.ext X00.2) d7_5
  have k3 := fun t_ ht_ => k2 t_ (o_goto X2 hx d7_8 14 (o_astore X2 hx d7_14 #[Lr dco, Lr ar, Li 0, Li 6, Lr ds, Li 0, Li 1, Li 0, Lr tbd, Lu, Lu, Lu, Lu, Lu, Lu, Lu] rfl rfl (o_iloadN X2 hx d7_16 rfl (o_iloadN X2 hx d7_17 rfl (o_iloadN X2 hx d7_18 rfl (o_isub X2 hx d7_19 (rfl : _ = (6 : Int32)) (o_bipush X2 hx d7_20 (-4) rfl (o_iand X2 hx d7_22 (rfl : _ = (4 : Int32)) (o_iadd X2 hx d7_23 (rfl : _ = (4 : Int32)) (o_istore X2 hx d7_24 #[Lr dco, Lr ar, Li 0, Li 6, Lr ds, Li 0, Li 1, Li 0, Lr tbd, Li 4, Lu, Lu, Lu, Lu, Lu, Lu] rfl (o_iload X2 hx d7_26 rfl (o_istore X2 hx d7_28 #[Lr dco, Lr ar, Li 0, Li 6, Lr ds, Li 0, Li 1, Li 0, Lr tbd, Li 4, Li 0, Lu, Lu, Lu, Lu, Lu] rfl (o_iloadN X2 hx d7_30 rfl (o_iload X2 hx d7_31 rfl (o_icmpNo X2 hx d7_33 (tlt (by decide)).2.1 (o_aload X2 hx d7_36 rfl rfl (o_aloadN X2 hx d7_38 rfl rfl (o_iloadN X2 hx d7_39 rfl (o_iinc X2 hx d7_40 #[Lr dco, Lr ar, Li 1, Li 6, Lr ds, Li 0, Li 1, Li 0, Lr tbd, Li 4, Li 0, Lu, Lu, Lu, Lu, Lu] rfl rfl (o_ldB X2 hx hZ d7_43 e2 Va ⟨by decide, by decide⟩ (rfl : _ = Value.int r0) (o_sipush X2 hx d7_44 255 rfl (o_iand X2 hx d7_47 rfl ht_))))))))))))))))))))))
  rw [own_r255 hc0] at k3
  have od4 := aTd.ext X00.2
  have k5 := fun t_ ht_ => k3 t_ (o_ldI X2 hx hZ d7_48 e2 od4 (own_i256 hc0) (own_tabD_at hc0) (o_istore X2 hx d7_49 #[Lr dco, Lr ar, Li 1, Li 6, Lr ds, Li 0, Li 1, Li 0, Lr tbd, Li 4, Li 0, Li v0, Lu, Lu, Lu, Lu] rfl (o_aload X2 hx d7_51 rfl rfl (o_aloadN X2 hx d7_53 rfl rfl (o_iloadN X2 hx d7_54 rfl (o_iinc X2 hx d7_55 #[Lr dco, Lr ar, Li 2, Li 6, Lr ds, Li 0, Li 1, Li 0, Lr tbd, Li 4, Li 0, Li v0, Lu, Lu, Lu, Lu] rfl rfl (o_ldB X2 hx hZ d7_58 e2 Va ⟨by decide, by decide⟩ (rfl : _ = Value.int r1) (o_sipush X2 hx d7_59 255 rfl (o_iand X2 hx d7_62 rfl ht_)))))))))
  rw [own_r255 hc1] at k5
  have k6 := fun t_ ht_ => k5 t_ (o_ldI X2 hx hZ d7_63 e2 od4 (own_i256 hc1) (own_tabD_at hc1) (o_istore X2 hx d7_64 #[Lr dco, Lr ar, Li 2, Li 6, Lr ds, Li 0, Li 1, Li 0, Lr tbd, Li 4, Li 0, Li v0, Li v1, Lu, Lu, Lu] rfl (o_aload X2 hx d7_66 rfl rfl (o_aloadN X2 hx d7_68 rfl rfl (o_iloadN X2 hx d7_69 rfl (o_iinc X2 hx d7_70 #[Lr dco, Lr ar, Li 3, Li 6, Lr ds, Li 0, Li 1, Li 0, Lr tbd, Li 4, Li 0, Li v0, Li v1, Lu, Lu, Lu] rfl rfl (o_ldB X2 hx hZ d7_73 e2 Va ⟨by decide, by decide⟩ (rfl : _ = Value.int r2) (o_sipush X2 hx d7_74 255 rfl (o_iand X2 hx d7_77 rfl ht_)))))))))
  rw [own_r255 hc2] at k6
  have k7 := fun t_ ht_ => k6 t_ (o_ldI X2 hx hZ d7_78 e2 od4 (own_i256 hc2) (own_tabD_at hc2) (o_istore X2 hx d7_79 #[Lr dco, Lr ar, Li 3, Li 6, Lr ds, Li 0, Li 1, Li 0, Lr tbd, Li 4, Li 0, Li v0, Li v1, Li v2, Lu, Lu] rfl (o_aload X2 hx d7_81 rfl rfl (o_aloadN X2 hx d7_83 rfl rfl (o_iloadN X2 hx d7_84 rfl (o_iinc X2 hx d7_85 #[Lr dco, Lr ar, Li 4, Li 6, Lr ds, Li 0, Li 1, Li 0, Lr tbd, Li 4, Li 0, Li v0, Li v1, Li v2, Lu, Lu] rfl rfl (o_ldB X2 hx hZ d7_88 e2 Va ⟨by decide, by decide⟩ (rfl : _ = Value.int r3) (o_sipush X2 hx d7_89 255 rfl (o_iand X2 hx d7_92 rfl ht_)))))))))
  rw [own_r255 hc3] at k7
  have k8 := fun t_ ht_ => k7 t_ (o_ldI X2 hx hZ d7_93 e2 od4 (own_i256 hc3) (own_tabD_at hc3) (o_istore X2 hx d7_94 #[Lr dco, Lr ar, Li 4, Li 6, Lr ds, Li 0, Li 1, Li 0, Lr tbd, Li 4, Li 0, Li v0, Li v1, Li v2, Li v3, Lu] rfl (o_iload X2 hx d7_96 rfl (o_iload X2 hx d7_98 rfl (o_ior X2 hx d7_100 rfl (o_iload X2 hx d7_101 rfl (o_ior X2 hx d7_103 rfl (o_iload X2 hx d7_104 rfl (o_ior X2 hx d7_106 rfl (o_ifYes X2 hx d7_107 ((if0 _ _).trans (flt (own_or4 hc0 hc1 hc2 hc3)).2.1) 116 (o_iload X2 hx d7_116 rfl (o_bipush X2 hx d7_118 18 rfl (o_ishl X2 hx d7_120 (o_iload X2 hx d7_121 rfl (o_bipush X2 hx d7_123 12 rfl (o_ishl X2 hx d7_125 (o_ior X2 hx d7_126 rfl (o_iload X2 hx d7_127 rfl (o_bipush X2 hx d7_129 6 rfl (o_ishl X2 hx d7_131 (o_ior X2 hx d7_132 rfl (o_iload X2 hx d7_133 rfl (o_ior X2 hx d7_135 rfl (o_istore X2 hx d7_136 #[Lr dco, Lr ar, Li 4, Li 6, Lr ds, Li 0, Li 1, Li 0, Lr tbd, Li 4, Li 0, Li v0, Li v1, Li v2, Li v3, Li ((((v0 <<< ((18 : Int32) &&& 31)) ||| (v1 <<< ((12 : Int32) &&& 31))) ||| (v2 <<< ((6 : Int32) &&& 31))) ||| v3)] rfl ht_))))))))))))))))))))))))
  obtain ⟨bt0, hbt0⟩ : ∃ z : Int32, z = ((((v0 <<< ((18 : Int32) &&& 31)) ||| (v1 <<< ((12 : Int32) &&& 31))) ||| (v2 <<< ((6 : Int32) &&& 31))) ||| v3) := ⟨_, rfl⟩
  rw [← hbt0] at k8
  have k9 := fun t_ ht_ => k8 t_ (o_aload X2 hx d7_138 rfl rfl (o_iload X2 hx d7_140 rfl (o_iinc X2 hx d7_142 #[Lr dco, Lr ar, Li 4, Li 6, Lr ds, Li 0, Li 1, Li 0, Lr tbd, Li 4, Li 1, Li v0, Li v1, Li v2, Li v3, Li bt0] rfl rfl (o_iload X2 hx d7_145 rfl (o_bipush X2 hx d7_147 16 rfl (o_ishr X2 hx d7_149 (o_i2b X2 hx d7_150 ht_)))))))
  obtain ⟨yy0, hyy0⟩ : ∃ z : Int32, z = ((bt0 >>> ((16 : Int32) &&& 31)).toInt8.toInt32) := ⟨_, rfl⟩
  rw [← hyy0] at k9
  have sb0 := own_Y0 hq0 hc0 hc1 hc2 hc3 hbt0 hyy0
  obtain ⟨T10, h10, X10, e10, W10, Vd, k10⟩ := o_stB X2 hx hZ k9 e2 Vd 0 [.int (nar .byte yy0), .int 0, .int 0, .int 0] d7_151
  replace X00 := X00.wr W10 g_ds
  replace Va := Va.other W10 hne
  have Zs10 := Nat.le_trans Z0 (Keep.of_wr W10).1
  replace KK := KK.wr W10 (Or.inl (by simp))
  have N10 := Fr.snoc X10 N0 g_ds
  have k11 := fun t_ ht_ => k10 t_ (o_aload X10 hx d7_152 rfl rfl (o_iload X10 hx d7_154 rfl (o_iinc X10 hx d7_156 #[Lr dco, Lr ar, Li 4, Li 6, Lr ds, Li 0, Li 1, Li 0, Lr tbd, Li 4, Li 2, Li v0, Li v1, Li v2, Li v3, Li bt0] rfl rfl (o_iload X10 hx d7_159 rfl (o_bipush X10 hx d7_161 8 rfl (o_ishr X10 hx d7_163 (o_i2b X10 hx d7_164 ht_)))))))
  obtain ⟨yy1, hyy1⟩ : ∃ z : Int32, z = ((bt0 >>> ((8 : Int32) &&& 31)).toInt8.toInt32) := ⟨_, rfl⟩
  rw [← hyy1] at k11
  have sb1 := own_Y1 hq0 hc0 hc1 hc2 hc3 hbt0 hyy1
  obtain ⟨T12, h12, X12, e12, W12, Vd, k12⟩ := o_stB X10 hx hZ k11 e10 Vd 1 [.int (nar .byte yy0), .int (nar .byte yy1), .int 0, .int 0] d7_165
  replace X00 := X00.wr W12 g_ds
  replace Va := Va.other W12 hne
  have Zs12 := Nat.le_trans Zs10 (Keep.of_wr W12).1
  replace KK := KK.wr W12 (Or.inl (by simp))
  have N12 := Fr.snoc X12 N10 g_ds
  have k13 := fun t_ ht_ => k12 t_ (o_aload X12 hx d7_166 rfl rfl (o_iload X12 hx d7_168 rfl (o_iinc X12 hx d7_170 #[Lr dco, Lr ar, Li 4, Li 6, Lr ds, Li 0, Li 1, Li 0, Lr tbd, Li 4, Li 3, Li v0, Li v1, Li v2, Li v3, Li bt0] rfl rfl (o_iload X12 hx d7_173 rfl (o_i2b X12 hx d7_175 ht_)))))
  obtain ⟨yy2, hyy2⟩ : ∃ z : Int32, z = (bt0.toInt8.toInt32) := ⟨_, rfl⟩
  rw [← hyy2] at k13
  have sb2 := own_Y2 hq0 hc0 hc1 hc2 hc3 hbt0 hyy2
  obtain ⟨T14, h14, X14, e14, W14, Vd, k14⟩ := o_stB X12 hx hZ k13 e12 Vd 2 [.int (nar .byte yy0), .int (nar .byte yy1), .int (nar .byte yy2), .int 0] d7_176
  replace X00 := X00.wr W14 g_ds
  replace Va := Va.other W14 hne
  have Zs14 := Nat.le_trans Zs12 (Keep.of_wr W14).1
  replace KK := KK.wr W14 (Or.inl (by simp))
  have N14 := Fr.snoc X14 N12 g_ds
  have k15 := fun t_ ht_ => k14 t_ (o_goto X14 hx d7_177 30 (o_iloadN X14 hx d7_30 rfl (o_iload X14 hx d7_31 rfl (o_icmpYes X14 hx d7_33 (flt (by decide)).2.1 180 (o_iload X14 hx d7_180 rfl (o_iload X14 hx d7_182 rfl (o_isub X14 hx d7_184 (rfl : _ = (3 : Int32)) ht_)))))))
  exact o_retI X14 hx k15 hlk hret d7_185 (by rw [e14]; exact ⟨(nar .byte yy0), (nar .byte yy1), (nar .byte yy2), rfl, N14, KK, Vd, sb0, sb1, sb2⟩)
theorem ef_25 (m : MethodId) (x0 x1 : Addr) (x2 x3 : Int32) (x4 : Addr) (x5 x6 x7 : Int32) : entryFrame m #[.ref x0, .ref x1, .int x2, .int x3, .ref x4, .int x5, .int x6, .int x7] 16 = mkF m 0 #[Lr x0, Lr x1, Li x2, Li x3, Lr x4, Li x5, Li x6, Li x7, Lu, Lu, Lu, Lu, Lu, Lu, Lu, Lu] [] := by first | (simp [entryFrame, mkF, argsToLocals, Value.category]; done) | rfl
def Q25 (Z : State) (dco ar ds eno iso utf tbd tbe : Addr) (kd ke : ClassId) (G1 : Int32) (fm : Value) (kb kc : ClassId) (B0 B1 B2 B3 B4 B5 v0 v1 v2 v3 v4 v5 v6 v7 r0 r1 r2 r3 r4 r5 r6 r7 : Int32) (h0 : Heap) (n0 : Nat) (v : Option Value) (h : Heap) (L : List Loc) : Prop := ∃ (y0 y1 y2 : Int32), v = some (.int (3 : Int32)) ∧ Fr n0 L ∧ Keep h0 h [ds] ∧ Arv Z h ds kc .byte (5 : Int32) [.int y0, .int y1, .int y2, .int (0 : Int32), .int (0 : Int32)] (.int 0) ∧ own_SB y0 B0 ∧ own_SB y1 B1 ∧ own_SB y2 B2
set_option maxRecDepth 65536 in
set_option maxHeartbeats 40000000 in
theorem rm25 (hw : own_W a0 Z) (dco ar ds eno iso utf tbd tbe : Addr) (kd ke : ClassId) (G1 : Int32) (fm : Value) (kb kc : ClassId) (B0 B1 B2 B3 B4 B5 v0 v1 v2 v3 v4 v5 v6 v7 r0 r1 r2 r3 r4 r5 r6 r7 : Int32) (h0 : Heap) (n0 : Nat) (Z0 : n0 ≤ h0.size) (hG : own_G Z dco eno iso utf tbd tbe kd ke G1 fm) (X00 : Old Z n0 h0) (Va : Arv Z h0 ar kb .byte (7 : Int32) [.int r0, .int r1, .int r2, .int r3, .int r4, .int r5, .int r6] (.int 0)) (Vd : Arv Z h0 ds kc .byte (5 : Int32) [.int (0 : Int32), .int (0 : Int32), .int (0 : Int32), .int (0 : Int32), .int (0 : Int32)] (.int 0)) (hne : ar ≠ ds) (g_ds : n0 ≤ ds) (hD : own_D 5 B0 B1 B2 B3 B4 B5 v0 v1 v2 v3 v4 v5 v6 v7 r0 r1 r2 r3 r4 r5 r6 r7) :
    own_M l Z yy7 q7 16 (some .int) ⟨0, 0, 0, 0⟩ #[.ref dco, .ref ar, .int 0, .int 7, .ref ds, .int 0, .int 1, .int 0] h0 [] (Q25 Z dco ar ds eno iso utf tbd tbe kd ke G1 fm kb kc B0 B1 B2 B3 B4 B5 v0 v1 v2 v3 v4 v5 v6 v7 r0 r1 r2 r3 r4 r5 r6 r7 h0 n0) := by
  refine own_body (plainFor_of_name pn_2) ?_
  intro p e s m below meth c s₁ A hx hml hown hnm hlk hret hZ X0 e0 k0
  replace k0 := own_ent (ef_25 m dco ar 0 7 ds 0 1 0) k0
  have N0 := Fr.nil n0
  have KK : Keep h0 h0 [ds] := Keep.refl h0 [ds]
  obtain ⟨sD, sE, eD, eE, fDu, fDm, fEp, fEl, fEu, sI, sU, iu, sTd, sTe, aTd, aTe, sC, gC, sS, fmr⟩ := id hG
  obtain ⟨hq0, hq1, hc0, hc1, hc2, hc3, hc4, hc5, hc6, hc7, hz1, hz2, hz4, hz5⟩ := id hD
  have k1 := fun t_ ht_ => k0 t_ (o_iload X0 hx d7_0 rfl (o_ifNo X0 hx d7_2 ((if0 _ _).trans (feq (by decide)).1) ht_))
  obtain ⟨T2, X2, e2, k2⟩ := o_getS X0 hx hZ k1 hown (host := "") (Or.inl (hw 95 rfl)) Via.refl e0 (sTd.ext X00.2) d7_5
  have k3 := fun t_ ht_ => k2 t_ (o_goto X2 hx d7_8 14 (o_astore X2 hx d7_14 #[Lr dco, Lr ar, Li 0, Li 7, Lr ds, Li 0, Li 1, Li 0, Lr tbd, Lu, Lu, Lu, Lu, Lu, Lu, Lu] rfl rfl (o_iloadN X2 hx d7_16 rfl (o_iloadN X2 hx d7_17 rfl (o_iloadN X2 hx d7_18 rfl (o_isub X2 hx d7_19 (rfl : _ = (7 : Int32)) (o_bipush X2 hx d7_20 (-4) rfl (o_iand X2 hx d7_22 (rfl : _ = (4 : Int32)) (o_iadd X2 hx d7_23 (rfl : _ = (4 : Int32)) (o_istore X2 hx d7_24 #[Lr dco, Lr ar, Li 0, Li 7, Lr ds, Li 0, Li 1, Li 0, Lr tbd, Li 4, Lu, Lu, Lu, Lu, Lu, Lu] rfl (o_iload X2 hx d7_26 rfl (o_istore X2 hx d7_28 #[Lr dco, Lr ar, Li 0, Li 7, Lr ds, Li 0, Li 1, Li 0, Lr tbd, Li 4, Li 0, Lu, Lu, Lu, Lu, Lu] rfl (o_iloadN X2 hx d7_30 rfl (o_iload X2 hx d7_31 rfl (o_icmpNo X2 hx d7_33 (tlt (by decide)).2.1 (o_aload X2 hx d7_36 rfl rfl (o_aloadN X2 hx d7_38 rfl rfl (o_iloadN X2 hx d7_39 rfl (o_iinc X2 hx d7_40 #[Lr dco, Lr ar, Li 1, Li 7, Lr ds, Li 0, Li 1, Li 0, Lr tbd, Li 4, Li 0, Lu, Lu, Lu, Lu, Lu] rfl rfl (o_ldB X2 hx hZ d7_43 e2 Va ⟨by decide, by decide⟩ (rfl : _ = Value.int r0) (o_sipush X2 hx d7_44 255 rfl (o_iand X2 hx d7_47 rfl ht_))))))))))))))))))))))
  rw [own_r255 hc0] at k3
  have od4 := aTd.ext X00.2
  have k5 := fun t_ ht_ => k3 t_ (o_ldI X2 hx hZ d7_48 e2 od4 (own_i256 hc0) (own_tabD_at hc0) (o_istore X2 hx d7_49 #[Lr dco, Lr ar, Li 1, Li 7, Lr ds, Li 0, Li 1, Li 0, Lr tbd, Li 4, Li 0, Li v0, Lu, Lu, Lu, Lu] rfl (o_aload X2 hx d7_51 rfl rfl (o_aloadN X2 hx d7_53 rfl rfl (o_iloadN X2 hx d7_54 rfl (o_iinc X2 hx d7_55 #[Lr dco, Lr ar, Li 2, Li 7, Lr ds, Li 0, Li 1, Li 0, Lr tbd, Li 4, Li 0, Li v0, Lu, Lu, Lu, Lu] rfl rfl (o_ldB X2 hx hZ d7_58 e2 Va ⟨by decide, by decide⟩ (rfl : _ = Value.int r1) (o_sipush X2 hx d7_59 255 rfl (o_iand X2 hx d7_62 rfl ht_)))))))))
  rw [own_r255 hc1] at k5
  have k6 := fun t_ ht_ => k5 t_ (o_ldI X2 hx hZ d7_63 e2 od4 (own_i256 hc1) (own_tabD_at hc1) (o_istore X2 hx d7_64 #[Lr dco, Lr ar, Li 2, Li 7, Lr ds, Li 0, Li 1, Li 0, Lr tbd, Li 4, Li 0, Li v0, Li v1, Lu, Lu, Lu] rfl (o_aload X2 hx d7_66 rfl rfl (o_aloadN X2 hx d7_68 rfl rfl (o_iloadN X2 hx d7_69 rfl (o_iinc X2 hx d7_70 #[Lr dco, Lr ar, Li 3, Li 7, Lr ds, Li 0, Li 1, Li 0, Lr tbd, Li 4, Li 0, Li v0, Li v1, Lu, Lu, Lu] rfl rfl (o_ldB X2 hx hZ d7_73 e2 Va ⟨by decide, by decide⟩ (rfl : _ = Value.int r2) (o_sipush X2 hx d7_74 255 rfl (o_iand X2 hx d7_77 rfl ht_)))))))))
  rw [own_r255 hc2] at k6
  have k7 := fun t_ ht_ => k6 t_ (o_ldI X2 hx hZ d7_78 e2 od4 (own_i256 hc2) (own_tabD_at hc2) (o_istore X2 hx d7_79 #[Lr dco, Lr ar, Li 3, Li 7, Lr ds, Li 0, Li 1, Li 0, Lr tbd, Li 4, Li 0, Li v0, Li v1, Li v2, Lu, Lu] rfl (o_aload X2 hx d7_81 rfl rfl (o_aloadN X2 hx d7_83 rfl rfl (o_iloadN X2 hx d7_84 rfl (o_iinc X2 hx d7_85 #[Lr dco, Lr ar, Li 4, Li 7, Lr ds, Li 0, Li 1, Li 0, Lr tbd, Li 4, Li 0, Li v0, Li v1, Li v2, Lu, Lu] rfl rfl (o_ldB X2 hx hZ d7_88 e2 Va ⟨by decide, by decide⟩ (rfl : _ = Value.int r3) (o_sipush X2 hx d7_89 255 rfl (o_iand X2 hx d7_92 rfl ht_)))))))))
  rw [own_r255 hc3] at k7
  have k8 := fun t_ ht_ => k7 t_ (o_ldI X2 hx hZ d7_93 e2 od4 (own_i256 hc3) (own_tabD_at hc3) (o_istore X2 hx d7_94 #[Lr dco, Lr ar, Li 4, Li 7, Lr ds, Li 0, Li 1, Li 0, Lr tbd, Li 4, Li 0, Li v0, Li v1, Li v2, Li v3, Lu] rfl (o_iload X2 hx d7_96 rfl (o_iload X2 hx d7_98 rfl (o_ior X2 hx d7_100 rfl (o_iload X2 hx d7_101 rfl (o_ior X2 hx d7_103 rfl (o_iload X2 hx d7_104 rfl (o_ior X2 hx d7_106 rfl (o_ifYes X2 hx d7_107 ((if0 _ _).trans (flt (own_or4 hc0 hc1 hc2 hc3)).2.1) 116 (o_iload X2 hx d7_116 rfl (o_bipush X2 hx d7_118 18 rfl (o_ishl X2 hx d7_120 (o_iload X2 hx d7_121 rfl (o_bipush X2 hx d7_123 12 rfl (o_ishl X2 hx d7_125 (o_ior X2 hx d7_126 rfl (o_iload X2 hx d7_127 rfl (o_bipush X2 hx d7_129 6 rfl (o_ishl X2 hx d7_131 (o_ior X2 hx d7_132 rfl (o_iload X2 hx d7_133 rfl (o_ior X2 hx d7_135 rfl (o_istore X2 hx d7_136 #[Lr dco, Lr ar, Li 4, Li 7, Lr ds, Li 0, Li 1, Li 0, Lr tbd, Li 4, Li 0, Li v0, Li v1, Li v2, Li v3, Li ((((v0 <<< ((18 : Int32) &&& 31)) ||| (v1 <<< ((12 : Int32) &&& 31))) ||| (v2 <<< ((6 : Int32) &&& 31))) ||| v3)] rfl ht_))))))))))))))))))))))))
  obtain ⟨bt0, hbt0⟩ : ∃ z : Int32, z = ((((v0 <<< ((18 : Int32) &&& 31)) ||| (v1 <<< ((12 : Int32) &&& 31))) ||| (v2 <<< ((6 : Int32) &&& 31))) ||| v3) := ⟨_, rfl⟩
  rw [← hbt0] at k8
  have k9 := fun t_ ht_ => k8 t_ (o_aload X2 hx d7_138 rfl rfl (o_iload X2 hx d7_140 rfl (o_iinc X2 hx d7_142 #[Lr dco, Lr ar, Li 4, Li 7, Lr ds, Li 0, Li 1, Li 0, Lr tbd, Li 4, Li 1, Li v0, Li v1, Li v2, Li v3, Li bt0] rfl rfl (o_iload X2 hx d7_145 rfl (o_bipush X2 hx d7_147 16 rfl (o_ishr X2 hx d7_149 (o_i2b X2 hx d7_150 ht_)))))))
  obtain ⟨yy0, hyy0⟩ : ∃ z : Int32, z = ((bt0 >>> ((16 : Int32) &&& 31)).toInt8.toInt32) := ⟨_, rfl⟩
  rw [← hyy0] at k9
  have sb0 := own_Y0 hq0 hc0 hc1 hc2 hc3 hbt0 hyy0
  obtain ⟨T10, h10, X10, e10, W10, Vd, k10⟩ := o_stB X2 hx hZ k9 e2 Vd 0 [.int (nar .byte yy0), .int 0, .int 0, .int 0, .int 0] d7_151
  replace X00 := X00.wr W10 g_ds
  replace Va := Va.other W10 hne
  have Zs10 := Nat.le_trans Z0 (Keep.of_wr W10).1
  replace KK := KK.wr W10 (Or.inl (by simp))
  have N10 := Fr.snoc X10 N0 g_ds
  have k11 := fun t_ ht_ => k10 t_ (o_aload X10 hx d7_152 rfl rfl (o_iload X10 hx d7_154 rfl (o_iinc X10 hx d7_156 #[Lr dco, Lr ar, Li 4, Li 7, Lr ds, Li 0, Li 1, Li 0, Lr tbd, Li 4, Li 2, Li v0, Li v1, Li v2, Li v3, Li bt0] rfl rfl (o_iload X10 hx d7_159 rfl (o_bipush X10 hx d7_161 8 rfl (o_ishr X10 hx d7_163 (o_i2b X10 hx d7_164 ht_)))))))
  obtain ⟨yy1, hyy1⟩ : ∃ z : Int32, z = ((bt0 >>> ((8 : Int32) &&& 31)).toInt8.toInt32) := ⟨_, rfl⟩
  rw [← hyy1] at k11
  have sb1 := own_Y1 hq0 hc0 hc1 hc2 hc3 hbt0 hyy1
  obtain ⟨T12, h12, X12, e12, W12, Vd, k12⟩ := o_stB X10 hx hZ k11 e10 Vd 1 [.int (nar .byte yy0), .int (nar .byte yy1), .int 0, .int 0, .int 0] d7_165
  replace X00 := X00.wr W12 g_ds
  replace Va := Va.other W12 hne
  have Zs12 := Nat.le_trans Zs10 (Keep.of_wr W12).1
  replace KK := KK.wr W12 (Or.inl (by simp))
  have N12 := Fr.snoc X12 N10 g_ds
  have k13 := fun t_ ht_ => k12 t_ (o_aload X12 hx d7_166 rfl rfl (o_iload X12 hx d7_168 rfl (o_iinc X12 hx d7_170 #[Lr dco, Lr ar, Li 4, Li 7, Lr ds, Li 0, Li 1, Li 0, Lr tbd, Li 4, Li 3, Li v0, Li v1, Li v2, Li v3, Li bt0] rfl rfl (o_iload X12 hx d7_173 rfl (o_i2b X12 hx d7_175 ht_)))))
  obtain ⟨yy2, hyy2⟩ : ∃ z : Int32, z = (bt0.toInt8.toInt32) := ⟨_, rfl⟩
  rw [← hyy2] at k13
  have sb2 := own_Y2 hq0 hc0 hc1 hc2 hc3 hbt0 hyy2
  obtain ⟨T14, h14, X14, e14, W14, Vd, k14⟩ := o_stB X12 hx hZ k13 e12 Vd 2 [.int (nar .byte yy0), .int (nar .byte yy1), .int (nar .byte yy2), .int 0, .int 0] d7_176
  replace X00 := X00.wr W14 g_ds
  replace Va := Va.other W14 hne
  have Zs14 := Nat.le_trans Zs12 (Keep.of_wr W14).1
  replace KK := KK.wr W14 (Or.inl (by simp))
  have N14 := Fr.snoc X14 N12 g_ds
  have k15 := fun t_ ht_ => k14 t_ (o_goto X14 hx d7_177 30 (o_iloadN X14 hx d7_30 rfl (o_iload X14 hx d7_31 rfl (o_icmpYes X14 hx d7_33 (flt (by decide)).2.1 180 (o_iload X14 hx d7_180 rfl (o_iload X14 hx d7_182 rfl (o_isub X14 hx d7_184 (rfl : _ = (3 : Int32)) ht_)))))))
  exact o_retI X14 hx k15 hlk hret d7_185 (by rw [e14]; exact ⟨(nar .byte yy0), (nar .byte yy1), (nar .byte yy2), rfl, N14, KK, Vd, sb0, sb1, sb2⟩)
theorem ef_26 (m : MethodId) (x0 x1 : Addr) (x2 x3 : Int32) (x4 : Addr) (x5 x6 x7 : Int32) : entryFrame m #[.ref x0, .ref x1, .int x2, .int x3, .ref x4, .int x5, .int x6, .int x7] 16 = mkF m 0 #[Lr x0, Lr x1, Li x2, Li x3, Lr x4, Li x5, Li x6, Li x7, Lu, Lu, Lu, Lu, Lu, Lu, Lu, Lu] [] := by first | (simp [entryFrame, mkF, argsToLocals, Value.category]; done) | rfl
def Q26 (Z : State) (dco ar ds eno iso utf tbd tbe : Addr) (kd ke : ClassId) (G1 : Int32) (fm : Value) (kb kc : ClassId) (B0 B1 B2 B3 B4 B5 v0 v1 v2 v3 v4 v5 v6 v7 r0 r1 r2 r3 r4 r5 r6 r7 : Int32) (h0 : Heap) (n0 : Nat) (v : Option Value) (h : Heap) (L : List Loc) : Prop := ∃ (y0 y1 y2 y3 y4 y5 : Int32), v = some (.int (6 : Int32)) ∧ Fr n0 L ∧ Keep h0 h [ds] ∧ Arv Z h ds kc .byte (6 : Int32) [.int y0, .int y1, .int y2, .int y3, .int y4, .int y5] (.int 0) ∧ own_SB y0 B0 ∧ own_SB y1 B1 ∧ own_SB y2 B2 ∧ own_SB y3 B3 ∧ own_SB y4 B4 ∧ own_SB y5 B5
set_option maxRecDepth 65536 in
set_option maxHeartbeats 40000000 in
theorem rm26 (hw : own_W a0 Z) (dco ar ds eno iso utf tbd tbe : Addr) (kd ke : ClassId) (G1 : Int32) (fm : Value) (kb kc : ClassId) (B0 B1 B2 B3 B4 B5 v0 v1 v2 v3 v4 v5 v6 v7 r0 r1 r2 r3 r4 r5 r6 r7 : Int32) (h0 : Heap) (n0 : Nat) (Z0 : n0 ≤ h0.size) (hG : own_G Z dco eno iso utf tbd tbe kd ke G1 fm) (X00 : Old Z n0 h0) (Va : Arv Z h0 ar kb .byte (8 : Int32) [.int r0, .int r1, .int r2, .int r3, .int r4, .int r5, .int r6, .int r7] (.int 0)) (Vd : Arv Z h0 ds kc .byte (6 : Int32) [.int (0 : Int32), .int (0 : Int32), .int (0 : Int32), .int (0 : Int32), .int (0 : Int32), .int (0 : Int32)] (.int 0)) (hne : ar ≠ ds) (g_ds : n0 ≤ ds) (hD : own_D 6 B0 B1 B2 B3 B4 B5 v0 v1 v2 v3 v4 v5 v6 v7 r0 r1 r2 r3 r4 r5 r6 r7) :
    own_M l Z yy7 q7 16 (some .int) ⟨0, 0, 0, 0⟩ #[.ref dco, .ref ar, .int 0, .int 8, .ref ds, .int 0, .int 1, .int 0] h0 [] (Q26 Z dco ar ds eno iso utf tbd tbe kd ke G1 fm kb kc B0 B1 B2 B3 B4 B5 v0 v1 v2 v3 v4 v5 v6 v7 r0 r1 r2 r3 r4 r5 r6 r7 h0 n0) := by
  refine own_body (plainFor_of_name pn_2) ?_
  intro p e s m below meth c s₁ A hx hml hown hnm hlk hret hZ X0 e0 k0
  replace k0 := own_ent (ef_26 m dco ar 0 8 ds 0 1 0) k0
  have N0 := Fr.nil n0
  have KK : Keep h0 h0 [ds] := Keep.refl h0 [ds]
  obtain ⟨sD, sE, eD, eE, fDu, fDm, fEp, fEl, fEu, sI, sU, iu, sTd, sTe, aTd, aTe, sC, gC, sS, fmr⟩ := id hG
  obtain ⟨hq0, hq1, hc0, hc1, hc2, hc3, hc4, hc5, hc6, hc7, hz1, hz2, hz4, hz5⟩ := id hD
  have k1 := fun t_ ht_ => k0 t_ (o_iload X0 hx d7_0 rfl (o_ifNo X0 hx d7_2 ((if0 _ _).trans (feq (by decide)).1) ht_))
  obtain ⟨T2, X2, e2, k2⟩ := o_getS X0 hx hZ k1 hown (host := "") (Or.inl (hw 95 rfl)) Via.refl e0 (sTd.ext X00.2) d7_5
  have k3 := fun t_ ht_ => k2 t_ (o_goto X2 hx d7_8 14 (o_astore X2 hx d7_14 #[Lr dco, Lr ar, Li 0, Li 8, Lr ds, Li 0, Li 1, Li 0, Lr tbd, Lu, Lu, Lu, Lu, Lu, Lu, Lu] rfl rfl (o_iloadN X2 hx d7_16 rfl (o_iloadN X2 hx d7_17 rfl (o_iloadN X2 hx d7_18 rfl (o_isub X2 hx d7_19 (rfl : _ = (8 : Int32)) (o_bipush X2 hx d7_20 (-4) rfl (o_iand X2 hx d7_22 (rfl : _ = (8 : Int32)) (o_iadd X2 hx d7_23 (rfl : _ = (8 : Int32)) (o_istore X2 hx d7_24 #[Lr dco, Lr ar, Li 0, Li 8, Lr ds, Li 0, Li 1, Li 0, Lr tbd, Li 8, Lu, Lu, Lu, Lu, Lu, Lu] rfl (o_iload X2 hx d7_26 rfl (o_istore X2 hx d7_28 #[Lr dco, Lr ar, Li 0, Li 8, Lr ds, Li 0, Li 1, Li 0, Lr tbd, Li 8, Li 0, Lu, Lu, Lu, Lu, Lu] rfl (o_iloadN X2 hx d7_30 rfl (o_iload X2 hx d7_31 rfl (o_icmpNo X2 hx d7_33 (tlt (by decide)).2.1 (o_aload X2 hx d7_36 rfl rfl (o_aloadN X2 hx d7_38 rfl rfl (o_iloadN X2 hx d7_39 rfl (o_iinc X2 hx d7_40 #[Lr dco, Lr ar, Li 1, Li 8, Lr ds, Li 0, Li 1, Li 0, Lr tbd, Li 8, Li 0, Lu, Lu, Lu, Lu, Lu] rfl rfl (o_ldB X2 hx hZ d7_43 e2 Va ⟨by decide, by decide⟩ (rfl : _ = Value.int r0) (o_sipush X2 hx d7_44 255 rfl (o_iand X2 hx d7_47 rfl ht_))))))))))))))))))))))
  rw [own_r255 hc0] at k3
  have od4 := aTd.ext X00.2
  have k5 := fun t_ ht_ => k3 t_ (o_ldI X2 hx hZ d7_48 e2 od4 (own_i256 hc0) (own_tabD_at hc0) (o_istore X2 hx d7_49 #[Lr dco, Lr ar, Li 1, Li 8, Lr ds, Li 0, Li 1, Li 0, Lr tbd, Li 8, Li 0, Li v0, Lu, Lu, Lu, Lu] rfl (o_aload X2 hx d7_51 rfl rfl (o_aloadN X2 hx d7_53 rfl rfl (o_iloadN X2 hx d7_54 rfl (o_iinc X2 hx d7_55 #[Lr dco, Lr ar, Li 2, Li 8, Lr ds, Li 0, Li 1, Li 0, Lr tbd, Li 8, Li 0, Li v0, Lu, Lu, Lu, Lu] rfl rfl (o_ldB X2 hx hZ d7_58 e2 Va ⟨by decide, by decide⟩ (rfl : _ = Value.int r1) (o_sipush X2 hx d7_59 255 rfl (o_iand X2 hx d7_62 rfl ht_)))))))))
  rw [own_r255 hc1] at k5
  have k6 := fun t_ ht_ => k5 t_ (o_ldI X2 hx hZ d7_63 e2 od4 (own_i256 hc1) (own_tabD_at hc1) (o_istore X2 hx d7_64 #[Lr dco, Lr ar, Li 2, Li 8, Lr ds, Li 0, Li 1, Li 0, Lr tbd, Li 8, Li 0, Li v0, Li v1, Lu, Lu, Lu] rfl (o_aload X2 hx d7_66 rfl rfl (o_aloadN X2 hx d7_68 rfl rfl (o_iloadN X2 hx d7_69 rfl (o_iinc X2 hx d7_70 #[Lr dco, Lr ar, Li 3, Li 8, Lr ds, Li 0, Li 1, Li 0, Lr tbd, Li 8, Li 0, Li v0, Li v1, Lu, Lu, Lu] rfl rfl (o_ldB X2 hx hZ d7_73 e2 Va ⟨by decide, by decide⟩ (rfl : _ = Value.int r2) (o_sipush X2 hx d7_74 255 rfl (o_iand X2 hx d7_77 rfl ht_)))))))))
  rw [own_r255 hc2] at k6
  have k7 := fun t_ ht_ => k6 t_ (o_ldI X2 hx hZ d7_78 e2 od4 (own_i256 hc2) (own_tabD_at hc2) (o_istore X2 hx d7_79 #[Lr dco, Lr ar, Li 3, Li 8, Lr ds, Li 0, Li 1, Li 0, Lr tbd, Li 8, Li 0, Li v0, Li v1, Li v2, Lu, Lu] rfl (o_aload X2 hx d7_81 rfl rfl (o_aloadN X2 hx d7_83 rfl rfl (o_iloadN X2 hx d7_84 rfl (o_iinc X2 hx d7_85 #[Lr dco, Lr ar, Li 4, Li 8, Lr ds, Li 0, Li 1, Li 0, Lr tbd, Li 8, Li 0, Li v0, Li v1, Li v2, Lu, Lu] rfl rfl (o_ldB X2 hx hZ d7_88 e2 Va ⟨by decide, by decide⟩ (rfl : _ = Value.int r3) (o_sipush X2 hx d7_89 255 rfl (o_iand X2 hx d7_92 rfl ht_)))))))))
  rw [own_r255 hc3] at k7
  have k8 := fun t_ ht_ => k7 t_ (o_ldI X2 hx hZ d7_93 e2 od4 (own_i256 hc3) (own_tabD_at hc3) (o_istore X2 hx d7_94 #[Lr dco, Lr ar, Li 4, Li 8, Lr ds, Li 0, Li 1, Li 0, Lr tbd, Li 8, Li 0, Li v0, Li v1, Li v2, Li v3, Lu] rfl (o_iload X2 hx d7_96 rfl (o_iload X2 hx d7_98 rfl (o_ior X2 hx d7_100 rfl (o_iload X2 hx d7_101 rfl (o_ior X2 hx d7_103 rfl (o_iload X2 hx d7_104 rfl (o_ior X2 hx d7_106 rfl (o_ifYes X2 hx d7_107 ((if0 _ _).trans (flt (own_or4 hc0 hc1 hc2 hc3)).2.1) 116 (o_iload X2 hx d7_116 rfl (o_bipush X2 hx d7_118 18 rfl (o_ishl X2 hx d7_120 (o_iload X2 hx d7_121 rfl (o_bipush X2 hx d7_123 12 rfl (o_ishl X2 hx d7_125 (o_ior X2 hx d7_126 rfl (o_iload X2 hx d7_127 rfl (o_bipush X2 hx d7_129 6 rfl (o_ishl X2 hx d7_131 (o_ior X2 hx d7_132 rfl (o_iload X2 hx d7_133 rfl (o_ior X2 hx d7_135 rfl (o_istore X2 hx d7_136 #[Lr dco, Lr ar, Li 4, Li 8, Lr ds, Li 0, Li 1, Li 0, Lr tbd, Li 8, Li 0, Li v0, Li v1, Li v2, Li v3, Li ((((v0 <<< ((18 : Int32) &&& 31)) ||| (v1 <<< ((12 : Int32) &&& 31))) ||| (v2 <<< ((6 : Int32) &&& 31))) ||| v3)] rfl ht_))))))))))))))))))))))))
  obtain ⟨bt0, hbt0⟩ : ∃ z : Int32, z = ((((v0 <<< ((18 : Int32) &&& 31)) ||| (v1 <<< ((12 : Int32) &&& 31))) ||| (v2 <<< ((6 : Int32) &&& 31))) ||| v3) := ⟨_, rfl⟩
  rw [← hbt0] at k8
  have k9 := fun t_ ht_ => k8 t_ (o_aload X2 hx d7_138 rfl rfl (o_iload X2 hx d7_140 rfl (o_iinc X2 hx d7_142 #[Lr dco, Lr ar, Li 4, Li 8, Lr ds, Li 0, Li 1, Li 0, Lr tbd, Li 8, Li 1, Li v0, Li v1, Li v2, Li v3, Li bt0] rfl rfl (o_iload X2 hx d7_145 rfl (o_bipush X2 hx d7_147 16 rfl (o_ishr X2 hx d7_149 (o_i2b X2 hx d7_150 ht_)))))))
  obtain ⟨yy0, hyy0⟩ : ∃ z : Int32, z = ((bt0 >>> ((16 : Int32) &&& 31)).toInt8.toInt32) := ⟨_, rfl⟩
  rw [← hyy0] at k9
  have sb0 := own_Y0 hq0 hc0 hc1 hc2 hc3 hbt0 hyy0
  obtain ⟨T10, h10, X10, e10, W10, Vd, k10⟩ := o_stB X2 hx hZ k9 e2 Vd 0 [.int (nar .byte yy0), .int 0, .int 0, .int 0, .int 0, .int 0] d7_151
  replace X00 := X00.wr W10 g_ds
  replace Va := Va.other W10 hne
  have Zs10 := Nat.le_trans Z0 (Keep.of_wr W10).1
  replace KK := KK.wr W10 (Or.inl (by simp))
  have N10 := Fr.snoc X10 N0 g_ds
  have k11 := fun t_ ht_ => k10 t_ (o_aload X10 hx d7_152 rfl rfl (o_iload X10 hx d7_154 rfl (o_iinc X10 hx d7_156 #[Lr dco, Lr ar, Li 4, Li 8, Lr ds, Li 0, Li 1, Li 0, Lr tbd, Li 8, Li 2, Li v0, Li v1, Li v2, Li v3, Li bt0] rfl rfl (o_iload X10 hx d7_159 rfl (o_bipush X10 hx d7_161 8 rfl (o_ishr X10 hx d7_163 (o_i2b X10 hx d7_164 ht_)))))))
  obtain ⟨yy1, hyy1⟩ : ∃ z : Int32, z = ((bt0 >>> ((8 : Int32) &&& 31)).toInt8.toInt32) := ⟨_, rfl⟩
  rw [← hyy1] at k11
  have sb1 := own_Y1 hq0 hc0 hc1 hc2 hc3 hbt0 hyy1
  obtain ⟨T12, h12, X12, e12, W12, Vd, k12⟩ := o_stB X10 hx hZ k11 e10 Vd 1 [.int (nar .byte yy0), .int (nar .byte yy1), .int 0, .int 0, .int 0, .int 0] d7_165
  replace X00 := X00.wr W12 g_ds
  replace Va := Va.other W12 hne
  have Zs12 := Nat.le_trans Zs10 (Keep.of_wr W12).1
  replace KK := KK.wr W12 (Or.inl (by simp))
  have N12 := Fr.snoc X12 N10 g_ds
  have k13 := fun t_ ht_ => k12 t_ (o_aload X12 hx d7_166 rfl rfl (o_iload X12 hx d7_168 rfl (o_iinc X12 hx d7_170 #[Lr dco, Lr ar, Li 4, Li 8, Lr ds, Li 0, Li 1, Li 0, Lr tbd, Li 8, Li 3, Li v0, Li v1, Li v2, Li v3, Li bt0] rfl rfl (o_iload X12 hx d7_173 rfl (o_i2b X12 hx d7_175 ht_)))))
  obtain ⟨yy2, hyy2⟩ : ∃ z : Int32, z = (bt0.toInt8.toInt32) := ⟨_, rfl⟩
  rw [← hyy2] at k13
  have sb2 := own_Y2 hq0 hc0 hc1 hc2 hc3 hbt0 hyy2
  obtain ⟨T14, h14, X14, e14, W14, Vd, k14⟩ := o_stB X12 hx hZ k13 e12 Vd 2 [.int (nar .byte yy0), .int (nar .byte yy1), .int (nar .byte yy2), .int 0, .int 0, .int 0] d7_176
  replace X00 := X00.wr W14 g_ds
  replace Va := Va.other W14 hne
  have Zs14 := Nat.le_trans Zs12 (Keep.of_wr W14).1
  replace KK := KK.wr W14 (Or.inl (by simp))
  have N14 := Fr.snoc X14 N12 g_ds
  have k15 := fun t_ ht_ => k14 t_ (o_goto X14 hx d7_177 30 (o_iloadN X14 hx d7_30 rfl (o_iload X14 hx d7_31 rfl (o_icmpNo X14 hx d7_33 (tlt (by decide)).2.1 (o_aload X14 hx d7_36 rfl rfl (o_aloadN X14 hx d7_38 rfl rfl (o_iloadN X14 hx d7_39 rfl (o_iinc X14 hx d7_40 #[Lr dco, Lr ar, Li 5, Li 8, Lr ds, Li 0, Li 1, Li 0, Lr tbd, Li 8, Li 3, Li v0, Li v1, Li v2, Li v3, Li bt0] rfl rfl (o_ldB X14 hx hZ d7_43 e14 Va ⟨by decide, by decide⟩ (rfl : _ = Value.int r4) (o_sipush X14 hx d7_44 255 rfl (o_iand X14 hx d7_47 rfl ht_)))))))))))
  rw [own_r255 hc4] at k15
  have od16 := aTd.ext X00.2
  have k17 := fun t_ ht_ => k15 t_ (o_ldI X14 hx hZ d7_48 e14 od16 (own_i256 hc4) (own_tabD_at hc4) (o_istore X14 hx d7_49 #[Lr dco, Lr ar, Li 5, Li 8, Lr ds, Li 0, Li 1, Li 0, Lr tbd, Li 8, Li 3, Li v4, Li v1, Li v2, Li v3, Li bt0] rfl (o_aload X14 hx d7_51 rfl rfl (o_aloadN X14 hx d7_53 rfl rfl (o_iloadN X14 hx d7_54 rfl (o_iinc X14 hx d7_55 #[Lr dco, Lr ar, Li 6, Li 8, Lr ds, Li 0, Li 1, Li 0, Lr tbd, Li 8, Li 3, Li v4, Li v1, Li v2, Li v3, Li bt0] rfl rfl (o_ldB X14 hx hZ d7_58 e14 Va ⟨by decide, by decide⟩ (rfl : _ = Value.int r5) (o_sipush X14 hx d7_59 255 rfl (o_iand X14 hx d7_62 rfl ht_)))))))))
  rw [own_r255 hc5] at k17
  have k18 := fun t_ ht_ => k17 t_ (o_ldI X14 hx hZ d7_63 e14 od16 (own_i256 hc5) (own_tabD_at hc5) (o_istore X14 hx d7_64 #[Lr dco, Lr ar, Li 6, Li 8, Lr ds, Li 0, Li 1, Li 0, Lr tbd, Li 8, Li 3, Li v4, Li v5, Li v2, Li v3, Li bt0] rfl (o_aload X14 hx d7_66 rfl rfl (o_aloadN X14 hx d7_68 rfl rfl (o_iloadN X14 hx d7_69 rfl (o_iinc X14 hx d7_70 #[Lr dco, Lr ar, Li 7, Li 8, Lr ds, Li 0, Li 1, Li 0, Lr tbd, Li 8, Li 3, Li v4, Li v5, Li v2, Li v3, Li bt0] rfl rfl (o_ldB X14 hx hZ d7_73 e14 Va ⟨by decide, by decide⟩ (rfl : _ = Value.int r6) (o_sipush X14 hx d7_74 255 rfl (o_iand X14 hx d7_77 rfl ht_)))))))))
  rw [own_r255 hc6] at k18
  have k19 := fun t_ ht_ => k18 t_ (o_ldI X14 hx hZ d7_78 e14 od16 (own_i256 hc6) (own_tabD_at hc6) (o_istore X14 hx d7_79 #[Lr dco, Lr ar, Li 7, Li 8, Lr ds, Li 0, Li 1, Li 0, Lr tbd, Li 8, Li 3, Li v4, Li v5, Li v6, Li v3, Li bt0] rfl (o_aload X14 hx d7_81 rfl rfl (o_aloadN X14 hx d7_83 rfl rfl (o_iloadN X14 hx d7_84 rfl (o_iinc X14 hx d7_85 #[Lr dco, Lr ar, Li 8, Li 8, Lr ds, Li 0, Li 1, Li 0, Lr tbd, Li 8, Li 3, Li v4, Li v5, Li v6, Li v3, Li bt0] rfl rfl (o_ldB X14 hx hZ d7_88 e14 Va ⟨by decide, by decide⟩ (rfl : _ = Value.int r7) (o_sipush X14 hx d7_89 255 rfl (o_iand X14 hx d7_92 rfl ht_)))))))))
  rw [own_r255 hc7] at k19
  have k20 := fun t_ ht_ => k19 t_ (o_ldI X14 hx hZ d7_93 e14 od16 (own_i256 hc7) (own_tabD_at hc7) (o_istore X14 hx d7_94 #[Lr dco, Lr ar, Li 8, Li 8, Lr ds, Li 0, Li 1, Li 0, Lr tbd, Li 8, Li 3, Li v4, Li v5, Li v6, Li v7, Li bt0] rfl (o_iload X14 hx d7_96 rfl (o_iload X14 hx d7_98 rfl (o_ior X14 hx d7_100 rfl (o_iload X14 hx d7_101 rfl (o_ior X14 hx d7_103 rfl (o_iload X14 hx d7_104 rfl (o_ior X14 hx d7_106 rfl (o_ifYes X14 hx d7_107 ((if0 _ _).trans (flt (own_or4 hc4 hc5 hc6 hc7)).2.1) 116 (o_iload X14 hx d7_116 rfl (o_bipush X14 hx d7_118 18 rfl (o_ishl X14 hx d7_120 (o_iload X14 hx d7_121 rfl (o_bipush X14 hx d7_123 12 rfl (o_ishl X14 hx d7_125 (o_ior X14 hx d7_126 rfl (o_iload X14 hx d7_127 rfl (o_bipush X14 hx d7_129 6 rfl (o_ishl X14 hx d7_131 (o_ior X14 hx d7_132 rfl (o_iload X14 hx d7_133 rfl (o_ior X14 hx d7_135 rfl (o_istore X14 hx d7_136 #[Lr dco, Lr ar, Li 8, Li 8, Lr ds, Li 0, Li 1, Li 0, Lr tbd, Li 8, Li 3, Li v4, Li v5, Li v6, Li v7, Li ((((v4 <<< ((18 : Int32) &&& 31)) ||| (v5 <<< ((12 : Int32) &&& 31))) ||| (v6 <<< ((6 : Int32) &&& 31))) ||| v7)] rfl ht_))))))))))))))))))))))))
  obtain ⟨bt1, hbt1⟩ : ∃ z : Int32, z = ((((v4 <<< ((18 : Int32) &&& 31)) ||| (v5 <<< ((12 : Int32) &&& 31))) ||| (v6 <<< ((6 : Int32) &&& 31))) ||| v7) := ⟨_, rfl⟩
  rw [← hbt1] at k20
  have k21 := fun t_ ht_ => k20 t_ (o_aload X14 hx d7_138 rfl rfl (o_iload X14 hx d7_140 rfl (o_iinc X14 hx d7_142 #[Lr dco, Lr ar, Li 8, Li 8, Lr ds, Li 0, Li 1, Li 0, Lr tbd, Li 8, Li 4, Li v4, Li v5, Li v6, Li v7, Li bt1] rfl rfl (o_iload X14 hx d7_145 rfl (o_bipush X14 hx d7_147 16 rfl (o_ishr X14 hx d7_149 (o_i2b X14 hx d7_150 ht_)))))))
  obtain ⟨yy3, hyy3⟩ : ∃ z : Int32, z = ((bt1 >>> ((16 : Int32) &&& 31)).toInt8.toInt32) := ⟨_, rfl⟩
  rw [← hyy3] at k21
  have sb3 := own_Y0 hq1 hc4 hc5 hc6 hc7 hbt1 hyy3
  obtain ⟨T22, h22, X22, e22, W22, Vd, k22⟩ := o_stB X14 hx hZ k21 e14 Vd 3 [.int (nar .byte yy0), .int (nar .byte yy1), .int (nar .byte yy2), .int (nar .byte yy3), .int 0, .int 0] d7_151
  replace X00 := X00.wr W22 g_ds
  replace Va := Va.other W22 hne
  have Zs22 := Nat.le_trans Zs14 (Keep.of_wr W22).1
  replace KK := KK.wr W22 (Or.inl (by simp))
  have N22 := Fr.snoc X22 N14 g_ds
  have k23 := fun t_ ht_ => k22 t_ (o_aload X22 hx d7_152 rfl rfl (o_iload X22 hx d7_154 rfl (o_iinc X22 hx d7_156 #[Lr dco, Lr ar, Li 8, Li 8, Lr ds, Li 0, Li 1, Li 0, Lr tbd, Li 8, Li 5, Li v4, Li v5, Li v6, Li v7, Li bt1] rfl rfl (o_iload X22 hx d7_159 rfl (o_bipush X22 hx d7_161 8 rfl (o_ishr X22 hx d7_163 (o_i2b X22 hx d7_164 ht_)))))))
  obtain ⟨yy4, hyy4⟩ : ∃ z : Int32, z = ((bt1 >>> ((8 : Int32) &&& 31)).toInt8.toInt32) := ⟨_, rfl⟩
  rw [← hyy4] at k23
  have sb4 := own_Y1 hq1 hc4 hc5 hc6 hc7 hbt1 hyy4
  obtain ⟨T24, h24, X24, e24, W24, Vd, k24⟩ := o_stB X22 hx hZ k23 e22 Vd 4 [.int (nar .byte yy0), .int (nar .byte yy1), .int (nar .byte yy2), .int (nar .byte yy3), .int (nar .byte yy4), .int 0] d7_165
  replace X00 := X00.wr W24 g_ds
  replace Va := Va.other W24 hne
  have Zs24 := Nat.le_trans Zs22 (Keep.of_wr W24).1
  replace KK := KK.wr W24 (Or.inl (by simp))
  have N24 := Fr.snoc X24 N22 g_ds
  have k25 := fun t_ ht_ => k24 t_ (o_aload X24 hx d7_166 rfl rfl (o_iload X24 hx d7_168 rfl (o_iinc X24 hx d7_170 #[Lr dco, Lr ar, Li 8, Li 8, Lr ds, Li 0, Li 1, Li 0, Lr tbd, Li 8, Li 6, Li v4, Li v5, Li v6, Li v7, Li bt1] rfl rfl (o_iload X24 hx d7_173 rfl (o_i2b X24 hx d7_175 ht_)))))
  obtain ⟨yy5, hyy5⟩ : ∃ z : Int32, z = (bt1.toInt8.toInt32) := ⟨_, rfl⟩
  rw [← hyy5] at k25
  have sb5 := own_Y2 hq1 hc4 hc5 hc6 hc7 hbt1 hyy5
  obtain ⟨T26, h26, X26, e26, W26, Vd, k26⟩ := o_stB X24 hx hZ k25 e24 Vd 5 [.int (nar .byte yy0), .int (nar .byte yy1), .int (nar .byte yy2), .int (nar .byte yy3), .int (nar .byte yy4), .int (nar .byte yy5)] d7_176
  replace X00 := X00.wr W26 g_ds
  replace Va := Va.other W26 hne
  have Zs26 := Nat.le_trans Zs24 (Keep.of_wr W26).1
  replace KK := KK.wr W26 (Or.inl (by simp))
  have N26 := Fr.snoc X26 N24 g_ds
  have k27 := fun t_ ht_ => k26 t_ (o_goto X26 hx d7_177 30 (o_iloadN X26 hx d7_30 rfl (o_iload X26 hx d7_31 rfl (o_icmpYes X26 hx d7_33 (flt (by decide)).2.1 180 (o_iload X26 hx d7_180 rfl (o_iload X26 hx d7_182 rfl (o_isub X26 hx d7_184 (rfl : _ = (6 : Int32)) ht_)))))))
  exact o_retI X26 hx k27 hlk hret d7_185 (by rw [e26]; exact ⟨(nar .byte yy0), (nar .byte yy1), (nar .byte yy2), (nar .byte yy3), (nar .byte yy4), (nar .byte yy5), rfl, N26, KK, Vd, sb0, sb1, sb2, sb3, sb4, sb5⟩)
theorem ef_27 (m : MethodId) (x0 x1 : Addr) (x2 x3 : Int32) (x4 : Addr) (x5 x6 : Int32) : entryFrame m #[.ref x0, .ref x1, .int x2, .int x3, .ref x4, .int x5, .int x6] 11 = mkF m 0 #[Lr x0, Lr x1, Li x2, Li x3, Lr x4, Li x5, Li x6, Lu, Lu, Lu, Lu] [] := by first | (simp [entryFrame, mkF, argsToLocals, Value.category]; done) | rfl
def Q27 (Z : State) (eno ar ds dco iso utf tbd tbe : Addr) (kd ke : ClassId) (G1 : Int32) (fm : Value) (kb kc : ClassId) (B0 B1 B2 B3 B4 B5 v0 v1 v2 v3 v4 v5 v6 v7 r0 r1 r2 r3 r4 r5 r6 r7 y0 y1 y2 : Int32) (h0 : Heap) (n0 : Nat) (v : Option Value) (h : Heap) (L : List Loc) : Prop := v = none ∧ Fr n0 L ∧ Keep h0 h [ds] ∧ Arv Z h ds kc .byte (4 : Int32) [.int r0, .int r1, .int r2, .int r3] (.int 0)
set_option maxRecDepth 65536 in
set_option maxHeartbeats 40000000 in
theorem rm27 (hw : own_W a0 Z) (eno ar ds dco iso utf tbd tbe : Addr) (kd ke : ClassId) (G1 : Int32) (fm : Value) (kb kc : ClassId) (B0 B1 B2 B3 B4 B5 v0 v1 v2 v3 v4 v5 v6 v7 r0 r1 r2 r3 r4 r5 r6 r7 y0 y1 y2 : Int32) (h0 : Heap) (n0 : Nat) (Z0 : n0 ≤ h0.size) (hG : own_G Z dco eno iso utf tbd tbe kd ke G1 fm) (X00 : Old Z n0 h0) (Va : Arv Z h0 ar kb .byte (3 : Int32) [.int y0, .int y1, .int y2] (.int 0)) (Vd : Arv Z h0 ds kc .byte (4 : Int32) [.int (0 : Int32), .int (0 : Int32), .int (0 : Int32), .int (0 : Int32)] (.int 0)) (hne : ar ≠ ds) (g_ds : n0 ≤ ds) (hD : own_D 3 B0 B1 B2 B3 B4 B5 v0 v1 v2 v3 v4 v5 v6 v7 r0 r1 r2 r3 r4 r5 r6 r7) (hs0 : own_SB y0 B0) (hs1 : own_SB y1 B1) (hs2 : own_SB y2 B2) :
    own_M l Z yy8 q8 11 none ⟨0, 0, 0, 0⟩ #[.ref eno, .ref ar, .int 0, .int 3, .ref ds, .int 0, .int 1] h0 [] (Q27 Z eno ar ds dco iso utf tbd tbe kd ke G1 fm kb kc B0 B1 B2 B3 B4 B5 v0 v1 v2 v3 v4 v5 v6 v7 r0 r1 r2 r3 r4 r5 r6 r7 y0 y1 y2 h0 n0) := by
  refine own_body (plainFor_of_name pn_3) ?_
  intro p e s m below meth c s₁ A hx hml hown hnm hlk hret hZ X0 e0 k0
  replace k0 := own_ent (ef_27 m eno ar 0 3 ds 0 1) k0
  have N0 := Fr.nil n0
  have KK : Keep h0 h0 [ds] := Keep.refl h0 [ds]
  obtain ⟨sD, sE, eD, eE, fDu, fDm, fEp, fEl, fEu, sI, sU, iu, sTd, sTe, aTd, aTe, sC, gC, sS, fmr⟩ := id hG
  obtain ⟨hq0, hq1, hc0, hc1, hc2, hc3, hc4, hc5, hc6, hc7, hz1, hz2, hz4, hz5⟩ := id hD
  have k1 := fun t_ ht_ => k0 t_ (o_iload X0 hx d8_0 rfl (o_ifNo X0 hx d8_2 ((if0 _ _).trans (feq (by decide)).1) ht_))
  obtain ⟨T2, X2, e2, k2⟩ := o_getS X0 hx hZ k1 hown (host := "") (Or.inl (hw 141 rfl)) Via.refl e0 (sTe.ext X00.2) d8_5
  have k3 := fun t_ ht_ => k2 t_ (o_goto X2 hx d8_8 14 (o_astore X2 hx d8_14 #[Lr eno, Lr ar, Li 0, Li 3, Lr ds, Li 0, Li 1, Lr tbe, Lu, Lu, Lu] rfl rfl (o_iloadN X2 hx d8_16 rfl (o_istore X2 hx d8_17 #[Lr eno, Lr ar, Li 0, Li 3, Lr ds, Li 0, Li 1, Lr tbe, Li 0, Lu, Lu] rfl (o_iload X2 hx d8_19 rfl (o_istore X2 hx d8_21 #[Lr eno, Lr ar, Li 0, Li 3, Lr ds, Li 0, Li 1, Lr tbe, Li 0, Li 0, Lu] rfl (o_iload X2 hx d8_23 rfl (o_iloadN X2 hx d8_25 rfl (o_icmpNo X2 hx d8_26 (tlt (by decide)).2.1 (o_aloadN X2 hx d8_29 rfl rfl (o_iload X2 hx d8_30 rfl (o_iinc X2 hx d8_32 #[Lr eno, Lr ar, Li 0, Li 3, Lr ds, Li 0, Li 1, Lr tbe, Li 1, Li 0, Lu] rfl rfl (o_ldB X2 hx hZ d8_35 e2 Va ⟨by decide, by decide⟩ (rfl : _ = Value.int y0) (o_sipush X2 hx d8_36 255 rfl (o_iand X2 hx d8_39 rfl ht_)))))))))))))))
  rw [own_sb255 hs0] at k3
  have k4 := fun t_ ht_ => k3 t_ (o_bipush X2 hx d8_40 16 rfl (o_ishl X2 hx d8_42 (o_aloadN X2 hx d8_43 rfl rfl (o_iload X2 hx d8_44 rfl (o_iinc X2 hx d8_46 #[Lr eno, Lr ar, Li 0, Li 3, Lr ds, Li 0, Li 1, Lr tbe, Li 2, Li 0, Lu] rfl rfl (o_ldB X2 hx hZ d8_49 e2 Va ⟨by decide, by decide⟩ (rfl : _ = Value.int y1) (o_sipush X2 hx d8_50 255 rfl (o_iand X2 hx d8_53 rfl ht_))))))))
  rw [own_sb255 hs1] at k4
  have k5 := fun t_ ht_ => k4 t_ (o_bipush X2 hx d8_54 8 rfl (o_ishl X2 hx d8_56 (o_ior X2 hx d8_57 rfl (o_aloadN X2 hx d8_58 rfl rfl (o_iload X2 hx d8_59 rfl (o_iinc X2 hx d8_61 #[Lr eno, Lr ar, Li 0, Li 3, Lr ds, Li 0, Li 1, Lr tbe, Li 3, Li 0, Lu] rfl rfl (o_ldB X2 hx hZ d8_64 e2 Va ⟨by decide, by decide⟩ (rfl : _ = Value.int y2) (o_sipush X2 hx d8_65 255 rfl (o_iand X2 hx d8_68 rfl ht_)))))))))
  rw [own_sb255 hs2] at k5
  have k6 := fun t_ ht_ => k5 t_ (o_ior X2 hx d8_69 rfl (o_istore X2 hx d8_70 #[Lr eno, Lr ar, Li 0, Li 3, Lr ds, Li 0, Li 1, Lr tbe, Li 3, Li 0, Li (((B0 <<< ((16 : Int32) &&& 31)) ||| (B1 <<< ((8 : Int32) &&& 31))) ||| B2)] rfl ht_))
  obtain ⟨eb0, heb0⟩ : ∃ z : Int32, z = (((B0 <<< ((16 : Int32) &&& 31)) ||| (B1 <<< ((8 : Int32) &&& 31))) ||| B2) := ⟨_, rfl⟩
  rw [← heb0] at k6
  have ee0 := own_ebq hq0 heb0
  have k7 := fun t_ ht_ => k6 t_ (o_aload X2 hx d8_72 rfl rfl (o_iload X2 hx d8_74 rfl (o_iinc X2 hx d8_76 #[Lr eno, Lr ar, Li 0, Li 3, Lr ds, Li 0, Li 1, Lr tbe, Li 3, Li 1, Li eb0] rfl rfl (o_aload X2 hx d8_79 rfl rfl (o_iload X2 hx d8_81 rfl (o_bipush X2 hx d8_83 18 rfl (o_iushr X2 hx d8_85 (o_bipush X2 hx d8_86 63 rfl (o_iand X2 hx d8_88 rfl ht_)))))))))
  obtain ⟨qx0, hqx0⟩ : ∃ z : Int32, z = (((eb0.toUInt32 >>> ((18 : Int32) &&& 31).toUInt32).toInt32) &&& (63 : Int32)) := ⟨_, rfl⟩
  rw [← hqx0] at k7
  have od8 := aTe.ext X00.2
  have k9 := fun t_ ht_ => k7 t_ (o_ldC X2 hx hZ d8_89 e2 od8 (own_i64 hc0 (own_x0 hq0 ee0 hqx0)) (own_tabE_at hc0 (own_x0 hq0 ee0 hqx0)) (o_i2b X2 hx d8_90 ht_))
  obtain ⟨T10, h10, X10, e10, W10, Vd, k10⟩ := o_stB X2 hx hZ k9 e2 Vd 0 [.int (nar .byte (r0.toInt8.toInt32)), .int 0, .int 0, .int 0] d8_91
  replace X00 := X00.wr W10 g_ds
  replace Va := Va.other W10 hne
  have Zs10 := Nat.le_trans Z0 (Keep.of_wr W10).1
  replace KK := KK.wr W10 (Or.inl (by simp))
  have N10 := Fr.snoc X10 N0 g_ds
  rw [own_rnb hc0] at Vd
  have k11 := fun t_ ht_ => k10 t_ (o_aload X10 hx d8_92 rfl rfl (o_iload X10 hx d8_94 rfl (o_iinc X10 hx d8_96 #[Lr eno, Lr ar, Li 0, Li 3, Lr ds, Li 0, Li 1, Lr tbe, Li 3, Li 2, Li eb0] rfl rfl (o_aload X10 hx d8_99 rfl rfl (o_iload X10 hx d8_101 rfl (o_bipush X10 hx d8_103 12 rfl (o_iushr X10 hx d8_105 (o_bipush X10 hx d8_106 63 rfl (o_iand X10 hx d8_108 rfl ht_)))))))))
  obtain ⟨qx1, hqx1⟩ : ∃ z : Int32, z = (((eb0.toUInt32 >>> ((12 : Int32) &&& 31).toUInt32).toInt32) &&& (63 : Int32)) := ⟨_, rfl⟩
  rw [← hqx1] at k11
  have od12 := aTe.ext X00.2
  have k13 := fun t_ ht_ => k11 t_ (o_ldC X10 hx hZ d8_109 e10 od12 (own_i64 hc1 (own_x1 hq0 ee0 hqx1)) (own_tabE_at hc1 (own_x1 hq0 ee0 hqx1)) (o_i2b X10 hx d8_110 ht_))
  obtain ⟨T14, h14, X14, e14, W14, Vd, k14⟩ := o_stB X10 hx hZ k13 e10 Vd 1 [.int r0, .int (nar .byte (r1.toInt8.toInt32)), .int 0, .int 0] d8_111
  replace X00 := X00.wr W14 g_ds
  replace Va := Va.other W14 hne
  have Zs14 := Nat.le_trans Zs10 (Keep.of_wr W14).1
  replace KK := KK.wr W14 (Or.inl (by simp))
  have N14 := Fr.snoc X14 N10 g_ds
  rw [own_rnb hc1] at Vd
  have k15 := fun t_ ht_ => k14 t_ (o_aload X14 hx d8_112 rfl rfl (o_iload X14 hx d8_114 rfl (o_iinc X14 hx d8_116 #[Lr eno, Lr ar, Li 0, Li 3, Lr ds, Li 0, Li 1, Lr tbe, Li 3, Li 3, Li eb0] rfl rfl (o_aload X14 hx d8_119 rfl rfl (o_iload X14 hx d8_121 rfl (o_bipush X14 hx d8_123 6 rfl (o_iushr X14 hx d8_125 (o_bipush X14 hx d8_126 63 rfl (o_iand X14 hx d8_128 rfl ht_)))))))))
  obtain ⟨qx2, hqx2⟩ : ∃ z : Int32, z = (((eb0.toUInt32 >>> ((6 : Int32) &&& 31).toUInt32).toInt32) &&& (63 : Int32)) := ⟨_, rfl⟩
  rw [← hqx2] at k15
  have od16 := aTe.ext X00.2
  have k17 := fun t_ ht_ => k15 t_ (o_ldC X14 hx hZ d8_129 e14 od16 (own_i64 hc2 (own_x2 hq0 ee0 hqx2)) (own_tabE_at hc2 (own_x2 hq0 ee0 hqx2)) (o_i2b X14 hx d8_130 ht_))
  obtain ⟨T18, h18, X18, e18, W18, Vd, k18⟩ := o_stB X14 hx hZ k17 e14 Vd 2 [.int r0, .int r1, .int (nar .byte (r2.toInt8.toInt32)), .int 0] d8_131
  replace X00 := X00.wr W18 g_ds
  replace Va := Va.other W18 hne
  have Zs18 := Nat.le_trans Zs14 (Keep.of_wr W18).1
  replace KK := KK.wr W18 (Or.inl (by simp))
  have N18 := Fr.snoc X18 N14 g_ds
  rw [own_rnb hc2] at Vd
  have k19 := fun t_ ht_ => k18 t_ (o_aload X18 hx d8_132 rfl rfl (o_iload X18 hx d8_134 rfl (o_iinc X18 hx d8_136 #[Lr eno, Lr ar, Li 0, Li 3, Lr ds, Li 0, Li 1, Lr tbe, Li 3, Li 4, Li eb0] rfl rfl (o_aload X18 hx d8_139 rfl rfl (o_iload X18 hx d8_141 rfl (o_bipush X18 hx d8_143 63 rfl (o_iand X18 hx d8_145 rfl ht_)))))))
  obtain ⟨qx3, hqx3⟩ : ∃ z : Int32, z = (eb0 &&& (63 : Int32)) := ⟨_, rfl⟩
  rw [← hqx3] at k19
  have od20 := aTe.ext X00.2
  have k21 := fun t_ ht_ => k19 t_ (o_ldC X18 hx hZ d8_146 e18 od20 (own_i64 hc3 (own_x3 hq0 ee0 hqx3)) (own_tabE_at hc3 (own_x3 hq0 ee0 hqx3)) (o_i2b X18 hx d8_147 ht_))
  obtain ⟨T22, h22, X22, e22, W22, Vd, k22⟩ := o_stB X18 hx hZ k21 e18 Vd 3 [.int r0, .int r1, .int r2, .int (nar .byte (r3.toInt8.toInt32))] d8_148
  replace X00 := X00.wr W22 g_ds
  replace Va := Va.other W22 hne
  have Zs22 := Nat.le_trans Zs18 (Keep.of_wr W22).1
  replace KK := KK.wr W22 (Or.inl (by simp))
  have N22 := Fr.snoc X22 N18 g_ds
  rw [own_rnb hc3] at Vd
  have k23 := fun t_ ht_ => k22 t_ (o_goto X22 hx d8_149 23 (o_iload X22 hx d8_23 rfl (o_iloadN X22 hx d8_25 rfl (o_icmpYes X22 hx d8_26 (flt (by decide)).2.1 152 ht_))))
  exact o_retV X22 hx k23 hlk hret d8_152 (by rw [e22]; exact ⟨rfl, N22, KK, Vd⟩)
theorem ef_28 (m : MethodId) (x0 x1 : Addr) (x2 x3 : Int32) (x4 : Addr) (x5 x6 : Int32) : entryFrame m #[.ref x0, .ref x1, .int x2, .int x3, .ref x4, .int x5, .int x6] 11 = mkF m 0 #[Lr x0, Lr x1, Li x2, Li x3, Lr x4, Li x5, Li x6, Lu, Lu, Lu, Lu] [] := by first | (simp [entryFrame, mkF, argsToLocals, Value.category]; done) | rfl
def Q28 (Z : State) (eno ar ds dco iso utf tbd tbe : Addr) (kd ke : ClassId) (G1 : Int32) (fm : Value) (kb kc : ClassId) (B0 B1 B2 B3 B4 B5 v0 v1 v2 v3 v4 v5 v6 v7 r0 r1 r2 r3 r4 r5 r6 r7 y0 y1 y2 y3 : Int32) (h0 : Heap) (n0 : Nat) (v : Option Value) (h : Heap) (L : List Loc) : Prop := v = none ∧ Fr n0 L ∧ Keep h0 h [ds] ∧ Arv Z h ds kc .byte (6 : Int32) [.int r0, .int r1, .int r2, .int r3, .int (0 : Int32), .int (0 : Int32)] (.int 0)
set_option maxRecDepth 65536 in
set_option maxHeartbeats 40000000 in
theorem rm28 (hw : own_W a0 Z) (eno ar ds dco iso utf tbd tbe : Addr) (kd ke : ClassId) (G1 : Int32) (fm : Value) (kb kc : ClassId) (B0 B1 B2 B3 B4 B5 v0 v1 v2 v3 v4 v5 v6 v7 r0 r1 r2 r3 r4 r5 r6 r7 y0 y1 y2 y3 : Int32) (h0 : Heap) (n0 : Nat) (Z0 : n0 ≤ h0.size) (hG : own_G Z dco eno iso utf tbd tbe kd ke G1 fm) (X00 : Old Z n0 h0) (Va : Arv Z h0 ar kb .byte (4 : Int32) [.int y0, .int y1, .int y2, .int y3] (.int 0)) (Vd : Arv Z h0 ds kc .byte (6 : Int32) [.int (0 : Int32), .int (0 : Int32), .int (0 : Int32), .int (0 : Int32), .int (0 : Int32), .int (0 : Int32)] (.int 0)) (hne : ar ≠ ds) (g_ds : n0 ≤ ds) (hD : own_D 4 B0 B1 B2 B3 B4 B5 v0 v1 v2 v3 v4 v5 v6 v7 r0 r1 r2 r3 r4 r5 r6 r7) (hs0 : own_SB y0 B0) (hs1 : own_SB y1 B1) (hs2 : own_SB y2 B2) (hs3 : own_SB y3 B3) :
    own_M l Z yy8 q8 11 none ⟨0, 0, 0, 0⟩ #[.ref eno, .ref ar, .int 0, .int 3, .ref ds, .int 0, .int 1] h0 [] (Q28 Z eno ar ds dco iso utf tbd tbe kd ke G1 fm kb kc B0 B1 B2 B3 B4 B5 v0 v1 v2 v3 v4 v5 v6 v7 r0 r1 r2 r3 r4 r5 r6 r7 y0 y1 y2 y3 h0 n0) := by
  refine own_body (plainFor_of_name pn_3) ?_
  intro p e s m below meth c s₁ A hx hml hown hnm hlk hret hZ X0 e0 k0
  replace k0 := own_ent (ef_28 m eno ar 0 3 ds 0 1) k0
  have N0 := Fr.nil n0
  have KK : Keep h0 h0 [ds] := Keep.refl h0 [ds]
  obtain ⟨sD, sE, eD, eE, fDu, fDm, fEp, fEl, fEu, sI, sU, iu, sTd, sTe, aTd, aTe, sC, gC, sS, fmr⟩ := id hG
  obtain ⟨hq0, hq1, hc0, hc1, hc2, hc3, hc4, hc5, hc6, hc7, hz1, hz2, hz4, hz5⟩ := id hD
  have k1 := fun t_ ht_ => k0 t_ (o_iload X0 hx d8_0 rfl (o_ifNo X0 hx d8_2 ((if0 _ _).trans (feq (by decide)).1) ht_))
  obtain ⟨T2, X2, e2, k2⟩ := o_getS X0 hx hZ k1 hown (host := "") (Or.inl (hw 141 rfl)) Via.refl e0 (sTe.ext X00.2) d8_5
  have k3 := fun t_ ht_ => k2 t_ (o_goto X2 hx d8_8 14 (o_astore X2 hx d8_14 #[Lr eno, Lr ar, Li 0, Li 3, Lr ds, Li 0, Li 1, Lr tbe, Lu, Lu, Lu] rfl rfl (o_iloadN X2 hx d8_16 rfl (o_istore X2 hx d8_17 #[Lr eno, Lr ar, Li 0, Li 3, Lr ds, Li 0, Li 1, Lr tbe, Li 0, Lu, Lu] rfl (o_iload X2 hx d8_19 rfl (o_istore X2 hx d8_21 #[Lr eno, Lr ar, Li 0, Li 3, Lr ds, Li 0, Li 1, Lr tbe, Li 0, Li 0, Lu] rfl (o_iload X2 hx d8_23 rfl (o_iloadN X2 hx d8_25 rfl (o_icmpNo X2 hx d8_26 (tlt (by decide)).2.1 (o_aloadN X2 hx d8_29 rfl rfl (o_iload X2 hx d8_30 rfl (o_iinc X2 hx d8_32 #[Lr eno, Lr ar, Li 0, Li 3, Lr ds, Li 0, Li 1, Lr tbe, Li 1, Li 0, Lu] rfl rfl (o_ldB X2 hx hZ d8_35 e2 Va ⟨by decide, by decide⟩ (rfl : _ = Value.int y0) (o_sipush X2 hx d8_36 255 rfl (o_iand X2 hx d8_39 rfl ht_)))))))))))))))
  rw [own_sb255 hs0] at k3
  have k4 := fun t_ ht_ => k3 t_ (o_bipush X2 hx d8_40 16 rfl (o_ishl X2 hx d8_42 (o_aloadN X2 hx d8_43 rfl rfl (o_iload X2 hx d8_44 rfl (o_iinc X2 hx d8_46 #[Lr eno, Lr ar, Li 0, Li 3, Lr ds, Li 0, Li 1, Lr tbe, Li 2, Li 0, Lu] rfl rfl (o_ldB X2 hx hZ d8_49 e2 Va ⟨by decide, by decide⟩ (rfl : _ = Value.int y1) (o_sipush X2 hx d8_50 255 rfl (o_iand X2 hx d8_53 rfl ht_))))))))
  rw [own_sb255 hs1] at k4
  have k5 := fun t_ ht_ => k4 t_ (o_bipush X2 hx d8_54 8 rfl (o_ishl X2 hx d8_56 (o_ior X2 hx d8_57 rfl (o_aloadN X2 hx d8_58 rfl rfl (o_iload X2 hx d8_59 rfl (o_iinc X2 hx d8_61 #[Lr eno, Lr ar, Li 0, Li 3, Lr ds, Li 0, Li 1, Lr tbe, Li 3, Li 0, Lu] rfl rfl (o_ldB X2 hx hZ d8_64 e2 Va ⟨by decide, by decide⟩ (rfl : _ = Value.int y2) (o_sipush X2 hx d8_65 255 rfl (o_iand X2 hx d8_68 rfl ht_)))))))))
  rw [own_sb255 hs2] at k5
  have k6 := fun t_ ht_ => k5 t_ (o_ior X2 hx d8_69 rfl (o_istore X2 hx d8_70 #[Lr eno, Lr ar, Li 0, Li 3, Lr ds, Li 0, Li 1, Lr tbe, Li 3, Li 0, Li (((B0 <<< ((16 : Int32) &&& 31)) ||| (B1 <<< ((8 : Int32) &&& 31))) ||| B2)] rfl ht_))
  obtain ⟨eb0, heb0⟩ : ∃ z : Int32, z = (((B0 <<< ((16 : Int32) &&& 31)) ||| (B1 <<< ((8 : Int32) &&& 31))) ||| B2) := ⟨_, rfl⟩
  rw [← heb0] at k6
  have ee0 := own_ebq hq0 heb0
  have k7 := fun t_ ht_ => k6 t_ (o_aload X2 hx d8_72 rfl rfl (o_iload X2 hx d8_74 rfl (o_iinc X2 hx d8_76 #[Lr eno, Lr ar, Li 0, Li 3, Lr ds, Li 0, Li 1, Lr tbe, Li 3, Li 1, Li eb0] rfl rfl (o_aload X2 hx d8_79 rfl rfl (o_iload X2 hx d8_81 rfl (o_bipush X2 hx d8_83 18 rfl (o_iushr X2 hx d8_85 (o_bipush X2 hx d8_86 63 rfl (o_iand X2 hx d8_88 rfl ht_)))))))))
  obtain ⟨qx0, hqx0⟩ : ∃ z : Int32, z = (((eb0.toUInt32 >>> ((18 : Int32) &&& 31).toUInt32).toInt32) &&& (63 : Int32)) := ⟨_, rfl⟩
  rw [← hqx0] at k7
  have od8 := aTe.ext X00.2
  have k9 := fun t_ ht_ => k7 t_ (o_ldC X2 hx hZ d8_89 e2 od8 (own_i64 hc0 (own_x0 hq0 ee0 hqx0)) (own_tabE_at hc0 (own_x0 hq0 ee0 hqx0)) (o_i2b X2 hx d8_90 ht_))
  obtain ⟨T10, h10, X10, e10, W10, Vd, k10⟩ := o_stB X2 hx hZ k9 e2 Vd 0 [.int (nar .byte (r0.toInt8.toInt32)), .int 0, .int 0, .int 0, .int 0, .int 0] d8_91
  replace X00 := X00.wr W10 g_ds
  replace Va := Va.other W10 hne
  have Zs10 := Nat.le_trans Z0 (Keep.of_wr W10).1
  replace KK := KK.wr W10 (Or.inl (by simp))
  have N10 := Fr.snoc X10 N0 g_ds
  rw [own_rnb hc0] at Vd
  have k11 := fun t_ ht_ => k10 t_ (o_aload X10 hx d8_92 rfl rfl (o_iload X10 hx d8_94 rfl (o_iinc X10 hx d8_96 #[Lr eno, Lr ar, Li 0, Li 3, Lr ds, Li 0, Li 1, Lr tbe, Li 3, Li 2, Li eb0] rfl rfl (o_aload X10 hx d8_99 rfl rfl (o_iload X10 hx d8_101 rfl (o_bipush X10 hx d8_103 12 rfl (o_iushr X10 hx d8_105 (o_bipush X10 hx d8_106 63 rfl (o_iand X10 hx d8_108 rfl ht_)))))))))
  obtain ⟨qx1, hqx1⟩ : ∃ z : Int32, z = (((eb0.toUInt32 >>> ((12 : Int32) &&& 31).toUInt32).toInt32) &&& (63 : Int32)) := ⟨_, rfl⟩
  rw [← hqx1] at k11
  have od12 := aTe.ext X00.2
  have k13 := fun t_ ht_ => k11 t_ (o_ldC X10 hx hZ d8_109 e10 od12 (own_i64 hc1 (own_x1 hq0 ee0 hqx1)) (own_tabE_at hc1 (own_x1 hq0 ee0 hqx1)) (o_i2b X10 hx d8_110 ht_))
  obtain ⟨T14, h14, X14, e14, W14, Vd, k14⟩ := o_stB X10 hx hZ k13 e10 Vd 1 [.int r0, .int (nar .byte (r1.toInt8.toInt32)), .int 0, .int 0, .int 0, .int 0] d8_111
  replace X00 := X00.wr W14 g_ds
  replace Va := Va.other W14 hne
  have Zs14 := Nat.le_trans Zs10 (Keep.of_wr W14).1
  replace KK := KK.wr W14 (Or.inl (by simp))
  have N14 := Fr.snoc X14 N10 g_ds
  rw [own_rnb hc1] at Vd
  have k15 := fun t_ ht_ => k14 t_ (o_aload X14 hx d8_112 rfl rfl (o_iload X14 hx d8_114 rfl (o_iinc X14 hx d8_116 #[Lr eno, Lr ar, Li 0, Li 3, Lr ds, Li 0, Li 1, Lr tbe, Li 3, Li 3, Li eb0] rfl rfl (o_aload X14 hx d8_119 rfl rfl (o_iload X14 hx d8_121 rfl (o_bipush X14 hx d8_123 6 rfl (o_iushr X14 hx d8_125 (o_bipush X14 hx d8_126 63 rfl (o_iand X14 hx d8_128 rfl ht_)))))))))
  obtain ⟨qx2, hqx2⟩ : ∃ z : Int32, z = (((eb0.toUInt32 >>> ((6 : Int32) &&& 31).toUInt32).toInt32) &&& (63 : Int32)) := ⟨_, rfl⟩
  rw [← hqx2] at k15
  have od16 := aTe.ext X00.2
  have k17 := fun t_ ht_ => k15 t_ (o_ldC X14 hx hZ d8_129 e14 od16 (own_i64 hc2 (own_x2 hq0 ee0 hqx2)) (own_tabE_at hc2 (own_x2 hq0 ee0 hqx2)) (o_i2b X14 hx d8_130 ht_))
  obtain ⟨T18, h18, X18, e18, W18, Vd, k18⟩ := o_stB X14 hx hZ k17 e14 Vd 2 [.int r0, .int r1, .int (nar .byte (r2.toInt8.toInt32)), .int 0, .int 0, .int 0] d8_131
  replace X00 := X00.wr W18 g_ds
  replace Va := Va.other W18 hne
  have Zs18 := Nat.le_trans Zs14 (Keep.of_wr W18).1
  replace KK := KK.wr W18 (Or.inl (by simp))
  have N18 := Fr.snoc X18 N14 g_ds
  rw [own_rnb hc2] at Vd
  have k19 := fun t_ ht_ => k18 t_ (o_aload X18 hx d8_132 rfl rfl (o_iload X18 hx d8_134 rfl (o_iinc X18 hx d8_136 #[Lr eno, Lr ar, Li 0, Li 3, Lr ds, Li 0, Li 1, Lr tbe, Li 3, Li 4, Li eb0] rfl rfl (o_aload X18 hx d8_139 rfl rfl (o_iload X18 hx d8_141 rfl (o_bipush X18 hx d8_143 63 rfl (o_iand X18 hx d8_145 rfl ht_)))))))
  obtain ⟨qx3, hqx3⟩ : ∃ z : Int32, z = (eb0 &&& (63 : Int32)) := ⟨_, rfl⟩
  rw [← hqx3] at k19
  have od20 := aTe.ext X00.2
  have k21 := fun t_ ht_ => k19 t_ (o_ldC X18 hx hZ d8_146 e18 od20 (own_i64 hc3 (own_x3 hq0 ee0 hqx3)) (own_tabE_at hc3 (own_x3 hq0 ee0 hqx3)) (o_i2b X18 hx d8_147 ht_))
  obtain ⟨T22, h22, X22, e22, W22, Vd, k22⟩ := o_stB X18 hx hZ k21 e18 Vd 3 [.int r0, .int r1, .int r2, .int (nar .byte (r3.toInt8.toInt32)), .int 0, .int 0] d8_148
  replace X00 := X00.wr W22 g_ds
  replace Va := Va.other W22 hne
  have Zs22 := Nat.le_trans Zs18 (Keep.of_wr W22).1
  replace KK := KK.wr W22 (Or.inl (by simp))
  have N22 := Fr.snoc X22 N18 g_ds
  rw [own_rnb hc3] at Vd
  have k23 := fun t_ ht_ => k22 t_ (o_goto X22 hx d8_149 23 (o_iload X22 hx d8_23 rfl (o_iloadN X22 hx d8_25 rfl (o_icmpYes X22 hx d8_26 (flt (by decide)).2.1 152 ht_))))
  exact o_retV X22 hx k23 hlk hret d8_152 (by rw [e22]; exact ⟨rfl, N22, KK, Vd⟩)
theorem ef_29 (m : MethodId) (x0 x1 : Addr) (x2 x3 : Int32) (x4 : Addr) (x5 x6 : Int32) : entryFrame m #[.ref x0, .ref x1, .int x2, .int x3, .ref x4, .int x5, .int x6] 11 = mkF m 0 #[Lr x0, Lr x1, Li x2, Li x3, Lr x4, Li x5, Li x6, Lu, Lu, Lu, Lu] [] := by first | (simp [entryFrame, mkF, argsToLocals, Value.category]; done) | rfl
def Q29 (Z : State) (eno ar ds dco iso utf tbd tbe : Addr) (kd ke : ClassId) (G1 : Int32) (fm : Value) (kb kc : ClassId) (B0 B1 B2 B3 B4 B5 v0 v1 v2 v3 v4 v5 v6 v7 r0 r1 r2 r3 r4 r5 r6 r7 y0 y1 y2 y3 y4 : Int32) (h0 : Heap) (n0 : Nat) (v : Option Value) (h : Heap) (L : List Loc) : Prop := v = none ∧ Fr n0 L ∧ Keep h0 h [ds] ∧ Arv Z h ds kc .byte (7 : Int32) [.int r0, .int r1, .int r2, .int r3, .int (0 : Int32), .int (0 : Int32), .int (0 : Int32)] (.int 0)
set_option maxRecDepth 65536 in
set_option maxHeartbeats 40000000 in
theorem rm29 (hw : own_W a0 Z) (eno ar ds dco iso utf tbd tbe : Addr) (kd ke : ClassId) (G1 : Int32) (fm : Value) (kb kc : ClassId) (B0 B1 B2 B3 B4 B5 v0 v1 v2 v3 v4 v5 v6 v7 r0 r1 r2 r3 r4 r5 r6 r7 y0 y1 y2 y3 y4 : Int32) (h0 : Heap) (n0 : Nat) (Z0 : n0 ≤ h0.size) (hG : own_G Z dco eno iso utf tbd tbe kd ke G1 fm) (X00 : Old Z n0 h0) (Va : Arv Z h0 ar kb .byte (5 : Int32) [.int y0, .int y1, .int y2, .int y3, .int y4] (.int 0)) (Vd : Arv Z h0 ds kc .byte (7 : Int32) [.int (0 : Int32), .int (0 : Int32), .int (0 : Int32), .int (0 : Int32), .int (0 : Int32), .int (0 : Int32), .int (0 : Int32)] (.int 0)) (hne : ar ≠ ds) (g_ds : n0 ≤ ds) (hD : own_D 5 B0 B1 B2 B3 B4 B5 v0 v1 v2 v3 v4 v5 v6 v7 r0 r1 r2 r3 r4 r5 r6 r7) (hs0 : own_SB y0 B0) (hs1 : own_SB y1 B1) (hs2 : own_SB y2 B2) (hs3 : own_SB y3 B3) (hs4 : own_SB y4 B4) :
    own_M l Z yy8 q8 11 none ⟨0, 0, 0, 0⟩ #[.ref eno, .ref ar, .int 0, .int 3, .ref ds, .int 0, .int 1] h0 [] (Q29 Z eno ar ds dco iso utf tbd tbe kd ke G1 fm kb kc B0 B1 B2 B3 B4 B5 v0 v1 v2 v3 v4 v5 v6 v7 r0 r1 r2 r3 r4 r5 r6 r7 y0 y1 y2 y3 y4 h0 n0) := by
  refine own_body (plainFor_of_name pn_3) ?_
  intro p e s m below meth c s₁ A hx hml hown hnm hlk hret hZ X0 e0 k0
  replace k0 := own_ent (ef_29 m eno ar 0 3 ds 0 1) k0
  have N0 := Fr.nil n0
  have KK : Keep h0 h0 [ds] := Keep.refl h0 [ds]
  obtain ⟨sD, sE, eD, eE, fDu, fDm, fEp, fEl, fEu, sI, sU, iu, sTd, sTe, aTd, aTe, sC, gC, sS, fmr⟩ := id hG
  obtain ⟨hq0, hq1, hc0, hc1, hc2, hc3, hc4, hc5, hc6, hc7, hz1, hz2, hz4, hz5⟩ := id hD
  have k1 := fun t_ ht_ => k0 t_ (o_iload X0 hx d8_0 rfl (o_ifNo X0 hx d8_2 ((if0 _ _).trans (feq (by decide)).1) ht_))
  obtain ⟨T2, X2, e2, k2⟩ := o_getS X0 hx hZ k1 hown (host := "") (Or.inl (hw 141 rfl)) Via.refl e0 (sTe.ext X00.2) d8_5
  have k3 := fun t_ ht_ => k2 t_ (o_goto X2 hx d8_8 14 (o_astore X2 hx d8_14 #[Lr eno, Lr ar, Li 0, Li 3, Lr ds, Li 0, Li 1, Lr tbe, Lu, Lu, Lu] rfl rfl (o_iloadN X2 hx d8_16 rfl (o_istore X2 hx d8_17 #[Lr eno, Lr ar, Li 0, Li 3, Lr ds, Li 0, Li 1, Lr tbe, Li 0, Lu, Lu] rfl (o_iload X2 hx d8_19 rfl (o_istore X2 hx d8_21 #[Lr eno, Lr ar, Li 0, Li 3, Lr ds, Li 0, Li 1, Lr tbe, Li 0, Li 0, Lu] rfl (o_iload X2 hx d8_23 rfl (o_iloadN X2 hx d8_25 rfl (o_icmpNo X2 hx d8_26 (tlt (by decide)).2.1 (o_aloadN X2 hx d8_29 rfl rfl (o_iload X2 hx d8_30 rfl (o_iinc X2 hx d8_32 #[Lr eno, Lr ar, Li 0, Li 3, Lr ds, Li 0, Li 1, Lr tbe, Li 1, Li 0, Lu] rfl rfl (o_ldB X2 hx hZ d8_35 e2 Va ⟨by decide, by decide⟩ (rfl : _ = Value.int y0) (o_sipush X2 hx d8_36 255 rfl (o_iand X2 hx d8_39 rfl ht_)))))))))))))))
  rw [own_sb255 hs0] at k3
  have k4 := fun t_ ht_ => k3 t_ (o_bipush X2 hx d8_40 16 rfl (o_ishl X2 hx d8_42 (o_aloadN X2 hx d8_43 rfl rfl (o_iload X2 hx d8_44 rfl (o_iinc X2 hx d8_46 #[Lr eno, Lr ar, Li 0, Li 3, Lr ds, Li 0, Li 1, Lr tbe, Li 2, Li 0, Lu] rfl rfl (o_ldB X2 hx hZ d8_49 e2 Va ⟨by decide, by decide⟩ (rfl : _ = Value.int y1) (o_sipush X2 hx d8_50 255 rfl (o_iand X2 hx d8_53 rfl ht_))))))))
  rw [own_sb255 hs1] at k4
  have k5 := fun t_ ht_ => k4 t_ (o_bipush X2 hx d8_54 8 rfl (o_ishl X2 hx d8_56 (o_ior X2 hx d8_57 rfl (o_aloadN X2 hx d8_58 rfl rfl (o_iload X2 hx d8_59 rfl (o_iinc X2 hx d8_61 #[Lr eno, Lr ar, Li 0, Li 3, Lr ds, Li 0, Li 1, Lr tbe, Li 3, Li 0, Lu] rfl rfl (o_ldB X2 hx hZ d8_64 e2 Va ⟨by decide, by decide⟩ (rfl : _ = Value.int y2) (o_sipush X2 hx d8_65 255 rfl (o_iand X2 hx d8_68 rfl ht_)))))))))
  rw [own_sb255 hs2] at k5
  have k6 := fun t_ ht_ => k5 t_ (o_ior X2 hx d8_69 rfl (o_istore X2 hx d8_70 #[Lr eno, Lr ar, Li 0, Li 3, Lr ds, Li 0, Li 1, Lr tbe, Li 3, Li 0, Li (((B0 <<< ((16 : Int32) &&& 31)) ||| (B1 <<< ((8 : Int32) &&& 31))) ||| B2)] rfl ht_))
  obtain ⟨eb0, heb0⟩ : ∃ z : Int32, z = (((B0 <<< ((16 : Int32) &&& 31)) ||| (B1 <<< ((8 : Int32) &&& 31))) ||| B2) := ⟨_, rfl⟩
  rw [← heb0] at k6
  have ee0 := own_ebq hq0 heb0
  have k7 := fun t_ ht_ => k6 t_ (o_aload X2 hx d8_72 rfl rfl (o_iload X2 hx d8_74 rfl (o_iinc X2 hx d8_76 #[Lr eno, Lr ar, Li 0, Li 3, Lr ds, Li 0, Li 1, Lr tbe, Li 3, Li 1, Li eb0] rfl rfl (o_aload X2 hx d8_79 rfl rfl (o_iload X2 hx d8_81 rfl (o_bipush X2 hx d8_83 18 rfl (o_iushr X2 hx d8_85 (o_bipush X2 hx d8_86 63 rfl (o_iand X2 hx d8_88 rfl ht_)))))))))
  obtain ⟨qx0, hqx0⟩ : ∃ z : Int32, z = (((eb0.toUInt32 >>> ((18 : Int32) &&& 31).toUInt32).toInt32) &&& (63 : Int32)) := ⟨_, rfl⟩
  rw [← hqx0] at k7
  have od8 := aTe.ext X00.2
  have k9 := fun t_ ht_ => k7 t_ (o_ldC X2 hx hZ d8_89 e2 od8 (own_i64 hc0 (own_x0 hq0 ee0 hqx0)) (own_tabE_at hc0 (own_x0 hq0 ee0 hqx0)) (o_i2b X2 hx d8_90 ht_))
  obtain ⟨T10, h10, X10, e10, W10, Vd, k10⟩ := o_stB X2 hx hZ k9 e2 Vd 0 [.int (nar .byte (r0.toInt8.toInt32)), .int 0, .int 0, .int 0, .int 0, .int 0, .int 0] d8_91
  replace X00 := X00.wr W10 g_ds
  replace Va := Va.other W10 hne
  have Zs10 := Nat.le_trans Z0 (Keep.of_wr W10).1
  replace KK := KK.wr W10 (Or.inl (by simp))
  have N10 := Fr.snoc X10 N0 g_ds
  rw [own_rnb hc0] at Vd
  have k11 := fun t_ ht_ => k10 t_ (o_aload X10 hx d8_92 rfl rfl (o_iload X10 hx d8_94 rfl (o_iinc X10 hx d8_96 #[Lr eno, Lr ar, Li 0, Li 3, Lr ds, Li 0, Li 1, Lr tbe, Li 3, Li 2, Li eb0] rfl rfl (o_aload X10 hx d8_99 rfl rfl (o_iload X10 hx d8_101 rfl (o_bipush X10 hx d8_103 12 rfl (o_iushr X10 hx d8_105 (o_bipush X10 hx d8_106 63 rfl (o_iand X10 hx d8_108 rfl ht_)))))))))
  obtain ⟨qx1, hqx1⟩ : ∃ z : Int32, z = (((eb0.toUInt32 >>> ((12 : Int32) &&& 31).toUInt32).toInt32) &&& (63 : Int32)) := ⟨_, rfl⟩
  rw [← hqx1] at k11
  have od12 := aTe.ext X00.2
  have k13 := fun t_ ht_ => k11 t_ (o_ldC X10 hx hZ d8_109 e10 od12 (own_i64 hc1 (own_x1 hq0 ee0 hqx1)) (own_tabE_at hc1 (own_x1 hq0 ee0 hqx1)) (o_i2b X10 hx d8_110 ht_))
  obtain ⟨T14, h14, X14, e14, W14, Vd, k14⟩ := o_stB X10 hx hZ k13 e10 Vd 1 [.int r0, .int (nar .byte (r1.toInt8.toInt32)), .int 0, .int 0, .int 0, .int 0, .int 0] d8_111
  replace X00 := X00.wr W14 g_ds
  replace Va := Va.other W14 hne
  have Zs14 := Nat.le_trans Zs10 (Keep.of_wr W14).1
  replace KK := KK.wr W14 (Or.inl (by simp))
  have N14 := Fr.snoc X14 N10 g_ds
  rw [own_rnb hc1] at Vd
  have k15 := fun t_ ht_ => k14 t_ (o_aload X14 hx d8_112 rfl rfl (o_iload X14 hx d8_114 rfl (o_iinc X14 hx d8_116 #[Lr eno, Lr ar, Li 0, Li 3, Lr ds, Li 0, Li 1, Lr tbe, Li 3, Li 3, Li eb0] rfl rfl (o_aload X14 hx d8_119 rfl rfl (o_iload X14 hx d8_121 rfl (o_bipush X14 hx d8_123 6 rfl (o_iushr X14 hx d8_125 (o_bipush X14 hx d8_126 63 rfl (o_iand X14 hx d8_128 rfl ht_)))))))))
  obtain ⟨qx2, hqx2⟩ : ∃ z : Int32, z = (((eb0.toUInt32 >>> ((6 : Int32) &&& 31).toUInt32).toInt32) &&& (63 : Int32)) := ⟨_, rfl⟩
  rw [← hqx2] at k15
  have od16 := aTe.ext X00.2
  have k17 := fun t_ ht_ => k15 t_ (o_ldC X14 hx hZ d8_129 e14 od16 (own_i64 hc2 (own_x2 hq0 ee0 hqx2)) (own_tabE_at hc2 (own_x2 hq0 ee0 hqx2)) (o_i2b X14 hx d8_130 ht_))
  obtain ⟨T18, h18, X18, e18, W18, Vd, k18⟩ := o_stB X14 hx hZ k17 e14 Vd 2 [.int r0, .int r1, .int (nar .byte (r2.toInt8.toInt32)), .int 0, .int 0, .int 0, .int 0] d8_131
  replace X00 := X00.wr W18 g_ds
  replace Va := Va.other W18 hne
  have Zs18 := Nat.le_trans Zs14 (Keep.of_wr W18).1
  replace KK := KK.wr W18 (Or.inl (by simp))
  have N18 := Fr.snoc X18 N14 g_ds
  rw [own_rnb hc2] at Vd
  have k19 := fun t_ ht_ => k18 t_ (o_aload X18 hx d8_132 rfl rfl (o_iload X18 hx d8_134 rfl (o_iinc X18 hx d8_136 #[Lr eno, Lr ar, Li 0, Li 3, Lr ds, Li 0, Li 1, Lr tbe, Li 3, Li 4, Li eb0] rfl rfl (o_aload X18 hx d8_139 rfl rfl (o_iload X18 hx d8_141 rfl (o_bipush X18 hx d8_143 63 rfl (o_iand X18 hx d8_145 rfl ht_)))))))
  obtain ⟨qx3, hqx3⟩ : ∃ z : Int32, z = (eb0 &&& (63 : Int32)) := ⟨_, rfl⟩
  rw [← hqx3] at k19
  have od20 := aTe.ext X00.2
  have k21 := fun t_ ht_ => k19 t_ (o_ldC X18 hx hZ d8_146 e18 od20 (own_i64 hc3 (own_x3 hq0 ee0 hqx3)) (own_tabE_at hc3 (own_x3 hq0 ee0 hqx3)) (o_i2b X18 hx d8_147 ht_))
  obtain ⟨T22, h22, X22, e22, W22, Vd, k22⟩ := o_stB X18 hx hZ k21 e18 Vd 3 [.int r0, .int r1, .int r2, .int (nar .byte (r3.toInt8.toInt32)), .int 0, .int 0, .int 0] d8_148
  replace X00 := X00.wr W22 g_ds
  replace Va := Va.other W22 hne
  have Zs22 := Nat.le_trans Zs18 (Keep.of_wr W22).1
  replace KK := KK.wr W22 (Or.inl (by simp))
  have N22 := Fr.snoc X22 N18 g_ds
  rw [own_rnb hc3] at Vd
  have k23 := fun t_ ht_ => k22 t_ (o_goto X22 hx d8_149 23 (o_iload X22 hx d8_23 rfl (o_iloadN X22 hx d8_25 rfl (o_icmpYes X22 hx d8_26 (flt (by decide)).2.1 152 ht_))))
  exact o_retV X22 hx k23 hlk hret d8_152 (by rw [e22]; exact ⟨rfl, N22, KK, Vd⟩)
theorem ef_30 (m : MethodId) (x0 x1 : Addr) (x2 x3 : Int32) (x4 : Addr) (x5 x6 : Int32) : entryFrame m #[.ref x0, .ref x1, .int x2, .int x3, .ref x4, .int x5, .int x6] 11 = mkF m 0 #[Lr x0, Lr x1, Li x2, Li x3, Lr x4, Li x5, Li x6, Lu, Lu, Lu, Lu] [] := by first | (simp [entryFrame, mkF, argsToLocals, Value.category]; done) | rfl
def Q30 (Z : State) (eno ar ds dco iso utf tbd tbe : Addr) (kd ke : ClassId) (G1 : Int32) (fm : Value) (kb kc : ClassId) (B0 B1 B2 B3 B4 B5 v0 v1 v2 v3 v4 v5 v6 v7 r0 r1 r2 r3 r4 r5 r6 r7 y0 y1 y2 y3 y4 y5 : Int32) (h0 : Heap) (n0 : Nat) (v : Option Value) (h : Heap) (L : List Loc) : Prop := v = none ∧ Fr n0 L ∧ Keep h0 h [ds] ∧ Arv Z h ds kc .byte (8 : Int32) [.int r0, .int r1, .int r2, .int r3, .int r4, .int r5, .int r6, .int r7] (.int 0)
set_option maxRecDepth 65536 in
set_option maxHeartbeats 40000000 in
theorem rm30 (hw : own_W a0 Z) (eno ar ds dco iso utf tbd tbe : Addr) (kd ke : ClassId) (G1 : Int32) (fm : Value) (kb kc : ClassId) (B0 B1 B2 B3 B4 B5 v0 v1 v2 v3 v4 v5 v6 v7 r0 r1 r2 r3 r4 r5 r6 r7 y0 y1 y2 y3 y4 y5 : Int32) (h0 : Heap) (n0 : Nat) (Z0 : n0 ≤ h0.size) (hG : own_G Z dco eno iso utf tbd tbe kd ke G1 fm) (X00 : Old Z n0 h0) (Va : Arv Z h0 ar kb .byte (6 : Int32) [.int y0, .int y1, .int y2, .int y3, .int y4, .int y5] (.int 0)) (Vd : Arv Z h0 ds kc .byte (8 : Int32) [.int (0 : Int32), .int (0 : Int32), .int (0 : Int32), .int (0 : Int32), .int (0 : Int32), .int (0 : Int32), .int (0 : Int32), .int (0 : Int32)] (.int 0)) (hne : ar ≠ ds) (g_ds : n0 ≤ ds) (hD : own_D 6 B0 B1 B2 B3 B4 B5 v0 v1 v2 v3 v4 v5 v6 v7 r0 r1 r2 r3 r4 r5 r6 r7) (hs0 : own_SB y0 B0) (hs1 : own_SB y1 B1) (hs2 : own_SB y2 B2) (hs3 : own_SB y3 B3) (hs4 : own_SB y4 B4) (hs5 : own_SB y5 B5) :
    own_M l Z yy8 q8 11 none ⟨0, 0, 0, 0⟩ #[.ref eno, .ref ar, .int 0, .int 6, .ref ds, .int 0, .int 1] h0 [] (Q30 Z eno ar ds dco iso utf tbd tbe kd ke G1 fm kb kc B0 B1 B2 B3 B4 B5 v0 v1 v2 v3 v4 v5 v6 v7 r0 r1 r2 r3 r4 r5 r6 r7 y0 y1 y2 y3 y4 y5 h0 n0) := by
  refine own_body (plainFor_of_name pn_3) ?_
  intro p e s m below meth c s₁ A hx hml hown hnm hlk hret hZ X0 e0 k0
  replace k0 := own_ent (ef_30 m eno ar 0 6 ds 0 1) k0
  have N0 := Fr.nil n0
  have KK : Keep h0 h0 [ds] := Keep.refl h0 [ds]
  obtain ⟨sD, sE, eD, eE, fDu, fDm, fEp, fEl, fEu, sI, sU, iu, sTd, sTe, aTd, aTe, sC, gC, sS, fmr⟩ := id hG
  obtain ⟨hq0, hq1, hc0, hc1, hc2, hc3, hc4, hc5, hc6, hc7, hz1, hz2, hz4, hz5⟩ := id hD
  have k1 := fun t_ ht_ => k0 t_ (o_iload X0 hx d8_0 rfl (o_ifNo X0 hx d8_2 ((if0 _ _).trans (feq (by decide)).1) ht_))
  obtain ⟨T2, X2, e2, k2⟩ := o_getS X0 hx hZ k1 hown (host := "") (Or.inl (hw 141 rfl)) Via.refl e0 (sTe.ext X00.2) d8_5
  have k3 := fun t_ ht_ => k2 t_ (o_goto X2 hx d8_8 14 (o_astore X2 hx d8_14 #[Lr eno, Lr ar, Li 0, Li 6, Lr ds, Li 0, Li 1, Lr tbe, Lu, Lu, Lu] rfl rfl (o_iloadN X2 hx d8_16 rfl (o_istore X2 hx d8_17 #[Lr eno, Lr ar, Li 0, Li 6, Lr ds, Li 0, Li 1, Lr tbe, Li 0, Lu, Lu] rfl (o_iload X2 hx d8_19 rfl (o_istore X2 hx d8_21 #[Lr eno, Lr ar, Li 0, Li 6, Lr ds, Li 0, Li 1, Lr tbe, Li 0, Li 0, Lu] rfl (o_iload X2 hx d8_23 rfl (o_iloadN X2 hx d8_25 rfl (o_icmpNo X2 hx d8_26 (tlt (by decide)).2.1 (o_aloadN X2 hx d8_29 rfl rfl (o_iload X2 hx d8_30 rfl (o_iinc X2 hx d8_32 #[Lr eno, Lr ar, Li 0, Li 6, Lr ds, Li 0, Li 1, Lr tbe, Li 1, Li 0, Lu] rfl rfl (o_ldB X2 hx hZ d8_35 e2 Va ⟨by decide, by decide⟩ (rfl : _ = Value.int y0) (o_sipush X2 hx d8_36 255 rfl (o_iand X2 hx d8_39 rfl ht_)))))))))))))))
  rw [own_sb255 hs0] at k3
  have k4 := fun t_ ht_ => k3 t_ (o_bipush X2 hx d8_40 16 rfl (o_ishl X2 hx d8_42 (o_aloadN X2 hx d8_43 rfl rfl (o_iload X2 hx d8_44 rfl (o_iinc X2 hx d8_46 #[Lr eno, Lr ar, Li 0, Li 6, Lr ds, Li 0, Li 1, Lr tbe, Li 2, Li 0, Lu] rfl rfl (o_ldB X2 hx hZ d8_49 e2 Va ⟨by decide, by decide⟩ (rfl : _ = Value.int y1) (o_sipush X2 hx d8_50 255 rfl (o_iand X2 hx d8_53 rfl ht_))))))))
  rw [own_sb255 hs1] at k4
  have k5 := fun t_ ht_ => k4 t_ (o_bipush X2 hx d8_54 8 rfl (o_ishl X2 hx d8_56 (o_ior X2 hx d8_57 rfl (o_aloadN X2 hx d8_58 rfl rfl (o_iload X2 hx d8_59 rfl (o_iinc X2 hx d8_61 #[Lr eno, Lr ar, Li 0, Li 6, Lr ds, Li 0, Li 1, Lr tbe, Li 3, Li 0, Lu] rfl rfl (o_ldB X2 hx hZ d8_64 e2 Va ⟨by decide, by decide⟩ (rfl : _ = Value.int y2) (o_sipush X2 hx d8_65 255 rfl (o_iand X2 hx d8_68 rfl ht_)))))))))
  rw [own_sb255 hs2] at k5
  have k6 := fun t_ ht_ => k5 t_ (o_ior X2 hx d8_69 rfl (o_istore X2 hx d8_70 #[Lr eno, Lr ar, Li 0, Li 6, Lr ds, Li 0, Li 1, Lr tbe, Li 3, Li 0, Li (((B0 <<< ((16 : Int32) &&& 31)) ||| (B1 <<< ((8 : Int32) &&& 31))) ||| B2)] rfl ht_))
  obtain ⟨eb0, heb0⟩ : ∃ z : Int32, z = (((B0 <<< ((16 : Int32) &&& 31)) ||| (B1 <<< ((8 : Int32) &&& 31))) ||| B2) := ⟨_, rfl⟩
  rw [← heb0] at k6
  have ee0 := own_ebq hq0 heb0
  have k7 := fun t_ ht_ => k6 t_ (o_aload X2 hx d8_72 rfl rfl (o_iload X2 hx d8_74 rfl (o_iinc X2 hx d8_76 #[Lr eno, Lr ar, Li 0, Li 6, Lr ds, Li 0, Li 1, Lr tbe, Li 3, Li 1, Li eb0] rfl rfl (o_aload X2 hx d8_79 rfl rfl (o_iload X2 hx d8_81 rfl (o_bipush X2 hx d8_83 18 rfl (o_iushr X2 hx d8_85 (o_bipush X2 hx d8_86 63 rfl (o_iand X2 hx d8_88 rfl ht_)))))))))
  obtain ⟨qx0, hqx0⟩ : ∃ z : Int32, z = (((eb0.toUInt32 >>> ((18 : Int32) &&& 31).toUInt32).toInt32) &&& (63 : Int32)) := ⟨_, rfl⟩
  rw [← hqx0] at k7
  have od8 := aTe.ext X00.2
  have k9 := fun t_ ht_ => k7 t_ (o_ldC X2 hx hZ d8_89 e2 od8 (own_i64 hc0 (own_x0 hq0 ee0 hqx0)) (own_tabE_at hc0 (own_x0 hq0 ee0 hqx0)) (o_i2b X2 hx d8_90 ht_))
  obtain ⟨T10, h10, X10, e10, W10, Vd, k10⟩ := o_stB X2 hx hZ k9 e2 Vd 0 [.int (nar .byte (r0.toInt8.toInt32)), .int 0, .int 0, .int 0, .int 0, .int 0, .int 0, .int 0] d8_91
  replace X00 := X00.wr W10 g_ds
  replace Va := Va.other W10 hne
  have Zs10 := Nat.le_trans Z0 (Keep.of_wr W10).1
  replace KK := KK.wr W10 (Or.inl (by simp))
  have N10 := Fr.snoc X10 N0 g_ds
  rw [own_rnb hc0] at Vd
  have k11 := fun t_ ht_ => k10 t_ (o_aload X10 hx d8_92 rfl rfl (o_iload X10 hx d8_94 rfl (o_iinc X10 hx d8_96 #[Lr eno, Lr ar, Li 0, Li 6, Lr ds, Li 0, Li 1, Lr tbe, Li 3, Li 2, Li eb0] rfl rfl (o_aload X10 hx d8_99 rfl rfl (o_iload X10 hx d8_101 rfl (o_bipush X10 hx d8_103 12 rfl (o_iushr X10 hx d8_105 (o_bipush X10 hx d8_106 63 rfl (o_iand X10 hx d8_108 rfl ht_)))))))))
  obtain ⟨qx1, hqx1⟩ : ∃ z : Int32, z = (((eb0.toUInt32 >>> ((12 : Int32) &&& 31).toUInt32).toInt32) &&& (63 : Int32)) := ⟨_, rfl⟩
  rw [← hqx1] at k11
  have od12 := aTe.ext X00.2
  have k13 := fun t_ ht_ => k11 t_ (o_ldC X10 hx hZ d8_109 e10 od12 (own_i64 hc1 (own_x1 hq0 ee0 hqx1)) (own_tabE_at hc1 (own_x1 hq0 ee0 hqx1)) (o_i2b X10 hx d8_110 ht_))
  obtain ⟨T14, h14, X14, e14, W14, Vd, k14⟩ := o_stB X10 hx hZ k13 e10 Vd 1 [.int r0, .int (nar .byte (r1.toInt8.toInt32)), .int 0, .int 0, .int 0, .int 0, .int 0, .int 0] d8_111
  replace X00 := X00.wr W14 g_ds
  replace Va := Va.other W14 hne
  have Zs14 := Nat.le_trans Zs10 (Keep.of_wr W14).1
  replace KK := KK.wr W14 (Or.inl (by simp))
  have N14 := Fr.snoc X14 N10 g_ds
  rw [own_rnb hc1] at Vd
  have k15 := fun t_ ht_ => k14 t_ (o_aload X14 hx d8_112 rfl rfl (o_iload X14 hx d8_114 rfl (o_iinc X14 hx d8_116 #[Lr eno, Lr ar, Li 0, Li 6, Lr ds, Li 0, Li 1, Lr tbe, Li 3, Li 3, Li eb0] rfl rfl (o_aload X14 hx d8_119 rfl rfl (o_iload X14 hx d8_121 rfl (o_bipush X14 hx d8_123 6 rfl (o_iushr X14 hx d8_125 (o_bipush X14 hx d8_126 63 rfl (o_iand X14 hx d8_128 rfl ht_)))))))))
  obtain ⟨qx2, hqx2⟩ : ∃ z : Int32, z = (((eb0.toUInt32 >>> ((6 : Int32) &&& 31).toUInt32).toInt32) &&& (63 : Int32)) := ⟨_, rfl⟩
  rw [← hqx2] at k15
  have od16 := aTe.ext X00.2
  have k17 := fun t_ ht_ => k15 t_ (o_ldC X14 hx hZ d8_129 e14 od16 (own_i64 hc2 (own_x2 hq0 ee0 hqx2)) (own_tabE_at hc2 (own_x2 hq0 ee0 hqx2)) (o_i2b X14 hx d8_130 ht_))
  obtain ⟨T18, h18, X18, e18, W18, Vd, k18⟩ := o_stB X14 hx hZ k17 e14 Vd 2 [.int r0, .int r1, .int (nar .byte (r2.toInt8.toInt32)), .int 0, .int 0, .int 0, .int 0, .int 0] d8_131
  replace X00 := X00.wr W18 g_ds
  replace Va := Va.other W18 hne
  have Zs18 := Nat.le_trans Zs14 (Keep.of_wr W18).1
  replace KK := KK.wr W18 (Or.inl (by simp))
  have N18 := Fr.snoc X18 N14 g_ds
  rw [own_rnb hc2] at Vd
  have k19 := fun t_ ht_ => k18 t_ (o_aload X18 hx d8_132 rfl rfl (o_iload X18 hx d8_134 rfl (o_iinc X18 hx d8_136 #[Lr eno, Lr ar, Li 0, Li 6, Lr ds, Li 0, Li 1, Lr tbe, Li 3, Li 4, Li eb0] rfl rfl (o_aload X18 hx d8_139 rfl rfl (o_iload X18 hx d8_141 rfl (o_bipush X18 hx d8_143 63 rfl (o_iand X18 hx d8_145 rfl ht_)))))))
  obtain ⟨qx3, hqx3⟩ : ∃ z : Int32, z = (eb0 &&& (63 : Int32)) := ⟨_, rfl⟩
  rw [← hqx3] at k19
  have od20 := aTe.ext X00.2
  have k21 := fun t_ ht_ => k19 t_ (o_ldC X18 hx hZ d8_146 e18 od20 (own_i64 hc3 (own_x3 hq0 ee0 hqx3)) (own_tabE_at hc3 (own_x3 hq0 ee0 hqx3)) (o_i2b X18 hx d8_147 ht_))
  obtain ⟨T22, h22, X22, e22, W22, Vd, k22⟩ := o_stB X18 hx hZ k21 e18 Vd 3 [.int r0, .int r1, .int r2, .int (nar .byte (r3.toInt8.toInt32)), .int 0, .int 0, .int 0, .int 0] d8_148
  replace X00 := X00.wr W22 g_ds
  replace Va := Va.other W22 hne
  have Zs22 := Nat.le_trans Zs18 (Keep.of_wr W22).1
  replace KK := KK.wr W22 (Or.inl (by simp))
  have N22 := Fr.snoc X22 N18 g_ds
  rw [own_rnb hc3] at Vd
  have k23 := fun t_ ht_ => k22 t_ (o_goto X22 hx d8_149 23 (o_iload X22 hx d8_23 rfl (o_iloadN X22 hx d8_25 rfl (o_icmpNo X22 hx d8_26 (tlt (by decide)).2.1 (o_aloadN X22 hx d8_29 rfl rfl (o_iload X22 hx d8_30 rfl (o_iinc X22 hx d8_32 #[Lr eno, Lr ar, Li 0, Li 6, Lr ds, Li 0, Li 1, Lr tbe, Li 4, Li 4, Li eb0] rfl rfl (o_ldB X22 hx hZ d8_35 e22 Va ⟨by decide, by decide⟩ (rfl : _ = Value.int y3) (o_sipush X22 hx d8_36 255 rfl (o_iand X22 hx d8_39 rfl ht_))))))))))
  rw [own_sb255 hs3] at k23
  have k24 := fun t_ ht_ => k23 t_ (o_bipush X22 hx d8_40 16 rfl (o_ishl X22 hx d8_42 (o_aloadN X22 hx d8_43 rfl rfl (o_iload X22 hx d8_44 rfl (o_iinc X22 hx d8_46 #[Lr eno, Lr ar, Li 0, Li 6, Lr ds, Li 0, Li 1, Lr tbe, Li 5, Li 4, Li eb0] rfl rfl (o_ldB X22 hx hZ d8_49 e22 Va ⟨by decide, by decide⟩ (rfl : _ = Value.int y4) (o_sipush X22 hx d8_50 255 rfl (o_iand X22 hx d8_53 rfl ht_))))))))
  rw [own_sb255 hs4] at k24
  have k25 := fun t_ ht_ => k24 t_ (o_bipush X22 hx d8_54 8 rfl (o_ishl X22 hx d8_56 (o_ior X22 hx d8_57 rfl (o_aloadN X22 hx d8_58 rfl rfl (o_iload X22 hx d8_59 rfl (o_iinc X22 hx d8_61 #[Lr eno, Lr ar, Li 0, Li 6, Lr ds, Li 0, Li 1, Lr tbe, Li 6, Li 4, Li eb0] rfl rfl (o_ldB X22 hx hZ d8_64 e22 Va ⟨by decide, by decide⟩ (rfl : _ = Value.int y5) (o_sipush X22 hx d8_65 255 rfl (o_iand X22 hx d8_68 rfl ht_)))))))))
  rw [own_sb255 hs5] at k25
  have k26 := fun t_ ht_ => k25 t_ (o_ior X22 hx d8_69 rfl (o_istore X22 hx d8_70 #[Lr eno, Lr ar, Li 0, Li 6, Lr ds, Li 0, Li 1, Lr tbe, Li 6, Li 4, Li (((B3 <<< ((16 : Int32) &&& 31)) ||| (B4 <<< ((8 : Int32) &&& 31))) ||| B5)] rfl ht_))
  obtain ⟨eb1, heb1⟩ : ∃ z : Int32, z = (((B3 <<< ((16 : Int32) &&& 31)) ||| (B4 <<< ((8 : Int32) &&& 31))) ||| B5) := ⟨_, rfl⟩
  rw [← heb1] at k26
  have ee1 := own_ebq hq1 heb1
  have k27 := fun t_ ht_ => k26 t_ (o_aload X22 hx d8_72 rfl rfl (o_iload X22 hx d8_74 rfl (o_iinc X22 hx d8_76 #[Lr eno, Lr ar, Li 0, Li 6, Lr ds, Li 0, Li 1, Lr tbe, Li 6, Li 5, Li eb1] rfl rfl (o_aload X22 hx d8_79 rfl rfl (o_iload X22 hx d8_81 rfl (o_bipush X22 hx d8_83 18 rfl (o_iushr X22 hx d8_85 (o_bipush X22 hx d8_86 63 rfl (o_iand X22 hx d8_88 rfl ht_)))))))))
  obtain ⟨qx4, hqx4⟩ : ∃ z : Int32, z = (((eb1.toUInt32 >>> ((18 : Int32) &&& 31).toUInt32).toInt32) &&& (63 : Int32)) := ⟨_, rfl⟩
  rw [← hqx4] at k27
  have od28 := aTe.ext X00.2
  have k29 := fun t_ ht_ => k27 t_ (o_ldC X22 hx hZ d8_89 e22 od28 (own_i64 hc4 (own_x0 hq1 ee1 hqx4)) (own_tabE_at hc4 (own_x0 hq1 ee1 hqx4)) (o_i2b X22 hx d8_90 ht_))
  obtain ⟨T30, h30, X30, e30, W30, Vd, k30⟩ := o_stB X22 hx hZ k29 e22 Vd 4 [.int r0, .int r1, .int r2, .int r3, .int (nar .byte (r4.toInt8.toInt32)), .int 0, .int 0, .int 0] d8_91
  replace X00 := X00.wr W30 g_ds
  replace Va := Va.other W30 hne
  have Zs30 := Nat.le_trans Zs22 (Keep.of_wr W30).1
  replace KK := KK.wr W30 (Or.inl (by simp))
  have N30 := Fr.snoc X30 N22 g_ds
  rw [own_rnb hc4] at Vd
  have k31 := fun t_ ht_ => k30 t_ (o_aload X30 hx d8_92 rfl rfl (o_iload X30 hx d8_94 rfl (o_iinc X30 hx d8_96 #[Lr eno, Lr ar, Li 0, Li 6, Lr ds, Li 0, Li 1, Lr tbe, Li 6, Li 6, Li eb1] rfl rfl (o_aload X30 hx d8_99 rfl rfl (o_iload X30 hx d8_101 rfl (o_bipush X30 hx d8_103 12 rfl (o_iushr X30 hx d8_105 (o_bipush X30 hx d8_106 63 rfl (o_iand X30 hx d8_108 rfl ht_)))))))))
  obtain ⟨qx5, hqx5⟩ : ∃ z : Int32, z = (((eb1.toUInt32 >>> ((12 : Int32) &&& 31).toUInt32).toInt32) &&& (63 : Int32)) := ⟨_, rfl⟩
  rw [← hqx5] at k31
  have od32 := aTe.ext X00.2
  have k33 := fun t_ ht_ => k31 t_ (o_ldC X30 hx hZ d8_109 e30 od32 (own_i64 hc5 (own_x1 hq1 ee1 hqx5)) (own_tabE_at hc5 (own_x1 hq1 ee1 hqx5)) (o_i2b X30 hx d8_110 ht_))
  obtain ⟨T34, h34, X34, e34, W34, Vd, k34⟩ := o_stB X30 hx hZ k33 e30 Vd 5 [.int r0, .int r1, .int r2, .int r3, .int r4, .int (nar .byte (r5.toInt8.toInt32)), .int 0, .int 0] d8_111
  replace X00 := X00.wr W34 g_ds
  replace Va := Va.other W34 hne
  have Zs34 := Nat.le_trans Zs30 (Keep.of_wr W34).1
  replace KK := KK.wr W34 (Or.inl (by simp))
  have N34 := Fr.snoc X34 N30 g_ds
  rw [own_rnb hc5] at Vd
  have k35 := fun t_ ht_ => k34 t_ (o_aload X34 hx d8_112 rfl rfl (o_iload X34 hx d8_114 rfl (o_iinc X34 hx d8_116 #[Lr eno, Lr ar, Li 0, Li 6, Lr ds, Li 0, Li 1, Lr tbe, Li 6, Li 7, Li eb1] rfl rfl (o_aload X34 hx d8_119 rfl rfl (o_iload X34 hx d8_121 rfl (o_bipush X34 hx d8_123 6 rfl (o_iushr X34 hx d8_125 (o_bipush X34 hx d8_126 63 rfl (o_iand X34 hx d8_128 rfl ht_)))))))))
  obtain ⟨qx6, hqx6⟩ : ∃ z : Int32, z = (((eb1.toUInt32 >>> ((6 : Int32) &&& 31).toUInt32).toInt32) &&& (63 : Int32)) := ⟨_, rfl⟩
  rw [← hqx6] at k35
  have od36 := aTe.ext X00.2
  have k37 := fun t_ ht_ => k35 t_ (o_ldC X34 hx hZ d8_129 e34 od36 (own_i64 hc6 (own_x2 hq1 ee1 hqx6)) (own_tabE_at hc6 (own_x2 hq1 ee1 hqx6)) (o_i2b X34 hx d8_130 ht_))
  obtain ⟨T38, h38, X38, e38, W38, Vd, k38⟩ := o_stB X34 hx hZ k37 e34 Vd 6 [.int r0, .int r1, .int r2, .int r3, .int r4, .int r5, .int (nar .byte (r6.toInt8.toInt32)), .int 0] d8_131
  replace X00 := X00.wr W38 g_ds
  replace Va := Va.other W38 hne
  have Zs38 := Nat.le_trans Zs34 (Keep.of_wr W38).1
  replace KK := KK.wr W38 (Or.inl (by simp))
  have N38 := Fr.snoc X38 N34 g_ds
  rw [own_rnb hc6] at Vd
  have k39 := fun t_ ht_ => k38 t_ (o_aload X38 hx d8_132 rfl rfl (o_iload X38 hx d8_134 rfl (o_iinc X38 hx d8_136 #[Lr eno, Lr ar, Li 0, Li 6, Lr ds, Li 0, Li 1, Lr tbe, Li 6, Li 8, Li eb1] rfl rfl (o_aload X38 hx d8_139 rfl rfl (o_iload X38 hx d8_141 rfl (o_bipush X38 hx d8_143 63 rfl (o_iand X38 hx d8_145 rfl ht_)))))))
  obtain ⟨qx7, hqx7⟩ : ∃ z : Int32, z = (eb1 &&& (63 : Int32)) := ⟨_, rfl⟩
  rw [← hqx7] at k39
  have od40 := aTe.ext X00.2
  have k41 := fun t_ ht_ => k39 t_ (o_ldC X38 hx hZ d8_146 e38 od40 (own_i64 hc7 (own_x3 hq1 ee1 hqx7)) (own_tabE_at hc7 (own_x3 hq1 ee1 hqx7)) (o_i2b X38 hx d8_147 ht_))
  obtain ⟨T42, h42, X42, e42, W42, Vd, k42⟩ := o_stB X38 hx hZ k41 e38 Vd 7 [.int r0, .int r1, .int r2, .int r3, .int r4, .int r5, .int r6, .int (nar .byte (r7.toInt8.toInt32))] d8_148
  replace X00 := X00.wr W42 g_ds
  replace Va := Va.other W42 hne
  have Zs42 := Nat.le_trans Zs38 (Keep.of_wr W42).1
  replace KK := KK.wr W42 (Or.inl (by simp))
  have N42 := Fr.snoc X42 N38 g_ds
  rw [own_rnb hc7] at Vd
  have k43 := fun t_ ht_ => k42 t_ (o_goto X42 hx d8_149 23 (o_iload X42 hx d8_23 rfl (o_iloadN X42 hx d8_25 rfl (o_icmpYes X42 hx d8_26 (flt (by decide)).2.1 152 ht_))))
  exact o_retV X42 hx k43 hlk hret d8_152 (by rw [e42]; exact ⟨rfl, N42, KK, Vd⟩)
theorem ef_31 (m : MethodId) (x0 x1 x2 : Int32) (x3 : Value) (hx3 : x3.isRef = true) : entryFrame m #[.int x0, .int x1, .int x2, x3] 4 = mkF m 0 #[Li x0, Li x1, Li x2, (.val x3)] [] := by 
  cases x3 <;> first | (simp [Value.isRef] at hx3; done) | skip
  all_goals first | (simp [entryFrame, mkF, argsToLocals, Value.category]; done) | rfl
def Q31 (Z : State) (Nb Nb : Int32) (fm : Value) (h0 : Heap) (n0 : Nat) (v : Option Value) (h : Heap) (L : List Loc) : Prop := v = some (.int (0 : Int32)) ∧ Fr n0 L ∧ h = h0
set_option maxRecDepth 65536 in
set_option maxHeartbeats 40000000 in
theorem rm31 (hw : own_W a0 Z) (Nb Nb : Int32) (fm : Value) (h0 : Heap) (n0 : Nat) (Z0 : n0 ≤ h0.size) (hf1 : ¬ ((Nb ||| (0 : Int32)) ||| Nb) < (0 : Int32)) (hf2 : ¬ ((Nb - (0 : Int32)) < Nb)) (fmr : fm.isRef = true) :
    own_M l Z yy9 q9 4 (some .int) ⟨0, 0, 0, 0⟩ #[.int 0, .int Nb, .int Nb, fm] h0 [] (Q31 Z Nb Nb fm h0 n0) := by
  refine own_body (plainFor_of_name pn_4) ?_
  intro p e s m below meth c s₁ A hx hml hown hnm hlk hret hZ X0 e0 k0
  replace k0 := own_ent (ef_31 m 0 Nb Nb fm fmr) k0
  have N0 := Fr.nil n0
  have k1 := fun t_ ht_ => k0 t_ (o_iloadN X0 hx d9_0 rfl (o_iloadN X0 hx d9_1 rfl (o_ior X0 hx d9_2 rfl (o_iloadN X0 hx d9_3 rfl (o_ior X0 hx d9_4 rfl (o_ifNo X0 hx d9_5 ((if0 _ _).trans (flt (hf1)).1) (o_iloadN X0 hx d9_8 rfl (o_iloadN X0 hx d9_9 rfl (o_iloadN X0 hx d9_10 rfl (o_isub X0 hx d9_11 rfl (o_icmpYes X0 hx d9_12 (flt (hf2)).2.2.2 23 (o_iloadN X0 hx d9_23 rfl ht_))))))))))))
  exact o_retI X0 hx k1 hlk hret d9_24 (by rw [e0]; exact ⟨rfl, N0, rfl⟩)
theorem ef_32 (m : MethodId) (x0 x1 x2 : Int32) : entryFrame m #[.int x0, .int x1, .int x2] 3 = mkF m 0 #[Li x0, Li x1, Li x2] [] := by first | (simp [entryFrame, mkF, argsToLocals, Value.category]; done) | rfl
def Q32 (Z : State) (Nb Nb : Int32) (dco eno iso utf tbd tbe : Addr) (kd ke : ClassId) (G1 : Int32) (fm : Value) (h0 : Heap) (n0 : Nat) (v : Option Value) (h : Heap) (L : List Loc) : Prop := v = some (.int (0 : Int32)) ∧ Fr n0 L ∧ h = h0
set_option maxRecDepth 65536 in
set_option maxHeartbeats 40000000 in
theorem rm32 (hw : own_W a0 Z) (Nb Nb : Int32) (dco eno iso utf tbd tbe : Addr) (kd ke : ClassId) (G1 : Int32) (fm : Value) (h0 : Heap) (n0 : Nat) (Z0 : n0 ≤ h0.size) (hG : own_G Z dco eno iso utf tbd tbe kd ke G1 fm) (X00 : Old Z n0 h0) (hf1 : ¬ ((Nb ||| (0 : Int32)) ||| Nb) < (0 : Int32)) (hf2 : ¬ ((Nb - (0 : Int32)) < Nb)) :
    own_M l Z yy10 q10 3 (some .int) ⟨1, 0, 0, 15⟩ #[.int 0, .int Nb, .int Nb] h0 [] (Q32 Z Nb Nb dco eno iso utf tbd tbe kd ke G1 fm h0 n0) := by
  refine own_body (plainFor_of_name pn_1) ?_
  intro p e s m below meth c s₁ A hx hml hown hnm hlk hret hZ X0 e0 k0
  replace k0 := own_ent (ef_32 m 0 Nb Nb) k0
  have N0 := Fr.nil n0
  obtain ⟨sD, sE, eD, eE, fDu, fDm, fEp, fEl, fEu, sI, sU, iu, sTd, sTe, aTd, aTe, sC, gC, sS, fmr⟩ := id hG
  have k1 := fun t_ ht_ => k0 t_ (o_iloadN X0 hx d10_0 rfl (o_iloadN X0 hx d10_1 rfl (o_iloadN X0 hx d10_2 rfl ht_)))
  obtain ⟨T2, X2, e2, k2⟩ := o_getS X0 hx hZ k1 hown (host := "") (Or.inl (hw 149 rfl)) Via.refl e0 (sS.ext X00.2) d10_3
  obtain ⟨_, T3, Lc3, X3, hQ3, k3⟩ := o_callSM X2 hx hZ k2 yy9 hown (hw 151 rfl) (hw 152 rfl) (hw 150 rfl) (hw 153 rfl) (rm31 hw Nb Nb fm h0 n0 Z0 hf1 hf2 fmr) 0 [.int 0, .int Nb, .int Nb, fm] [] (lenOf pd_4 rfl) hml e2 d10_6
  obtain ⟨rfl, Nq3, e3⟩ := hQ3
  have N3 := Fr.app N0 Nq3
  replace k3 := own_pushR k3
  exact o_retI X3 hx k3 hlk hret d10_9 (by rw [e3]; exact ⟨rfl, N3, rfl⟩)
theorem ef_33 (m : MethodId) (x0 : Addr) (x1 x2 : Int32) : entryFrame m #[.ref x0, .int x1, .int x2] 3 = mkF m 0 #[Lr x0, Li x1, Li x2] [] := by first | (simp [entryFrame, mkF, argsToLocals, Value.category]; done) | rfl
def Q33 (Z : State) (ar : Addr) (Nb : Int32) (kb : ClassId) (vs : List Value) (h0 : Heap) (n0 : Nat) (v : Option Value) (h : Heap) (L : List Loc) : Prop := ∃ (cr : Addr), v = some (.ref cr) ∧ Fr n0 L ∧ Keep h0 h [] ∧ Arv Z h cr kb .byte Nb vs (.int 0) ∧ Exa Z h cr "[B" ∧ h0.size ≤ cr
set_option maxRecDepth 65536 in
set_option maxHeartbeats 40000000 in
theorem rm33 (hw : own_W a0 Z) (ar : Addr) (Nb : Int32) (kb : ClassId) (vs : List Value) (h0 : Heap) (n0 : Nat) (Z0 : n0 ≤ h0.size) (Va : Arv Z h0 ar kb .byte Nb vs (.int 0)) (Ea : Exa Z h0 ar "[B") (hN : Nb.toNatClampNeg ≤ 8) :
    own_M l Z yy11 q11 3 (some (.array .byte)) ⟨1, 1, 8, 14⟩ #[.ref ar, .int 0, .int Nb] h0 [] (Q33 Z ar Nb kb vs h0 n0) := by
  refine own_body (plainFor_of_name pn_5) ?_
  intro p e s m below meth c s₁ A hx hml hown hnm hlk hret hZ X0 e0 k0
  replace k0 := own_ent (ef_33 m ar 0 Nb) k0
  have N0 := Fr.nil n0
  have KK : Keep h0 h0 [] := Keep.refl h0 []
  have k1 := fun t_ ht_ => k0 t_ (o_iloadN X0 hx d11_0 rfl (o_ifNo X0 hx d11_1 ((if0 _ _).trans (teq (by decide)).2) (o_iloadN X0 hx d11_4 rfl (o_aloadN X0 hx d11_5 rfl rfl (o_len X0 hx hZ d11_6 e0 Va (o_icmpYes X0 hx d11_7 (teq (rfl)).1 17 (o_aloadN X0 hx d11_17 rfl rfl ht_)))))))
  obtain ⟨T2, h2, X2, e2, E2, Ax2, Bx2, k2⟩ := o_clone X0 hx hZ k1 hown (hw 158 rfl) (hw 75 rfl) (hw 79 rfl) (hw 77 rfl) (hw 78 rfl) (hw 80 rfl) e0 Va Ea d11_18 hml 0 8 hN
  obtain ⟨b2, g2⟩ : ∃ z, z = h0.size := ⟨_, rfl⟩
  rw [← g2] at Ax2 Bx2 k2
  have ne_ar_b2 : ar ≠ b2 := Nat.ne_of_lt (Nat.lt_of_lt_of_le Va.lt (Nat.le_of_eq g2.symm))
  have g_b2 : n0 ≤ b2 := Nat.le_trans Z0 (Nat.le_of_eq g2.symm)
  have sz_b2 : h0.size ≤ b2 := Nat.le_trans KK.1 (Nat.le_of_eq g2.symm)
  replace Va := Va.ext E2
  replace Ea := Ea.ext E2
  have Zs2 := Nat.le_trans Z0 E2.1
  replace KK := KK.ext E2
  have V_b2 := Ax2
  have Ex_b2 := Bx2
  obtain ⟨T3, X3, e3, k3⟩ := o_cast X2 hx hZ k2 hown (hw 159 rfl) e2 (Ins.self Ex_b2) d11_21
  exact o_retA X3 hx k3 hlk hret rfl d11_24 (by rw [e3]; exact ⟨b2, rfl, N0, KK, V_b2, Ex_b2, sz_b2⟩)
theorem ef_34 (m : MethodId) (x0 x1 : Addr) (x2 x3 x4 : Int32) : entryFrame m #[.ref x0, .ref x1, .int x2, .int x3, .int x4] 7 = mkF m 0 #[Lr x0, Lr x1, Li x2, Li x3, Li x4, Lu, Lu] [] := by first | (simp [entryFrame, mkF, argsToLocals, Value.category]; done) | rfl
def Q34 (Z : State) (a1 ar : Addr) (Nb : Int32) (dco eno iso utf tbd tbe : Addr) (kd ke : ClassId) (G1 : Int32) (fm : Value) (kb : ClassId) (vs : List Value) (h0 : Heap) (n0 : Nat) (v : Option Value) (h : Heap) (L : List Loc) : Prop := ∃ (cr : Addr), v = none ∧ Fr n0 L ∧ Keep h0 h [a1] ∧ Exa Z h a1 "java/lang/String" ∧ Fld Z h a1 "java/lang/String" "coder" "B" (.int 0) ∧ Fld Z h a1 "java/lang/String" "value" "[B" (.ref cr) ∧ Arv Z h cr kb .byte Nb vs (.int 0) ∧ Exa Z h cr "[B" ∧ h0.size ≤ cr
set_option maxRecDepth 65536 in
set_option maxHeartbeats 40000000 in
theorem rm34 (hw : own_W a0 Z) (a1 ar : Addr) (Nb : Int32) (dco eno iso utf tbd tbe : Addr) (kd ke : ClassId) (G1 : Int32) (fm : Value) (kb : ClassId) (vs : List Value) (h0 : Heap) (n0 : Nat) (Z0 : n0 ≤ h0.size) (hG : own_G Z dco eno iso utf tbd tbe kd ke G1 fm) (X00 : Old Z n0 h0) (Es : Exa Z h0 a1 "java/lang/String") (Fv : Fld Z h0 a1 "java/lang/String" "value" "[B" .null) (Fc : Fld Z h0 a1 "java/lang/String" "coder" "B" (.int 0)) (Va : Arv Z h0 ar kb .byte Nb vs (.int 0)) (Ea : Exa Z h0 ar "[B") (hne : a1 ≠ ar) (g_a1 : n0 ≤ a1) (hNb : own_LN Nb) :
    own_M l Z yy12 q12 7 none ⟨2, 1, 8, 29⟩ #[.ref a1, .ref ar, .int 0, .int 0, .int Nb] h0 [] (Q34 Z a1 ar Nb dco eno iso utf tbd tbe kd ke G1 fm kb vs h0 n0) := by
  refine own_body (plainFor_of_name pn_1) ?_
  intro p e s m below meth c s₁ A hx hml hown hnm hlk hret hZ X0 e0 k0
  replace k0 := own_ent (ef_34 m a1 ar 0 0 Nb) k0
  have N0 := Fr.nil n0
  have KK : Keep h0 h0 [a1] := Keep.refl h0 [a1]
  obtain ⟨sD, sE, eD, eE, fDu, fDm, fEp, fEl, fEu, sI, sU, iu, sTd, sTe, aTd, aTe, sC, gC, sS, fmr⟩ := id hG
  have k1 := fun t_ ht_ => k0 t_ (o_aloadN X0 hx d12_0 rfl rfl ht_)
  obtain ⟨T2, X2, e2, k2⟩ := o_initO X0 hx hZ k1 hown (hw 19 rfl) (hw 20 rfl) (hw 21 rfl) e0 d12_1 hml 0
  have k3 := fun t_ ht_ => k2 t_ (o_iloadN X2 hx d12_4 rfl (o_iload X2 hx d12_5 rfl (o_aloadN X2 hx d12_7 rfl rfl (o_len X2 hx hZ d12_8 e2 Va ht_))))
  obtain ⟨_, T4, Lc4, X4, hQ4, k4⟩ := o_callSM X2 hx hZ k3 yy10 hown (hw 146 rfl) (hw 147 rfl) (hw 11 rfl) (hw 148 rfl) (rm32 hw Nb Nb dco eno iso utf tbd tbe kd ke G1 fm h0 n0 Z0 hG X00 (own_cf1 hNb) (own_cf2 hNb)) 0 [.int 0, .int Nb, .int Nb] [] (lenOf pd_5 rfl) hml e2 d12_9
  obtain ⟨rfl, Nq4, e4⟩ := hQ4
  have N4 := Fr.app N0 Nq4
  replace k4 := own_pushR k4
  have k5 := fun t_ ht_ => k4 t_ (o_pop X4 hx d12_12 rfl (o_iload X4 hx d12_13 rfl (o_ifYes X4 hx d12_15 ((if0 _ _).trans (feq (own_cf3 hNb)).2) 37 ht_)))
  obtain ⟨T6, X6, e6, k6⟩ := o_getS X4 hx hZ k5 hown (host := "") (Or.inl (hw 22 rfl)) Via.refl e4 (sC.ext X00.2) d12_37
  have k7 := fun t_ ht_ => k6 t_ (o_ifNo X6 hx d12_40 ((if0 _ _).trans (feq (gC)).1) (o_iloadN X6 hx d12_43 rfl (o_i2b X6 hx d12_44 (o_ifNo X6 hx d12_45 ((if0 _ _).trans (teq (by decide)).2) (o_aloadN X6 hx d12_48 rfl rfl (o_aloadN X6 hx d12_49 rfl rfl (o_iloadN X6 hx d12_50 rfl (o_iloadN X6 hx d12_51 rfl (o_iload X6 hx d12_52 rfl (o_iadd X6 hx d12_54 rfl ht_))))))))))
  rw [own_zadd Nb] at k7
  obtain ⟨_, T8, Lc8, X8, hQ8, k8⟩ := o_callSM X6 hx hZ k7 yy11 hown (hw 154 rfl) (hw 155 rfl) (hw 156 rfl) (hw 157 rfl) (rm33 hw ar Nb kb vs h0 n0 Z0 Va Ea (own_cf4 hNb)) 1 [.ref ar, .int 0, .int Nb] [.ref a1] (lenOf pd_6 rfl) hml e6 d12_55
  obtain ⟨cr, rfl, Nq8, K1, V1, E1, G1_⟩ := hQ8
  have N8 := Fr.app N4 Nq8
  replace k8 := own_pushR k8
  have ne_a1_cr : a1 ≠ cr := Nat.ne_of_lt (Nat.lt_of_lt_of_le Es.lt G1_)
  have sz_cr : h0.size ≤ cr := Nat.le_trans KK.1 G1_
  replace X00 := X00.keep K1 (by simp)
  replace Va := Va.keep K1 (by simp)
  replace Ea := Ea.keep K1
  replace Es := Es.keep K1
  replace Fv := Fv.keep K1 (by simp)
  replace Fc := Fc.keep K1 (by simp)
  have Zs8 := Nat.le_trans Z0 K1.1
  replace KK := KK.trans K1 (fun x q => nomatch q)
  obtain ⟨T9, h9, X9, e9, W9, k9⟩ := o_putF X8 hx hZ k8 hown (host := "") (Or.inl (hw 36 rfl)) Via.refl rfl Fv Es (Or.inr ⟨(hw 37 rfl), rfl, hnm⟩) (hw 10 rfl) d12_58 (.array .byte)
  replace X00 := X00.wr W9 g_a1
  replace Va := Va.other W9 (Ne.symm hne)
  replace Ea := Ea.wr W9
  replace Es := Es.wr W9
  replace Fc := Fc.other W9 (Or.inr (slot_ne (Or.inr (hw 35 rfl)) (Or.inr (hw 37 rfl)) (by decide) (t := .byte) (t' := (.array .byte)) (by decide) (by decide)))
  replace V1 := V1.other W9 (Ne.symm ne_a1_cr)
  replace E1 := E1.wr W9
  have Zs9 := Nat.le_trans Zs8 (Keep.of_wr W9).1
  replace KK := KK.wr W9 (Or.inl (by simp))
  replace Fv := Fv.same W9
  have N9 := Fr.snoc X9 N8 g_a1
  have k10 := fun t_ ht_ => k9 t_ (o_aloadN X9 hx d12_61 rfl rfl (o_iconst X9 hx d12_62 0 rfl ht_))
  obtain ⟨T11, h11, X11, e11, W11, k11⟩ := o_putFN X9 hx hZ k10 hown (hw 34 rfl) Via.refl e9 Fc Es (Or.inr ⟨(hw 35 rfl), rfl, hnm⟩) (hw 10 rfl) d12_63 .byte (.int (nar .byte (0 : Int32))) rfl (fits_nar_byte _)
  replace X00 := X00.wr W11 g_a1
  replace Va := Va.other W11 (Ne.symm hne)
  replace Ea := Ea.wr W11
  replace Es := Es.wr W11
  replace Fv := Fv.other W11 (Or.inr (slot_ne (Or.inr (hw 37 rfl)) (Or.inr (hw 35 rfl)) (by decide) (t := (.array .byte)) (t' := .byte) (by decide) (by decide)))
  replace V1 := V1.other W11 (Ne.symm ne_a1_cr)
  replace E1 := E1.wr W11
  have Zs11 := Nat.le_trans Zs9 (Keep.of_wr W11).1
  replace KK := KK.wr W11 (Or.inl (by simp))
  replace Fc := Fc.same W11
  have N11 := Fr.snoc X11 N9 g_a1
  have k12 := fun t_ ht_ => k11 t_ (o_goto X11 hx d12_66 127 ht_)
  exact o_retV X11 hx k12 hlk hret d12_127 (by rw [e11]; exact ⟨cr, rfl, N11, KK, Es, Fc, Fv, V1, E1, sz_cr⟩)
theorem ef_35 (m : MethodId) (x0 x1 : Addr) : entryFrame m #[.ref x0, .ref x1] 3 = mkF m 0 #[Lr x0, Lr x1, Lu] [] := by first | (simp [entryFrame, mkF, argsToLocals, Value.category]; done) | rfl
def Q35 (Z : State) (ar br : Addr) (kb kc : ClassId) (Nb : Int32) (rs : List Int32) (h0 : Heap) (n0 : Nat) (v : Option Value) (h : Heap) (L : List Loc) : Prop := v = some (.int (1 : Int32)) ∧ Fr n0 L ∧ h = h0
set_option maxRecDepth 65536 in
set_option maxHeartbeats 40000000 in
theorem rm35 (hw : own_W a0 Z) (ar br : Addr) (kb kc : ClassId) (Nb : Int32) (rs : List Int32) (h0 : Heap) (n0 : Nat) (Z0 : n0 ≤ h0.size) (Va : Arv Z h0 ar kb .byte Nb (rs.map Value.int) (.int 0)) (Vb : Arv Z h0 br kc .byte Nb (rs.map Value.int) (.int 0)) :
    own_M l Z yy13 q13 3 (some .boolean) ⟨0, 0, 0, 0⟩ #[.ref ar, .ref br] h0 [] (Q35 Z ar br kb kc Nb rs h0 n0) := by
  refine own_body (plainFor_of_name pn_6) ?_
  intro p e s m below meth c s₁ A hx hml hown hnm hlk hret hZ X0 e0 k0
  replace k0 := own_ent (ef_35 m ar br) k0
  have N0 := Fr.nil n0
  have k1 := fun t_ ht_ => k0 t_ (o_aloadN X0 hx d13_0 rfl rfl (o_len X0 hx hZ d13_1 e0 Va (o_aloadN X0 hx d13_2 rfl rfl (o_len X0 hx hZ d13_3 e0 Vb (o_icmpNo X0 hx d13_4 (teq (rfl)).2 (o_iconst X0 hx d13_7 0 rfl (o_istoreN X0 hx d13_8 #[Lr ar, Lr br, Li 0] rfl ht_)))))))
  have loop : ∀ (q : Nat) (i : Int32), 0 ≤ i.toInt → i.toInt + q = Nb.toInt → (∀ t, Steps p.tables e below (s₁.setTop (mkF m 9 #[Lr ar, Lr br, Li i] [])) t → Steps p.tables e below A t) → own_End p e below s A (Q35 Z ar br kb kc Nb rs h0 n0) 0 0 := by
    intro q
    induction q with
    | zero =>
      intro i hi0 hi1 ka
      have k2 := fun t_ ht_ => ka t_ (o_iloadN X0 hx d13_9 rfl (o_aloadN X0 hx d13_10 rfl rfl (o_len X0 hx hZ d13_11 e0 Va (o_icmpYes X0 hx d13_12 (flt (own_lp0 hi1)).2.1 32 (o_iconst X0 hx d13_32 1 rfl ht_)))))
      exact o_retN X0 hx k2 hlk hret (by simp) d13_33 (by rw [e0]; exact ⟨rfl, N0, rfl⟩)
    | succ q ih =>
      intro i hi0 hi1 kb_
      have k3 := fun t_ ht_ => kb_ t_ (o_iloadN X0 hx d13_9 rfl (o_aloadN X0 hx d13_10 rfl rfl (o_len X0 hx hZ d13_11 e0 Va (o_icmpNo X0 hx d13_12 (tlt (own_lp1 hi1)).2.1 (o_aloadN X0 hx d13_15 rfl rfl (o_iloadN X0 hx d13_16 rfl (o_ldB X0 hx hZ d13_17 e0 Va (own_lp2 hi0 hi1) (own_getD_map rs _) (o_aloadN X0 hx d13_18 rfl rfl (o_iloadN X0 hx d13_19 rfl (o_ldB X0 hx hZ d13_20 e0 Vb (own_lp2 hi0 hi1) (own_getD_map rs _) (o_icmpYes X0 hx d13_21 (teq (rfl)).1 26 (o_iinc X0 hx d13_26 #[Lr ar, Lr br, Li (i + (1 : Int32))] rfl rfl (o_goto X0 hx d13_29 9 ht_)))))))))))))
      exact ih _ (own_lp3 hi0 hi1) (own_lp4 hi0 hi1) k3
  exact loop Nb.toInt.toNat 0 (by decide) (own_lp5 Va) k1
theorem ef_36 (m : MethodId) (x0 x1 : Addr) : entryFrame m #[.ref x0, .ref x1] 3 = mkF m 0 #[Lr x0, Lr x1, Lu] [] := by first | (simp [entryFrame, mkF, argsToLocals, Value.category]; done) | rfl
def Q36 (Z : State) (a1 a2 dco eno iso utf tbd tbe : Addr) (kd ke : ClassId) (G1 : Int32) (fm : Value) (ar br : Addr) (kb kc : ClassId) (Nb : Int32) (rs : List Int32) (h0 : Heap) (n0 : Nat) (v : Option Value) (h : Heap) (L : List Loc) : Prop := v = some (.int (1 : Int32)) ∧ Fr n0 L ∧ h = h0
set_option maxRecDepth 65536 in
set_option maxHeartbeats 40000000 in
theorem rm36 (hw : own_W a0 Z) (a1 a2 dco eno iso utf tbd tbe : Addr) (kd ke : ClassId) (G1 : Int32) (fm : Value) (ar br : Addr) (kb kc : ClassId) (Nb : Int32) (rs : List Int32) (h0 : Heap) (n0 : Nat) (Z0 : n0 ≤ h0.size) (hG : own_G Z dco eno iso utf tbd tbe kd ke G1 fm) (X00 : Old Z n0 h0) (Es : Exa Z h0 a1 "java/lang/String") (Fc : Fld Z h0 a1 "java/lang/String" "coder" "B" (.int 0)) (Fv : Fld Z h0 a1 "java/lang/String" "value" "[B" (.ref ar)) (Es2 : Exa Z h0 a2 "java/lang/String") (Fc2 : Fld Z h0 a2 "java/lang/String" "coder" "B" (.int 0)) (Fv2 : Fld Z h0 a2 "java/lang/String" "value" "[B" (.ref br)) (Va : Arv Z h0 ar kb .byte Nb (rs.map Value.int) (.int 0)) (Vb : Arv Z h0 br kc .byte Nb (rs.map Value.int) (.int 0)) (hne : a1 ≠ a2) :
    own_M l Z yy14 q14 3 (some .boolean) ⟨1, 0, 0, 14⟩ #[.ref a1, .ref a2] h0 [] (Q36 Z a1 a2 dco eno iso utf tbd tbe kd ke G1 fm ar br kb kc Nb rs h0 n0) := by
  refine own_body (plainFor_of_name pn_1) ?_
  intro p e s m below meth c s₁ A hx hml hown hnm hlk hret hZ X0 e0 k0
  replace k0 := own_ent (ef_36 m a1 a2) k0
  have N0 := Fr.nil n0
  obtain ⟨sD, sE, eD, eE, fDu, fDm, fEp, fEl, fEu, sI, sU, iu, sTd, sTe, aTd, aTe, sC, gC, sS, fmr⟩ := id hG
  have k1 := fun t_ ht_ => k0 t_ (o_aloadN X0 hx d14_0 rfl rfl (o_aloadN X0 hx d14_1 rfl rfl (o_acmp X0 hx d14_2 rfl rfl (same := false) (decide_eq_false (fun q => hne (Value.ref.inj q))) (by decide) (by decide : 7 = _) (o_aloadN X0 hx d14_7 rfl rfl ht_))))
  obtain ⟨T2, X2, e2, k2⟩ := o_inst X0 hx hZ k1 hown (hw 165 rfl) e0 (Ins.self Es2) d14_8
  have k3 := fun t_ ht_ => k2 t_ (o_ifNo X2 hx d14_11 ((if0 _ _).trans (feq (by decide)).1) (o_aloadN X2 hx d14_14 rfl rfl ht_))
  obtain ⟨T4, X4, e4, k4⟩ := o_cast X2 hx hZ k3 hown (hw 165 rfl) e2 (Ins.self Es2) d14_15
  have k5 := fun t_ ht_ => k4 t_ (o_astoreN X4 hx d14_18 #[Lr a1, Lr a2, Lr a2] rfl rfl ht_)
  obtain ⟨T6, X6, e6, k6⟩ := o_getS X4 hx hZ k5 hown (host := "") (Or.inl (hw 22 rfl)) Via.refl e4 (sC.ext X00.2) d14_19
  have k7 := fun t_ ht_ => k6 t_ (o_ifNo X6 hx d14_22 ((if0 _ _).trans (feq (gC)).1) (o_aloadN X6 hx d14_25 rfl rfl ht_))
  obtain ⟨T8, X8, e8, k8⟩ := o_getF X6 hx hZ k7 hown (host := "") (Or.inl (hw 34 rfl)) Via.refl e6 Fc d14_26
  have k9 := fun t_ ht_ => k8 t_ (o_aloadN X8 hx d14_29 rfl rfl ht_)
  obtain ⟨T10, X10, e10, k10⟩ := o_getF X8 hx hZ k9 hown (host := "") (Or.inl (hw 34 rfl)) Via.refl e8 Fc2 d14_30
  have k11 := fun t_ ht_ => k10 t_ (o_icmpNo X10 hx d14_33 (teq (by decide)).2 (o_aloadN X10 hx d14_36 rfl rfl ht_))
  obtain ⟨T12, X12, e12, k12⟩ := o_getF X10 hx hZ k11 hown (host := "") (Or.inl (hw 36 rfl)) Via.refl e10 Fv d14_37
  have k13 := fun t_ ht_ => k12 t_ (o_aloadN X12 hx d14_40 rfl rfl ht_)
  obtain ⟨T14, X14, e14, k14⟩ := o_getF X12 hx hZ k13 hown (host := "") (Or.inl (hw 36 rfl)) Via.refl e12 Fv2 d14_41
  obtain ⟨_, T15, Lc15, X15, hQ15, k15⟩ := o_callSM X14 hx hZ k14 yy13 hown (hw 166 rfl) (hw 167 rfl) (hw 168 rfl) (hw 169 rfl) (rm35 hw ar br kb kc Nb rs h0 n0 Z0 Va Vb) 0 [.ref ar, .ref br] [] (lenOf pd_7 rfl) hml e14 d14_44
  obtain ⟨rfl, Nq15, e15⟩ := hQ15
  have N15 := Fr.app N0 Nq15
  replace k15 := own_pushR k15
  have k16 := fun t_ ht_ => k15 t_ (o_ifNo X15 hx d14_47 ((if0 _ _).trans (feq (by decide)).1) (o_iconst X15 hx d14_50 1 rfl (o_goto X15 hx d14_51 55 ht_)))
  exact o_retN X15 hx k16 hlk hret (by simp) d14_55 (by rw [e15]; exact ⟨rfl, N15, rfl⟩)
theorem ef_37 (m : MethodId) (x0 x1 : Addr) (x2 x3 : Int32) : entryFrame m #[.ref x0, .ref x1, .int x2, .int x3] 9 = mkF m 0 #[Lr x0, Lr x1, Li x2, Li x3, Lu, Lu, Lu, Lu, Lu] [] := by first | (simp [entryFrame, mkF, argsToLocals, Value.category]; done) | rfl
def Q37 (Z : State) (dco ar eno iso utf tbd tbe : Addr) (kd ke : ClassId) (G1 : Int32) (fm : Value) (kb : ClassId) (B0 B1 B2 B3 B4 B5 v0 v1 v2 v3 v4 v5 v6 v7 r0 r1 r2 r3 r4 r5 r6 r7 : Int32) (h0 : Heap) (n0 : Nat) (v : Option Value) (h : Heap) (L : List Loc) : Prop := v = some (.int (1 : Int32)) ∧ Fr n0 L ∧ h = h0
set_option maxRecDepth 65536 in
set_option maxHeartbeats 40000000 in
theorem rm37 (hw : own_W a0 Z) (dco ar eno iso utf tbd tbe : Addr) (kd ke : ClassId) (G1 : Int32) (fm : Value) (kb : ClassId) (B0 B1 B2 B3 B4 B5 v0 v1 v2 v3 v4 v5 v6 v7 r0 r1 r2 r3 r4 r5 r6 r7 : Int32) (h0 : Heap) (n0 : Nat) (Z0 : n0 ≤ h0.size) (hG : own_G Z dco eno iso utf tbd tbe kd ke G1 fm) (X00 : Old Z n0 h0) (Va : Arv Z h0 ar kb .byte (2 : Int32) [.int r0, .int r1] (.int 0)) (hD : own_D 1 B0 B1 B2 B3 B4 B5 v0 v1 v2 v3 v4 v5 v6 v7 r0 r1 r2 r3 r4 r5 r6 r7) :
    own_M l Z yy15 q15 9 (some .int) ⟨0, 0, 0, 0⟩ #[.ref dco, .ref ar, .int 0, .int 2] h0 [] (Q37 Z dco ar eno iso utf tbd tbe kd ke G1 fm kb B0 B1 B2 B3 B4 B5 v0 v1 v2 v3 v4 v5 v6 v7 r0 r1 r2 r3 r4 r5 r6 r7 h0 n0) := by
  refine own_body (plainFor_of_name pn_2) ?_
  intro p e s m below meth c s₁ A hx hml hown hnm hlk hret hZ X0 e0 k0
  replace k0 := own_ent (ef_37 m dco ar 0 2) k0
  have N0 := Fr.nil n0
  obtain ⟨sD, sE, eD, eE, fDu, fDm, fEp, fEl, fEu, sI, sU, iu, sTd, sTe, aTd, aTe, sC, gC, sS, fmr⟩ := id hG
  obtain ⟨hq0, hq1, hc0, hc1, hc2, hc3, hc4, hc5, hc6, hc7, hz1, hz2, hz4, hz5⟩ := id hD
  have od1 := fDu.ext X00.2
  have k2 := fun t_ ht_ => k0 t_ (o_aloadN X0 hx d15_0 rfl rfl ht_)
  obtain ⟨T3, X3, e3, k3⟩ := o_getF X0 hx hZ k2 hown (host := "") (Or.inl (hw 93 rfl)) Via.refl e0 od1 d15_1
  have k4 := fun t_ ht_ => k3 t_ (o_ifNo X3 hx d15_4 ((if0 _ _).trans (feq (by decide)).1) ht_)
  obtain ⟨T5, X5, e5, k5⟩ := o_getS X3 hx hZ k4 hown (host := "") (Or.inl (hw 95 rfl)) Via.refl e3 (sTd.ext X00.2) d15_7
  have od6 := fDm.ext X00.2
  have k7 := fun t_ ht_ => k5 t_ (o_goto X5 hx d15_10 16 (o_astore X5 hx d15_16 #[Lr dco, Lr ar, Li 0, Li 2, Lr tbd, Lu, Lu, Lu, Lu] rfl rfl (o_iconst X5 hx d15_18 0 rfl (o_istore X5 hx d15_19 #[Lr dco, Lr ar, Li 0, Li 2, Lr tbd, Li 0, Lu, Lu, Lu] rfl (o_iloadN X5 hx d15_21 rfl (o_iloadN X5 hx d15_22 rfl (o_isub X5 hx d15_23 (rfl : _ = (2 : Int32)) (o_istore X5 hx d15_24 #[Lr dco, Lr ar, Li 0, Li 2, Lr tbd, Li 0, Li 2, Lu, Lu] rfl (o_iload X5 hx d15_26 rfl (o_ifYes X5 hx d15_28 ((if0 _ _).trans (feq (by decide)).2) 33 (o_iload X5 hx d15_33 rfl (o_iconst X5 hx d15_35 2 rfl (o_icmpYes X5 hx d15_36 (flt (by decide)).2.1 66 (o_aloadN X5 hx d15_66 rfl rfl ht_))))))))))))))
  obtain ⟨T8, X8, e8, k8⟩ := o_getF X5 hx hZ k7 hown (host := "") (Or.inl (hw 96 rfl)) Via.refl e5 od6 d15_67
  have k9 := fun t_ ht_ => k8 t_ (o_ifYes X8 hx d15_70 ((if0 _ _).trans (teq (by decide)).1) 141 (o_aloadN X8 hx d15_141 rfl rfl (o_iloadN X8 hx d15_142 rfl (o_iconst X8 hx d15_143 1 rfl (o_isub X8 hx d15_144 (rfl : _ = (1 : Int32)) (o_ldB X8 hx hZ d15_145 e8 Va ⟨by decide, by decide⟩ (rfl : _ = Value.int r1) (o_bipush X8 hx d15_146 61 rfl (o_icmpYes X8 hx d15_148 (feq (own_r61 hc1)).2 167 (o_iload X8 hx d15_167 rfl (o_ifNo X8 hx d15_169 ((if0 _ _).trans (teq (by decide)).2) (o_iload X8 hx d15_172 rfl (o_iconst X8 hx d15_174 3 rfl (o_iand X8 hx d15_175 (rfl : _ = (2 : Int32)) (o_ifNo X8 hx d15_176 ((if0 _ _).trans (feq (by decide)).1) (o_iconst X8 hx d15_179 4 rfl (o_iload X8 hx d15_180 rfl (o_iconst X8 hx d15_182 3 rfl (o_iand X8 hx d15_183 (rfl : _ = (2 : Int32)) (o_isub X8 hx d15_184 (rfl : _ = (2 : Int32)) (o_istore X8 hx d15_185 #[Lr dco, Lr ar, Li 0, Li 2, Lr tbd, Li 2, Li 2, Lu, Lu] rfl (o_iconst X8 hx d15_187 3 rfl (o_iload X8 hx d15_188 rfl (o_i2l X8 hx d15_190 (o_ldc2Long X8 hx d15_191 hown (mvT hZ (hw 98 rfl)) (o_ladd X8 hx d15_194 rfl (o_ldc2Long X8 hx d15_195 hown (mvT hZ (hw 99 rfl)) (o_ldiv X8 hx d15_198 (by decide) (o_l2i X8 hx d15_199 (o_imul X8 hx d15_200 rfl (o_iload X8 hx d15_201 rfl (o_isub X8 hx d15_203 rfl ht_)))))))))))))))))))))))))))))))
  exact o_retI X8 hx k9 hlk hret d15_204 (by rw [e8]; exact ⟨congrArg (fun z => some (Value.int z)) (show (((3 : Int32) * (((((2 : Int32).toInt64) + (3 : Int64)) / (4 : Int64)).toInt32)) - (2 : Int32)) = (1 : Int32) from by decide), N0, rfl⟩)
theorem ef_38 (m : MethodId) (x0 x1 : Addr) (x2 x3 : Int32) (x4 : Addr) : entryFrame m #[.ref x0, .ref x1, .int x2, .int x3, .ref x4] 11 = mkF m 0 #[Lr x0, Lr x1, Li x2, Li x3, Lr x4, Lu, Lu, Lu, Lu, Lu, Lu] [] := by first | (simp [entryFrame, mkF, argsToLocals, Value.category]; done) | rfl
def Q38 (Z : State) (dco ar ds eno iso utf tbd tbe : Addr) (kd ke : ClassId) (G1 : Int32) (fm : Value) (kb kc : ClassId) (B0 B1 B2 B3 B4 B5 v0 v1 v2 v3 v4 v5 v6 v7 r0 r1 r2 r3 r4 r5 r6 r7 : Int32) (h0 : Heap) (n0 : Nat) (v : Option Value) (h : Heap) (L : List Loc) : Prop := ∃ (y0 : Int32), v = some (.int (1 : Int32)) ∧ Fr n0 L ∧ Keep h0 h [ds] ∧ Arv Z h ds kc .byte (1 : Int32) [.int y0] (.int 0) ∧ own_SB y0 B0
set_option maxRecDepth 65536 in
set_option maxHeartbeats 40000000 in
theorem rm38 (hw : own_W a0 Z) (dco ar ds eno iso utf tbd tbe : Addr) (kd ke : ClassId) (G1 : Int32) (fm : Value) (kb kc : ClassId) (B0 B1 B2 B3 B4 B5 v0 v1 v2 v3 v4 v5 v6 v7 r0 r1 r2 r3 r4 r5 r6 r7 : Int32) (h0 : Heap) (n0 : Nat) (Z0 : n0 ≤ h0.size) (hG : own_G Z dco eno iso utf tbd tbe kd ke G1 fm) (X00 : Old Z n0 h0) (Va : Arv Z h0 ar kb .byte (2 : Int32) [.int r0, .int r1] (.int 0)) (Vd : Arv Z h0 ds kc .byte (1 : Int32) [.int (0 : Int32)] (.int 0)) (hne : ar ≠ ds) (g_ds : n0 ≤ ds) (hD : own_D 1 B0 B1 B2 B3 B4 B5 v0 v1 v2 v3 v4 v5 v6 v7 r0 r1 r2 r3 r4 r5 r6 r7) :
    own_M l Z yy16 q16 11 (some .int) ⟨0, 0, 0, 0⟩ #[.ref dco, .ref ar, .int 0, .int 2, .ref ds] h0 [] (Q38 Z dco ar ds eno iso utf tbd tbe kd ke G1 fm kb kc B0 B1 B2 B3 B4 B5 v0 v1 v2 v3 v4 v5 v6 v7 r0 r1 r2 r3 r4 r5 r6 r7 h0 n0) := by
  refine own_body (plainFor_of_name pn_2) ?_
  intro p e s m below meth c s₁ A hx hml hown hnm hlk hret hZ X0 e0 k0
  replace k0 := own_ent (ef_38 m dco ar 0 2 ds) k0
  have N0 := Fr.nil n0
  have KK : Keep h0 h0 [ds] := Keep.refl h0 [ds]
  obtain ⟨sD, sE, eD, eE, fDu, fDm, fEp, fEl, fEu, sI, sU, iu, sTd, sTe, aTd, aTe, sC, gC, sS, fmr⟩ := id hG
  obtain ⟨hq0, hq1, hc0, hc1, hc2, hc3, hc4, hc5, hc6, hc7, hz1, hz2, hz4, hz5⟩ := id hD
  have od1 := fDu.ext X00.2
  have k2 := fun t_ ht_ => k0 t_ (o_aloadN X0 hx d16_0 rfl rfl ht_)
  obtain ⟨T3, X3, e3, k3⟩ := o_getF X0 hx hZ k2 hown (host := "") (Or.inl (hw 93 rfl)) Via.refl e0 od1 d16_1
  have k4 := fun t_ ht_ => k3 t_ (o_ifNo X3 hx d16_4 ((if0 _ _).trans (feq (by decide)).1) ht_)
  obtain ⟨T5, X5, e5, k5⟩ := o_getS X3 hx hZ k4 hown (host := "") (Or.inl (hw 95 rfl)) Via.refl e3 (sTd.ext X00.2) d16_7
  have k6 := fun t_ ht_ => k5 t_ (o_goto X5 hx d16_10 16 (o_astore X5 hx d16_16 #[Lr dco, Lr ar, Li 0, Li 2, Lr ds, Lr tbd, Lu, Lu, Lu, Lu, Lu] rfl rfl (o_iconst X5 hx d16_18 0 rfl (o_istore X5 hx d16_19 #[Lr dco, Lr ar, Li 0, Li 2, Lr ds, Lr tbd, Li 0, Lu, Lu, Lu, Lu] rfl (o_iconst X5 hx d16_21 0 rfl (o_istore X5 hx d16_22 #[Lr dco, Lr ar, Li 0, Li 2, Lr ds, Lr tbd, Li 0, Li 0, Lu, Lu, Lu] rfl (o_bipush X5 hx d16_24 18 rfl (o_istore X5 hx d16_26 #[Lr dco, Lr ar, Li 0, Li 2, Lr ds, Lr tbd, Li 0, Li 0, Li 18, Lu, Lu] rfl (o_iloadN X5 hx d16_28 rfl (o_iloadN X5 hx d16_29 rfl (o_icmpNo X5 hx d16_30 (tlt (by decide)).2.1 (o_iload X5 hx d16_33 rfl (o_bipush X5 hx d16_35 18 rfl (o_icmpNo X5 hx d16_37 (teq (by decide)).2 (o_iloadN X5 hx d16_40 rfl (o_iloadN X5 hx d16_41 rfl (o_iconst X5 hx d16_42 4 rfl (o_isub X5 hx d16_43 (rfl : _ = (-2 : Int32)) (o_icmpYes X5 hx d16_44 (flt (by decide)).2.1 90 (o_iloadN X5 hx d16_90 rfl (o_iloadN X5 hx d16_91 rfl (o_icmpYes X5 hx d16_92 (tlt (by decide)).1 98 (o_aloadN X5 hx d16_98 rfl rfl (o_iloadN X5 hx d16_99 rfl (o_iinc X5 hx d16_100 #[Lr dco, Lr ar, Li 1, Li 2, Lr ds, Lr tbd, Li 0, Li 0, Li 18, Lu, Lu] rfl rfl (o_ldB X5 hx hZ d16_103 e5 Va ⟨by decide, by decide⟩ (rfl : _ = Value.int r0) (o_sipush X5 hx d16_104 255 rfl (o_iand X5 hx d16_107 rfl ht_))))))))))))))))))))))))))))
  rw [own_r255 hc0] at k6
  have od7 := aTd.ext X00.2
  have k8 := fun t_ ht_ => k6 t_ (o_istore X5 hx d16_108 #[Lr dco, Lr ar, Li 1, Li 2, Lr ds, Lr tbd, Li 0, Li 0, Li 18, Li r0, Lu] rfl (o_aload X5 hx d16_110 rfl rfl (o_iload X5 hx d16_112 rfl (o_ldI X5 hx hZ d16_114 e5 od7 (own_i256 hc0) (own_tabD_at hc0) (o_dup X5 hx d16_115 rfl (o_istore X5 hx d16_116 #[Lr dco, Lr ar, Li 1, Li 2, Lr ds, Lr tbd, Li 0, Li 0, Li 18, Li v0, Lu] rfl (o_ifYes X5 hx d16_118 ((if0 _ _).trans (flt (own_v0 hc0)).2.1) 214 (o_iload X5 hx d16_214 rfl (o_iload X5 hx d16_216 rfl (o_iload X5 hx d16_218 rfl (o_ishl X5 hx d16_220 (o_ior X5 hx d16_221 rfl (o_istore X5 hx d16_222 #[Lr dco, Lr ar, Li 1, Li 2, Lr ds, Lr tbd, Li 0, Li ((0 : Int32) ||| (v0 <<< ((18 : Int32) &&& 31))), Li 18, Li v0, Lu] rfl (o_iinc X5 hx d16_224 #[Lr dco, Lr ar, Li 1, Li 2, Lr ds, Lr tbd, Li 0, Li ((0 : Int32) ||| (v0 <<< ((18 : Int32) &&& 31))), Li 12, Li v0, Lu] rfl rfl (o_iload X5 hx d16_227 rfl (o_ifYes X5 hx d16_229 ((if0 _ _).trans (flt (by decide)).2.1) 278 (o_goto X5 hx d16_278 28 (o_iloadN X5 hx d16_28 rfl (o_iloadN X5 hx d16_29 rfl (o_icmpNo X5 hx d16_30 (tlt (by decide)).2.1 (o_iload X5 hx d16_33 rfl (o_bipush X5 hx d16_35 18 rfl (o_icmpYes X5 hx d16_37 (feq (by decide)).2 90 (o_iloadN X5 hx d16_90 rfl (o_iloadN X5 hx d16_91 rfl (o_icmpYes X5 hx d16_92 (tlt (by decide)).1 98 (o_aloadN X5 hx d16_98 rfl rfl (o_iloadN X5 hx d16_99 rfl (o_iinc X5 hx d16_100 #[Lr dco, Lr ar, Li 2, Li 2, Lr ds, Lr tbd, Li 0, Li ((0 : Int32) ||| (v0 <<< ((18 : Int32) &&& 31))), Li 12, Li v0, Lu] rfl rfl (o_ldB X5 hx hZ d16_103 e5 Va ⟨by decide, by decide⟩ (rfl : _ = Value.int r1) (o_sipush X5 hx d16_104 255 rfl (o_iand X5 hx d16_107 rfl ht_))))))))))))))))))))))))))))))))
  rw [own_r255 hc1] at k8
  have k9 := fun t_ ht_ => k8 t_ (o_istore X5 hx d16_108 #[Lr dco, Lr ar, Li 2, Li 2, Lr ds, Lr tbd, Li 0, Li ((0 : Int32) ||| (v0 <<< ((18 : Int32) &&& 31))), Li 12, Li r1, Lu] rfl (o_aload X5 hx d16_110 rfl rfl (o_iload X5 hx d16_112 rfl (o_ldI X5 hx hZ d16_114 e5 od7 (own_i256 hc1) (own_tabD_at hc1) (o_dup X5 hx d16_115 rfl (o_istore X5 hx d16_116 #[Lr dco, Lr ar, Li 2, Li 2, Lr ds, Lr tbd, Li 0, Li ((0 : Int32) ||| (v0 <<< ((18 : Int32) &&& 31))), Li 12, Li v1, Lu] rfl (o_ifYes X5 hx d16_118 ((if0 _ _).trans (flt (own_v0 hc1)).2.1) 214 (o_iload X5 hx d16_214 rfl (o_iload X5 hx d16_216 rfl (o_iload X5 hx d16_218 rfl (o_ishl X5 hx d16_220 (o_ior X5 hx d16_221 rfl (o_istore X5 hx d16_222 #[Lr dco, Lr ar, Li 2, Li 2, Lr ds, Lr tbd, Li 0, Li (((0 : Int32) ||| (v0 <<< ((18 : Int32) &&& 31))) ||| (v1 <<< ((12 : Int32) &&& 31))), Li 12, Li v1, Lu] rfl (o_iinc X5 hx d16_224 #[Lr dco, Lr ar, Li 2, Li 2, Lr ds, Lr tbd, Li 0, Li (((0 : Int32) ||| (v0 <<< ((18 : Int32) &&& 31))) ||| (v1 <<< ((12 : Int32) &&& 31))), Li 6, Li v1, Lu] rfl rfl (o_iload X5 hx d16_227 rfl (o_ifYes X5 hx d16_229 ((if0 _ _).trans (flt (by decide)).2.1) 278 (o_goto X5 hx d16_278 28 (o_iloadN X5 hx d16_28 rfl (o_iloadN X5 hx d16_29 rfl (o_icmpYes X5 hx d16_30 (flt (by decide)).2.1 281 (o_iload X5 hx d16_281 rfl (o_bipush X5 hx d16_283 6 rfl (o_icmpNo X5 hx d16_285 (teq (by decide)).2 ht_)))))))))))))))))))))))
  obtain ⟨bt0, hbt0⟩ : ∃ z : Int32, z = (((0 : Int32) ||| (v0 <<< ((18 : Int32) &&& 31))) ||| (v1 <<< ((12 : Int32) &&& 31))) := ⟨_, rfl⟩
  rw [← hbt0] at k9
  have k10 := fun t_ ht_ => k9 t_ (o_aload X5 hx d16_288 rfl rfl (o_iload X5 hx d16_290 rfl (o_iinc X5 hx d16_292 #[Lr dco, Lr ar, Li 2, Li 2, Lr ds, Lr tbd, Li 1, Li bt0, Li 6, Li v1, Lu] rfl rfl (o_iload X5 hx d16_295 rfl (o_bipush X5 hx d16_297 16 rfl (o_ishr X5 hx d16_299 (o_i2b X5 hx d16_300 ht_)))))))
  obtain ⟨yy0, hyy0⟩ : ∃ z : Int32, z = ((bt0 >>> ((16 : Int32) &&& 31)).toInt8.toInt32) := ⟨_, rfl⟩
  rw [← hyy0] at k10
  have sb0 := own_T2_0 hq0 hc0 hc1 hbt0 hyy0
  obtain ⟨T11, h11, X11, e11, W11, Vd, k11⟩ := o_stB X5 hx hZ k10 e5 Vd 0 [.int (nar .byte yy0)] d16_301
  replace X00 := X00.wr W11 g_ds
  replace Va := Va.other W11 hne
  have Zs11 := Nat.le_trans Z0 (Keep.of_wr W11).1
  replace KK := KK.wr W11 (Or.inl (by simp))
  have N11 := Fr.snoc X11 N0 g_ds
  have k12 := fun t_ ht_ => k11 t_ (o_goto X11 hx d16_302 358 (o_iloadN X11 hx d16_358 rfl (o_iloadN X11 hx d16_359 rfl (o_icmpYes X11 hx d16_360 (flt (by decide)).2.1 416 (o_iload X11 hx d16_416 rfl ht_)))))
  exact o_retI X11 hx k12 hlk hret d16_418 (by rw [e11]; exact ⟨(nar .byte yy0), rfl, N11, KK, Vd, sb0⟩)
theorem ef_39 (m : MethodId) (x0 x1 : Addr) : entryFrame m #[.ref x0, .ref x1] 4 = mkF m 0 #[Lr x0, Lr x1, Lu, Lu] [] := by first | (simp [entryFrame, mkF, argsToLocals, Value.category]; done) | rfl
def Q39 (Z : State) (dco ar eno iso utf tbd tbe : Addr) (kd ke : ClassId) (G1 : Int32) (fm : Value) (kb : ClassId) (B0 B1 B2 B3 B4 B5 v0 v1 v2 v3 v4 v5 v6 v7 r0 r1 r2 r3 r4 r5 r6 r7 : Int32) (h0 : Heap) (n0 : Nat) (v : Option Value) (h : Heap) (L : List Loc) : Prop := ∃ (ds : Addr) (kc : ClassId) (y0 : Int32), v = some (.ref ds) ∧ Fr n0 L ∧ Keep h0 h [] ∧ Arv Z h ds kc .byte (1 : Int32) [.int y0] (.int 0) ∧ h0.size ≤ ds ∧ n0 ≤ ds ∧ own_SB y0 B0
set_option maxRecDepth 65536 in
set_option maxHeartbeats 40000000 in
theorem rm39 (hw : own_W a0 Z) (dco ar eno iso utf tbd tbe : Addr) (kd ke : ClassId) (G1 : Int32) (fm : Value) (kb : ClassId) (B0 B1 B2 B3 B4 B5 v0 v1 v2 v3 v4 v5 v6 v7 r0 r1 r2 r3 r4 r5 r6 r7 : Int32) (h0 : Heap) (n0 : Nat) (Z0 : n0 ≤ h0.size) (hG : own_G Z dco eno iso utf tbd tbe kd ke G1 fm) (X00 : Old Z n0 h0) (Va : Arv Z h0 ar kb .byte (2 : Int32) [.int r0, .int r1] (.int 0)) (hD : own_D 1 B0 B1 B2 B3 B4 B5 v0 v1 v2 v3 v4 v5 v6 v7 r0 r1 r2 r3 r4 r5 r6 r7) :
    own_M l Z yy17 q17 4 (some (.array .byte)) ⟨1, 1, 1, 22⟩ #[.ref dco, .ref ar] h0 [] (Q39 Z dco ar eno iso utf tbd tbe kd ke G1 fm kb B0 B1 B2 B3 B4 B5 v0 v1 v2 v3 v4 v5 v6 v7 r0 r1 r2 r3 r4 r5 r6 r7 h0 n0) := by
  refine own_body (plainFor_of_name pn_2) ?_
  intro p e s m below meth c s₁ A hx hml hown hnm hlk hret hZ X0 e0 k0
  replace k0 := own_ent (ef_39 m dco ar) k0
  have N0 := Fr.nil n0
  have KK : Keep h0 h0 [] := Keep.refl h0 []
  obtain ⟨sD, sE, eD, eE, fDu, fDm, fEp, fEl, fEu, sI, sU, iu, sTd, sTe, aTd, aTe, sC, gC, sS, fmr⟩ := id hG
  obtain ⟨hq0, hq1, hc0, hc1, hc2, hc3, hc4, hc5, hc6, hc7, hz1, hz2, hz4, hz5⟩ := id hD
  have od1 := eD.ext X00.2
  have k2 := fun t_ ht_ => k0 t_ (o_aloadN X0 hx d17_0 rfl rfl (o_aloadN X0 hx d17_1 rfl rfl (o_iconst X0 hx d17_2 0 rfl (o_aloadN X0 hx d17_3 rfl rfl (o_len X0 hx hZ d17_4 e0 Va ht_)))))
  obtain ⟨_, T3, Lc3, X3, hQ3, k3⟩ := o_privateM X0 hx hZ k2 yy15 hown (hw 88 rfl) (hw 89 rfl) (hw 91 rfl) (hw 90 rfl) (hw 92 rfl) (rm37 hw dco ar eno iso utf tbd tbe kd ke G1 fm kb B0 B1 B2 B3 B4 B5 v0 v1 v2 v3 v4 v5 v6 v7 r0 r1 r2 r3 r4 r5 r6 r7 h0 n0 Z0 hG X00 Va hD) (hw 48 rfl) 0 od1 [.ref ar, .int 0, .int 2] [] (lenOf pd_8 rfl) hml e0 d17_5
  obtain ⟨rfl, Nq3, e3⟩ := hQ3
  have N3 := Fr.app N0 Nq3
  replace k3 := own_pushR k3
  obtain ⟨T4, h4, c4, X4, e4, E4, Ax4, Bx4, k4⟩ := o_newP X3 hx hZ k3 (hw 27 rfl) e3 (by decide) 1 (by decide) "[B" d17_8
  obtain ⟨b4, g4⟩ : ∃ z, z = h0.size := ⟨_, rfl⟩
  rw [← g4] at Ax4 Bx4 k4
  have ne_ar_b4 : ar ≠ b4 := Nat.ne_of_lt (Nat.lt_of_lt_of_le Va.lt (Nat.le_of_eq g4.symm))
  have g_b4 : n0 ≤ b4 := Nat.le_trans Z0 (Nat.le_of_eq g4.symm)
  have sz_b4 : h0.size ≤ b4 := Nat.le_trans KK.1 (Nat.le_of_eq g4.symm)
  replace X00 : Old Z n0 h4 := ⟨X00.1, Nat.le_trans X00.2.1 E4.1, fun x c r => E4.2 x c (X00.2.2 x c r)⟩
  replace Va := Va.ext E4
  have Zs4 := Nat.le_trans Z0 E4.1
  replace KK := KK.ext E4
  have Ex_b4 := Bx4
  have V_b4 : Arv Z h4 b4 c4 .byte 1 [.int 0] (.int 0) := (Arv.new Ax4 (by decide)).pad (pad_rep [] (.int 0) 1)
  have od5 := eD.ext X00.2
  have k6 := fun t_ ht_ => k4 t_ (o_astoreN X4 hx d17_10 #[Lr dco, Lr ar, Lr b4, Lu] rfl rfl (o_aloadN X4 hx d17_11 rfl rfl (o_aloadN X4 hx d17_12 rfl rfl (o_iconst X4 hx d17_13 0 rfl (o_aloadN X4 hx d17_14 rfl rfl (o_len X4 hx hZ d17_15 e4 Va (o_aloadN X4 hx d17_16 rfl rfl ht_)))))))
  obtain ⟨_, T7, Lc7, X7, hQ7, k7⟩ := o_privateM X4 hx hZ k6 yy16 hown (hw 100 rfl) (hw 101 rfl) (hw 103 rfl) (hw 102 rfl) (hw 104 rfl) (rm38 hw dco ar b4 eno iso utf tbd tbe kd ke G1 fm kb c4 B0 B1 B2 B3 B4 B5 v0 v1 v2 v3 v4 v5 v6 v7 r0 r1 r2 r3 r4 r5 r6 r7 h4 n0 Zs4 hG X00 Va V_b4 ne_ar_b4 g_b4 hD) (hw 48 rfl) 0 od5 [.ref ar, .int 0, .int 2, .ref b4] [] (lenOf pd_9 rfl) hml e4 d17_17
  obtain ⟨yo0, rfl, Nq7, K1, V1, sb0⟩ := hQ7
  have N7 := Fr.app N3 Nq7
  replace k7 := own_pushR k7
  replace X00 := X00.keep K1 (by simpa using g_b4)
  replace Va := Va.keep K1 (by simpa using ne_ar_b4)
  replace Ex_b4 := Ex_b4.keep K1
  have Zs7 := Nat.le_trans Zs4 K1.1
  replace KK := KK.trans K1 (fun x q => by cases List.mem_singleton.mp q; exact Or.inr sz_b4)
  have k8 := fun t_ ht_ => k7 t_ (o_istoreN X7 hx d17_20 #[Lr dco, Lr ar, Lr b4, Li 1] rfl (o_iloadN X7 hx d17_21 rfl (o_aloadN X7 hx d17_22 rfl rfl (o_len X7 hx hZ d17_23 rfl V1 (o_icmpYes X7 hx d17_24 (teq (by decide)).1 33 (o_aloadN X7 hx d17_33 rfl rfl ht_))))))
  exact o_retA X7 hx k8 hlk hret rfl d17_34 (by exact ⟨b4, c4, yo0, rfl, N7, KK, V1, sz_b4, g_b4, sb0⟩)
theorem ef_40 (m : MethodId) (x0 x1 : Addr) : entryFrame m #[.ref x0, .ref x1] 2 = mkF m 0 #[Lr x0, Lr x1] [] := by first | (simp [entryFrame, mkF, argsToLocals, Value.category]; done) | rfl
def Q40 (Z : State) (dco a1 eno iso utf tbd tbe : Addr) (kd ke : ClassId) (G1 : Int32) (fm : Value) (ar : Addr) (kb : ClassId) (B0 B1 B2 B3 B4 B5 v0 v1 v2 v3 v4 v5 v6 v7 r0 r1 r2 r3 r4 r5 r6 r7 : Int32) (h0 : Heap) (n0 : Nat) (v : Option Value) (h : Heap) (L : List Loc) : Prop := ∃ (ds : Addr) (kc : ClassId) (y0 : Int32), v = some (.ref ds) ∧ Fr n0 L ∧ Keep h0 h [] ∧ Arv Z h ds kc .byte (1 : Int32) [.int y0] (.int 0) ∧ h0.size ≤ ds ∧ n0 ≤ ds ∧ own_SB y0 B0
set_option maxRecDepth 65536 in
set_option maxHeartbeats 40000000 in
theorem rm40 (hw : own_W a0 Z) (dco a1 eno iso utf tbd tbe : Addr) (kd ke : ClassId) (G1 : Int32) (fm : Value) (ar : Addr) (kb : ClassId) (B0 B1 B2 B3 B4 B5 v0 v1 v2 v3 v4 v5 v6 v7 r0 r1 r2 r3 r4 r5 r6 r7 : Int32) (h0 : Heap) (n0 : Nat) (Z0 : n0 ≤ h0.size) (hG : own_G Z dco eno iso utf tbd tbe kd ke G1 fm) (X00 : Old Z n0 h0) (Es : Exa Z h0 a1 "java/lang/String") (Fc : Fld Z h0 a1 "java/lang/String" "coder" "B" (.int 0)) (Fv : Fld Z h0 a1 "java/lang/String" "value" "[B" (.ref ar)) (Va : Arv Z h0 ar kb .byte (2 : Int32) [.int r0, .int r1] (.int 0)) (Ea : Exa Z h0 ar "[B") (hD : own_D 1 B0 B1 B2 B3 B4 B5 v0 v1 v2 v3 v4 v5 v6 v7 r0 r1 r2 r3 r4 r5 r6 r7) :
    own_M l Z yy18 q18 2 (some (.array .byte)) ⟨5, 2, 9, 76⟩ #[.ref dco, .ref a1] h0 [] (Q40 Z dco a1 eno iso utf tbd tbe kd ke G1 fm ar kb B0 B1 B2 B3 B4 B5 v0 v1 v2 v3 v4 v5 v6 v7 r0 r1 r2 r3 r4 r5 r6 r7 h0 n0) := by
  refine own_body (plainFor_of_name pn_2) ?_
  intro p e s m below meth c s₁ A hx hml hown hnm hlk hret hZ X0 e0 k0
  replace k0 := own_ent (ef_40 m dco a1) k0
  have N0 := Fr.nil n0
  have KK : Keep h0 h0 [] := Keep.refl h0 []
  obtain ⟨sD, sE, eD, eE, fDu, fDm, fEp, fEl, fEu, sI, sU, iu, sTd, sTe, aTd, aTe, sC, gC, sS, fmr⟩ := id hG
  obtain ⟨hq0, hq1, hc0, hc1, hc2, hc3, hc4, hc5, hc6, hc7, hz1, hz2, hz4, hz5⟩ := id hD
  have k1 := fun t_ ht_ => k0 t_ (o_aloadN X0 hx d18_0 rfl rfl (o_aloadN X0 hx d18_1 rfl rfl ht_))
  obtain ⟨T2, X2, e2, k2⟩ := o_getS X0 hx hZ k1 hown (host := "") (Or.inl (hw 50 rfl)) Via.refl e0 (sI.ext X00.2) d18_2
  obtain ⟨_, T3, Lc3, X3, hQ3, k3⟩ := o_virtualM X2 hx hZ k2 yy6 hown (hw 52 rfl) yy6 (hw 53 rfl) (hw 55 rfl) (hw 54 rfl) rfl (rm23 hw a1 iso dco eno utf tbd tbe kd ke G1 fm ar kb (2 : Int32) _ h0 n0 Z0 hG X00 Es Fc Fv Va Ea (by decide)) (hw 56 rfl) (hw 11 rfl) 1 Es [.ref iso] [.ref dco] (lenOf pd_10 rfl) hml e2 d18_5
  obtain ⟨cr, rfl, Nq3, K1, V1, E1, G1_⟩ := hQ3
  have N3 := Fr.app N0 Nq3
  replace k3 := own_pushR k3
  replace X00 := X00.keep K1 (by simp)
  replace Es := Es.keep K1
  replace Fc := Fc.keep K1 (by simp)
  replace Fv := Fv.keep K1 (by simp)
  replace Va := Va.keep K1 (by simp)
  replace Ea := Ea.keep K1
  have Zs3 := Nat.le_trans Z0 K1.1
  replace KK := KK.trans K1 (fun x q => nomatch q)
  have od4 := eD.ext X00.2
  obtain ⟨_, T5, Lc5, X5, hQ5, k5⟩ := o_virtualM X3 hx hZ k3 yy17 hown (hw 83 rfl) yy17 (hw 84 rfl) (hw 86 rfl) (hw 85 rfl) rfl (rm39 hw dco cr eno iso utf tbd tbe kd ke G1 fm kb B0 B1 B2 B3 B4 B5 v0 v1 v2 v3 v4 v5 v6 v7 r0 r1 r2 r3 r4 r5 r6 r7 T3.heap n0 Zs3 hG X00 V1 hD) (hw 87 rfl) (hw 48 rfl) 0 od4 [.ref cr] [] (lenOf pd_11 rfl) hml rfl d18_8
  obtain ⟨ds, kc, yo0, rfl, Nq5, K2, V2, G2, g_ds, sb0⟩ := hQ5
  have N5 := Fr.app N3 Nq5
  replace k5 := own_pushR k5
  have sz_ds : h0.size ≤ ds := Nat.le_trans KK.1 G2
  replace X00 := X00.keep K2 (by simp)
  replace Es := Es.keep K2
  replace Fc := Fc.keep K2 (by simp)
  replace Fv := Fv.keep K2 (by simp)
  replace Va := Va.keep K2 (by simp)
  replace Ea := Ea.keep K2
  replace V1 := V1.keep K2 (by simp)
  replace E1 := E1.keep K2
  have Zs5 := Nat.le_trans Zs3 K2.1
  replace KK := KK.trans K2 (fun x q => nomatch q)
  exact o_retA X5 hx k5 hlk hret rfl d18_11 (by exact ⟨ds, kc, yo0, rfl, N5, KK, V2, sz_ds, g_ds, sb0⟩)
theorem ef_42 (m : MethodId) (x0 x1 : Int32) : entryFrame m #[.int x0, .int x1] 4 = mkF m 0 #[Li x0, Li x1, Lu, Lu] [] := by first | (simp [entryFrame, mkF, argsToLocals, Value.category]; done) | rfl
def Q42 (Z : State)  (h0 : Heap) (n0 : Nat) (v : Option Value) (h : Heap) (L : List Loc) : Prop := v = some (.int (0 : Int32)) ∧ Fr n0 L ∧ h = h0
set_option maxRecDepth 65536 in
set_option maxHeartbeats 40000000 in
theorem rm42 (hw : own_W a0 Z)  (h0 : Heap) (n0 : Nat) (Z0 : n0 ≤ h0.size) :
    own_M l Z yy19 q20 4 (some .int) ⟨0, 0, 0, 0⟩ #[.int 4, .int 0] h0 [] (Q42 Z  h0 n0) := by
  refine own_body (Jvm.Free.JP.mathPlain rfl (by decide +kernel)) ?_
  intro p e s m below meth c s₁ A hx hml hown hnm hlk hret hZ X0 e0 k0
  replace k0 := own_ent (ef_42 m 4 0) k0
  have N0 := Fr.nil n0
  have k1 := fun t_ ht_ => k0 t_ (o_iloadN X0 hx d20_0 rfl (o_i2l X0 hx d20_1 (o_iloadN X0 hx d20_2 rfl (o_i2l X0 hx d20_3 (o_lmul X0 hx d20_4 rfl (o_lstoreN X0 hx d20_5 #[Li 4, Li 0, Lj (((4 : Int32).toInt64) * ((0 : Int32).toInt64)), Lt] rfl (o_lloadN X0 hx d20_6 rfl (o_l2i X0 hx d20_7 (o_i2l X0 hx d20_8 (o_lloadN X0 hx d20_9 rfl (o_lcmp X0 hx d20_10 (o_ifYes X0 hx d20_11 ((if0 _ _).trans (teq (by decide)).1) 24 (o_lloadN X0 hx d20_24 rfl (o_l2i X0 hx d20_25 ht_))))))))))))))
  exact o_retI X0 hx k1 hlk hret d20_26 (by rw [e0]; exact ⟨congrArg (fun z => some (Value.int z)) (show ((((4 : Int32).toInt64) * ((0 : Int32).toInt64)).toInt32) = (0 : Int32) from by decide), N0, rfl⟩)
theorem ef_43 (m : MethodId) (x0 x1 : Int32) : entryFrame m #[.int x0, .int x1] 3 = mkF m 0 #[Li x0, Li x1, Lu] [] := by first | (simp [entryFrame, mkF, argsToLocals, Value.category]; done) | rfl
def Q43 (Z : State)  (h0 : Heap) (n0 : Nat) (v : Option Value) (h : Heap) (L : List Loc) : Prop := v = some (.int (2 : Int32)) ∧ Fr n0 L ∧ h = h0
set_option maxRecDepth 65536 in
set_option maxHeartbeats 40000000 in
theorem rm43 (hw : own_W a0 Z)  (h0 : Heap) (n0 : Nat) (Z0 : n0 ≤ h0.size) :
    own_M l Z yy20 q21 3 (some .int) ⟨0, 0, 0, 0⟩ #[.int 0, .int 2] h0 [] (Q43 Z  h0 n0) := by
  refine own_body (Jvm.Free.JP.mathPlain rfl (by decide +kernel)) ?_
  intro p e s m below meth c s₁ A hx hml hown hnm hlk hret hZ X0 e0 k0
  replace k0 := own_ent (ef_43 m 0 2) k0
  have N0 := Fr.nil n0
  have k1 := fun t_ ht_ => k0 t_ (o_iloadN X0 hx d21_0 rfl (o_iloadN X0 hx d21_1 rfl (o_iadd X0 hx d21_2 (rfl : _ = (2 : Int32)) (o_istoreN X0 hx d21_3 #[Li 0, Li 2, Li 2] rfl (o_iloadN X0 hx d21_4 rfl (o_iloadN X0 hx d21_5 rfl (o_ixor X0 hx d21_6 rfl (o_iloadN X0 hx d21_7 rfl (o_iloadN X0 hx d21_8 rfl (o_ixor X0 hx d21_9 rfl (o_iand X0 hx d21_10 rfl (o_ifYes X0 hx d21_11 ((if0 _ _).trans (flt (by decide)).2.1) 24 (o_iloadN X0 hx d21_24 rfl ht_)))))))))))))
  exact o_retI X0 hx k1 hlk hret d21_25 (by rw [e0]; exact ⟨congrArg (fun z => some (Value.int z)) (show (2 : Int32) = (2 : Int32) from by decide), N0, rfl⟩)
theorem ef_41 (m : MethodId) (x0 : Addr) (x1 x2 : Int32) : entryFrame m #[.ref x0, .int x1, .int x2] 5 = mkF m 0 #[Lr x0, Li x1, Li x2, Lu, Lu] [] := by first | (simp [entryFrame, mkF, argsToLocals, Value.category]; done) | rfl
def Q41 (Z : State) (eno dco iso utf tbd tbe : Addr) (kd ke : ClassId) (G1 : Int32) (fm : Value) (h0 : Heap) (n0 : Nat) (v : Option Value) (h : Heap) (L : List Loc) : Prop := v = some (.int (2 : Int32)) ∧ Fr n0 L ∧ h = h0
set_option maxRecDepth 65536 in
set_option maxHeartbeats 40000000 in
theorem rm41 (hw : own_W a0 Z) (eno dco iso utf tbd tbe : Addr) (kd ke : ClassId) (G1 : Int32) (fm : Value) (h0 : Heap) (n0 : Nat) (Z0 : n0 ≤ h0.size) (hG : own_G Z dco eno iso utf tbd tbe kd ke G1 fm) (X00 : Old Z n0 h0) :
    own_MH l Z yy21 q19 5 (some .int) [(2, 79, 82, 33)] ⟨1, 0, 0, 15⟩ #[.ref eno, .int 1, .int 1] h0 [] (Q41 Z eno dco iso utf tbd tbe kd ke G1 fm h0 n0) := by
  refine own_bodyH (plainFor_of_name pn_3) ?_
  intro p e s m below meth c s₁ A hx hml hown hnm hlk hret hZ X0 e0 k0
  replace k0 := own_ent (ef_41 m eno 1 1) k0
  have N0 := Fr.nil n0
  obtain ⟨sD, sE, eD, eE, fDu, fDm, fEp, fEl, fEu, sI, sU, iu, sTd, sTe, aTd, aTe, sC, gC, sS, fmr⟩ := id hG
  have od1 := fEp.ext X00.2
  have k2 := fun t_ ht_ => k0 t_ (o_iconst X0 hx d19_0 0 rfl (o_istoreN X0 hx d19_1 #[Lr eno, Li 1, Li 1, Li 0, Lu] rfl (o_aloadN X0 hx d19_2 rfl rfl ht_)))
  obtain ⟨T3, X3, e3, k3⟩ := o_getF X0 hx hZ k2 hown (host := "") (Or.inl (hw 123 rfl)) Via.refl e0 od1 d19_3
  have k4 := fun t_ ht_ => k3 t_ (o_ifYes X3 hx d19_6 ((if0 _ _).trans (teq (by decide)).1) 24 (o_iloadN X3 hx d19_24 rfl (o_iconst X3 hx d19_25 3 rfl (o_irem X3 hx d19_26 (by decide) ht_))))
  rw [show ((1 : Int32) - ((1 : Int32) / (3 : Int32)) * (3 : Int32)) = (1 : Int32) from by decide] at k4
  have k5 := fun t_ ht_ => k4 t_ (o_istore X3 hx d19_27 #[Lr eno, Li 1, Li 1, Li 0, Li 1] rfl (o_iconst X3 hx d19_29 4 rfl (o_iloadN X3 hx d19_30 rfl (o_iconst X3 hx d19_31 3 rfl (o_idiv X3 hx d19_32 (by decide) ht_)))))
  rw [show ((1 : Int32) / (3 : Int32)) = (0 : Int32) from by decide] at k5
  obtain ⟨_, T6, Lc6, X6, hQ6, k6⟩ := o_callSM X3 hx hZ k5 yy19 hown (hw 125 rfl) (hw 126 rfl) (hw 127 rfl) (hw 128 rfl) (rm42 hw h0 n0 Z0) 0 [.int 4, .int 0] [] (lenOf pd_12 rfl) hml e3 d19_33
  obtain ⟨rfl, Nq6, e6⟩ := hQ6
  have N6 := Fr.app N0 Nq6
  replace k6 := own_pushR k6
  have k7 := fun t_ ht_ => k6 t_ (o_iload X6 hx d19_36 rfl (o_ifYes X6 hx d19_38 ((if0 _ _).trans (feq (by decide)).2) 45 (o_iload X6 hx d19_45 rfl (o_iconst X6 hx d19_47 1 rfl (o_iadd X6 hx d19_48 (rfl : _ = (2 : Int32)) ht_)))))
  obtain ⟨_, T8, Lc8, X8, hQ8, k8⟩ := o_callSM X6 hx hZ k7 yy20 hown (hw 129 rfl) (hw 130 rfl) (hw 127 rfl) (hw 131 rfl) (rm43 hw h0 n0 Z0) 0 [.int 0, .int 2] [] (lenOf pd_12 rfl) hml e6 d19_49
  obtain ⟨rfl, Nq8, e8⟩ := hQ8
  have N8 := Fr.app N6 Nq8
  replace k8 := own_pushR k8
  have od9 := fEl.ext X00.2
  have k10 := fun t_ ht_ => k8 t_ (o_istoreN X8 hx d19_52 #[Lr eno, Li 1, Li 1, Li 2, Li 1] rfl (o_aloadN X8 hx d19_53 rfl rfl ht_))
  obtain ⟨T11, X11, e11, k11⟩ := o_getF X8 hx hZ k10 hown (host := "") (Or.inl (hw 132 rfl)) Via.refl e8 od9 d19_54
  have k12 := fun t_ ht_ => k11 t_ (o_ifYes X11 hx d19_57 ((if0 _ _).trans (flt (by decide)).2.2.2) 79 (o_goto X11 hx d19_79 100 (o_iloadN X11 hx d19_100 rfl ht_)))
  exact o_retI X11 hx k12 hlk hret d19_101 (by rw [e11]; exact ⟨rfl, N8, rfl⟩)
theorem ef_44 (m : MethodId) (x0 x1 : Addr) (x2 x3 : Int32) (x4 : Addr) : entryFrame m #[.ref x0, .ref x1, .int x2, .int x3, .ref x4] 16 = mkF m 0 #[Lr x0, Lr x1, Li x2, Li x3, Lr x4, Lu, Lu, Lu, Lu, Lu, Lu, Lu, Lu, Lu, Lu, Lu] [] := by first | (simp [entryFrame, mkF, argsToLocals, Value.category]; done) | rfl
def Q44 (Z : State) (eno ar ds dco iso utf tbd tbe : Addr) (kd ke : ClassId) (G1 : Int32) (fm : Value) (kb kc : ClassId) (B0 B1 B2 B3 B4 B5 v0 v1 v2 v3 v4 v5 v6 v7 r0 r1 r2 r3 r4 r5 r6 r7 y0 : Int32) (h0 : Heap) (n0 : Nat) (v : Option Value) (h : Heap) (L : List Loc) : Prop := v = some (.int (2 : Int32)) ∧ Fr n0 L ∧ Keep h0 h [ds] ∧ Arv Z h ds kc .byte (2 : Int32) [.int r0, .int r1] (.int 0)
set_option maxRecDepth 65536 in
set_option maxHeartbeats 40000000 in
theorem rm44 (hw : own_W a0 Z) (eno ar ds dco iso utf tbd tbe : Addr) (kd ke : ClassId) (G1 : Int32) (fm : Value) (kb kc : ClassId) (B0 B1 B2 B3 B4 B5 v0 v1 v2 v3 v4 v5 v6 v7 r0 r1 r2 r3 r4 r5 r6 r7 y0 : Int32) (h0 : Heap) (n0 : Nat) (Z0 : n0 ≤ h0.size) (hG : own_G Z dco eno iso utf tbd tbe kd ke G1 fm) (X00 : Old Z n0 h0) (Va : Arv Z h0 ar kb .byte (1 : Int32) [.int y0] (.int 0)) (Vd : Arv Z h0 ds kc .byte (2 : Int32) [.int (0 : Int32), .int (0 : Int32)] (.int 0)) (hne : ar ≠ ds) (g_ds : n0 ≤ ds) (hD : own_D 1 B0 B1 B2 B3 B4 B5 v0 v1 v2 v3 v4 v5 v6 v7 r0 r1 r2 r3 r4 r5 r6 r7) (hs0 : own_SB y0 B0) :
    own_M l Z yy22 q22 16 (some .int) ⟨0, 0, 0, 0⟩ #[.ref eno, .ref ar, .int 0, .int 1, .ref ds] h0 [] (Q44 Z eno ar ds dco iso utf tbd tbe kd ke G1 fm kb kc B0 B1 B2 B3 B4 B5 v0 v1 v2 v3 v4 v5 v6 v7 r0 r1 r2 r3 r4 r5 r6 r7 y0 h0 n0) := by
  refine own_body (plainFor_of_name pn_3) ?_
  intro p e s m below meth c s₁ A hx hml hown hnm hlk hret hZ X0 e0 k0
  replace k0 := own_ent (ef_44 m eno ar 0 1 ds) k0
  have N0 := Fr.nil n0
  have KK : Keep h0 h0 [ds] := Keep.refl h0 [ds]
  obtain ⟨sD, sE, eD, eE, fDu, fDm, fEp, fEl, fEu, sI, sU, iu, sTd, sTe, aTd, aTe, sC, gC, sS, fmr⟩ := id hG
  obtain ⟨hq0, hq1, hc0, hc1, hc2, hc3, hc4, hc5, hc6, hc7, hz1, hz2, hz4, hz5⟩ := id hD
  have od1 := fEu.ext X00.2
  have k2 := fun t_ ht_ => k0 t_ (o_aloadN X0 hx d22_0 rfl rfl ht_)
  obtain ⟨T3, X3, e3, k3⟩ := o_getF X0 hx hZ k2 hown (host := "") (Or.inl (hw 139 rfl)) Via.refl e0 od1 d22_1
  have k4 := fun t_ ht_ => k3 t_ (o_ifNo X3 hx d22_4 ((if0 _ _).trans (feq (by decide)).1) ht_)
  obtain ⟨T5, X5, e5, k5⟩ := o_getS X3 hx hZ k4 hown (host := "") (Or.inl (hw 141 rfl)) Via.refl e3 (sTe.ext X00.2) d22_7
  have k6 := fun t_ ht_ => k5 t_ (o_goto X5 hx d22_10 16 (o_astore X5 hx d22_16 #[Lr eno, Lr ar, Li 0, Li 1, Lr ds, Lr tbe, Lu, Lu, Lu, Lu, Lu, Lu, Lu, Lu, Lu, Lu] rfl rfl (o_iloadN X5 hx d22_18 rfl (o_istore X5 hx d22_19 #[Lr eno, Lr ar, Li 0, Li 1, Lr ds, Lr tbe, Li 0, Lu, Lu, Lu, Lu, Lu, Lu, Lu, Lu, Lu] rfl (o_iloadN X5 hx d22_21 rfl (o_iloadN X5 hx d22_22 rfl (o_isub X5 hx d22_23 (rfl : _ = (1 : Int32)) (o_iconst X5 hx d22_24 3 rfl (o_idiv X5 hx d22_25 (by decide) ht_)))))))))
  rw [show ((1 : Int32) / (3 : Int32)) = (0 : Int32) from by decide] at k6
  have od7 := fEl.ext X00.2
  have k8 := fun t_ ht_ => k6 t_ (o_iconst X5 hx d22_26 3 rfl (o_imul X5 hx d22_27 (rfl : _ = (0 : Int32)) (o_istore X5 hx d22_28 #[Lr eno, Lr ar, Li 0, Li 1, Lr ds, Lr tbe, Li 0, Li 0, Lu, Lu, Lu, Lu, Lu, Lu, Lu, Lu] rfl (o_iloadN X5 hx d22_30 rfl (o_iload X5 hx d22_31 rfl (o_iadd X5 hx d22_33 (rfl : _ = (0 : Int32)) (o_istore X5 hx d22_34 #[Lr eno, Lr ar, Li 0, Li 1, Lr ds, Lr tbe, Li 0, Li 0, Li 0, Lu, Lu, Lu, Lu, Lu, Lu, Lu] rfl (o_aloadN X5 hx d22_36 rfl rfl ht_))))))))
  obtain ⟨T9, X9, e9, k9⟩ := o_getF X5 hx hZ k8 hown (host := "") (Or.inl (hw 132 rfl)) Via.refl e5 od7 d22_37
  have k10 := fun t_ ht_ => k9 t_ (o_ifYes X9 hx d22_40 ((if0 _ _).trans (flt (by decide)).2.2.2) 66 (o_iconst X9 hx d22_66 0 rfl (o_istore X9 hx d22_67 #[Lr eno, Lr ar, Li 0, Li 1, Lr ds, Lr tbe, Li 0, Li 0, Li 0, Li 0, Lu, Lu, Lu, Lu, Lu, Lu] rfl (o_iload X9 hx d22_69 rfl (o_iload X9 hx d22_71 rfl (o_icmpYes X9 hx d22_73 (flt (by decide)).2.1 189 (o_iload X9 hx d22_189 rfl (o_iloadN X9 hx d22_191 rfl (o_icmpNo X9 hx d22_192 (tlt (by decide)).2.1 (o_aloadN X9 hx d22_195 rfl rfl (o_iload X9 hx d22_196 rfl (o_iinc X9 hx d22_198 #[Lr eno, Lr ar, Li 0, Li 1, Lr ds, Lr tbe, Li 1, Li 0, Li 0, Li 0, Lu, Lu, Lu, Lu, Lu, Lu] rfl rfl (o_ldB X9 hx hZ d22_201 e9 Va ⟨by decide, by decide⟩ (rfl : _ = Value.int y0) (o_sipush X9 hx d22_202 255 rfl (o_iand X9 hx d22_205 rfl ht_)))))))))))))))
  rw [own_sb255 hs0] at k10
  have k11 := fun t_ ht_ => k10 t_ (o_istore X9 hx d22_206 #[Lr eno, Lr ar, Li 0, Li 1, Lr ds, Lr tbe, Li 1, Li 0, Li 0, Li 0, Li B0, Lu, Lu, Lu, Lu, Lu] rfl (o_aload X9 hx d22_208 rfl rfl (o_iload X9 hx d22_210 rfl (o_iinc X9 hx d22_212 #[Lr eno, Lr ar, Li 0, Li 1, Lr ds, Lr tbe, Li 1, Li 0, Li 0, Li 1, Li B0, Lu, Lu, Lu, Lu, Lu] rfl rfl (o_aload X9 hx d22_215 rfl rfl (o_iload X9 hx d22_217 rfl (o_iconst X9 hx d22_219 2 rfl (o_ishr X9 hx d22_220 ht_))))))))
  obtain ⟨qx0_221, hqx0_221⟩ : ∃ z : Int32, z = (B0 >>> ((2 : Int32) &&& 31)) := ⟨_, rfl⟩
  rw [← hqx0_221] at k11
  have od12 := aTe.ext X00.2
  have k13 := fun t_ ht_ => k11 t_ (o_ldC X9 hx hZ d22_221 e9 od12 (own_i64 hc0 (own_t0 hq0 hqx0_221)) (own_tabE_at hc0 (own_t0 hq0 hqx0_221)) (o_i2b X9 hx d22_222 ht_))
  obtain ⟨T14, h14, X14, e14, W14, Vd, k14⟩ := o_stB X9 hx hZ k13 e9 Vd 0 [.int (nar .byte (r0.toInt8.toInt32)), .int 0] d22_223
  replace X00 := X00.wr W14 g_ds
  replace Va := Va.other W14 hne
  have Zs14 := Nat.le_trans Z0 (Keep.of_wr W14).1
  replace KK := KK.wr W14 (Or.inl (by simp))
  have N14 := Fr.snoc X14 N0 g_ds
  rw [own_rnb hc0] at Vd
  have k15 := fun t_ ht_ => k14 t_ (o_iload X14 hx d22_224 rfl (o_iloadN X14 hx d22_226 rfl (o_icmpNo X14 hx d22_227 (teq (by decide)).2 (o_aload X14 hx d22_230 rfl rfl (o_iload X14 hx d22_232 rfl (o_iinc X14 hx d22_234 #[Lr eno, Lr ar, Li 0, Li 1, Lr ds, Lr tbe, Li 1, Li 0, Li 0, Li 2, Li B0, Lu, Lu, Lu, Lu, Lu] rfl rfl (o_aload X14 hx d22_237 rfl rfl (o_iload X14 hx d22_239 rfl (o_iconst X14 hx d22_241 4 rfl (o_ishl X14 hx d22_242 (o_bipush X14 hx d22_243 63 rfl (o_iand X14 hx d22_245 rfl ht_))))))))))))
  obtain ⟨qx1_246, hqx1_246⟩ : ∃ z : Int32, z = ((B0 <<< ((4 : Int32) &&& 31)) &&& (63 : Int32)) := ⟨_, rfl⟩
  rw [← hqx1_246] at k15
  have od16 := aTe.ext X00.2
  have k17 := fun t_ ht_ => k15 t_ (o_ldC X14 hx hZ d22_246 e14 od16 (own_i64 hc1 (own_t1 hq0 (hz1 (by decide)) hqx1_246)) (own_tabE_at hc1 (own_t1 hq0 (hz1 (by decide)) hqx1_246)) (o_i2b X14 hx d22_247 ht_))
  obtain ⟨T18, h18, X18, e18, W18, Vd, k18⟩ := o_stB X14 hx hZ k17 e14 Vd 1 [.int r0, .int (nar .byte (r1.toInt8.toInt32))] d22_248
  replace X00 := X00.wr W18 g_ds
  replace Va := Va.other W18 hne
  have Zs18 := Nat.le_trans Zs14 (Keep.of_wr W18).1
  replace KK := KK.wr W18 (Or.inl (by simp))
  have N18 := Fr.snoc X18 N14 g_ds
  rw [own_rnb hc1] at Vd
  have od19 := fEp.ext X00.2
  have k20 := fun t_ ht_ => k18 t_ (o_aloadN X18 hx d22_249 rfl rfl ht_)
  obtain ⟨T21, X21, e21, k21⟩ := o_getF X18 hx hZ k20 hown (host := "") (Or.inl (hw 123 rfl)) Via.refl e18 od19 d22_250
  have k22 := fun t_ ht_ => k21 t_ (o_ifYes X21 hx d22_253 ((if0 _ _).trans (teq (by decide)).1) 352 (o_iload X21 hx d22_352 rfl ht_))
  exact o_retI X21 hx k22 hlk hret d22_354 (by rw [e21]; exact ⟨rfl, N18, KK, Vd⟩)
theorem ef_45 (m : MethodId) (x0 x1 : Addr) : entryFrame m #[.ref x0, .ref x1] 5 = mkF m 0 #[Lr x0, Lr x1, Lu, Lu, Lu] [] := by first | (simp [entryFrame, mkF, argsToLocals, Value.category]; done) | rfl
def Q45 (Z : State) (eno ar dco iso utf tbd tbe : Addr) (kd ke : ClassId) (G1 : Int32) (fm : Value) (kb : ClassId) (B0 B1 B2 B3 B4 B5 v0 v1 v2 v3 v4 v5 v6 v7 r0 r1 r2 r3 r4 r5 r6 r7 y0 : Int32) (h0 : Heap) (n0 : Nat) (v : Option Value) (h : Heap) (L : List Loc) : Prop := ∃ (ds : Addr) (kc : ClassId), v = some (.ref ds) ∧ Fr n0 L ∧ Keep h0 h [] ∧ Arv Z h ds kc .byte (2 : Int32) [.int r0, .int r1] (.int 0) ∧ Exa Z h ds "[B" ∧ h0.size ≤ ds
set_option maxRecDepth 65536 in
set_option maxHeartbeats 40000000 in
theorem rm45 (hw : own_W a0 Z) (eno ar dco iso utf tbd tbe : Addr) (kd ke : ClassId) (G1 : Int32) (fm : Value) (kb : ClassId) (B0 B1 B2 B3 B4 B5 v0 v1 v2 v3 v4 v5 v6 v7 r0 r1 r2 r3 r4 r5 r6 r7 y0 : Int32) (h0 : Heap) (n0 : Nat) (Z0 : n0 ≤ h0.size) (hG : own_G Z dco eno iso utf tbd tbe kd ke G1 fm) (X00 : Old Z n0 h0) (Va : Arv Z h0 ar kb .byte (1 : Int32) [.int y0] (.int 0)) (hD : own_D 1 B0 B1 B2 B3 B4 B5 v0 v1 v2 v3 v4 v5 v6 v7 r0 r1 r2 r3 r4 r5 r6 r7) (hs0 : own_SB y0 B0) :
    own_M l Z yy23 q23 5 (some (.array .byte)) ⟨2, 1, 2, 31⟩ #[.ref eno, .ref ar] h0 [] (Q45 Z eno ar dco iso utf tbd tbe kd ke G1 fm kb B0 B1 B2 B3 B4 B5 v0 v1 v2 v3 v4 v5 v6 v7 r0 r1 r2 r3 r4 r5 r6 r7 y0 h0 n0) := by
  refine own_body (plainFor_of_name pn_3) ?_
  intro p e s m below meth c s₁ A hx hml hown hnm hlk hret hZ X0 e0 k0
  replace k0 := own_ent (ef_45 m eno ar) k0
  have N0 := Fr.nil n0
  have KK : Keep h0 h0 [] := Keep.refl h0 []
  obtain ⟨sD, sE, eD, eE, fDu, fDm, fEp, fEl, fEu, sI, sU, iu, sTd, sTe, aTd, aTe, sC, gC, sS, fmr⟩ := id hG
  obtain ⟨hq0, hq1, hc0, hc1, hc2, hc3, hc4, hc5, hc6, hc7, hz1, hz2, hz4, hz5⟩ := id hD
  have od1 := eE.ext X00.2
  have k2 := fun t_ ht_ => k0 t_ (o_aloadN X0 hx d23_0 rfl rfl (o_aloadN X0 hx d23_1 rfl rfl (o_len X0 hx hZ d23_2 e0 Va (o_iconst X0 hx d23_3 1 rfl ht_))))
  obtain ⟨_, T3, Lc3, X3, hQ3, k3⟩ := o_privateH X0 hx hZ k2 yy21 hown (hw 118 rfl) (hw 119 rfl) (hw 121 rfl) (hw 120 rfl) (hw 122 rfl) (backOfWith (W := 0) (rm41 hw eno dco iso utf tbd tbe kd ke G1 fm h0 n0 Z0 hG X00) hZ (hw 122 rfl) (hw 111 rfl) (by decide) (by decide)) od1 [.int 1, .int 1] [] (lenOf pd_13 rfl) hml e0 d23_4
  obtain ⟨rfl, Nq3, e3⟩ := hQ3
  have N3 := Fr.app N0 Nq3
  replace k3 := own_pushR k3
  have k4 := fun t_ ht_ => k3 t_ (o_istoreN X3 hx d23_7 #[Lr eno, Lr ar, Li 2, Lu, Lu] rfl (o_iloadN X3 hx d23_8 rfl ht_))
  obtain ⟨T5, h5, c5, X5, e5, E5, Ax5, Bx5, k5⟩ := o_newP X3 hx hZ k4 (hw 27 rfl) e3 (by decide) 2 (by decide) "[B" d23_9
  obtain ⟨b5, g5⟩ : ∃ z, z = h0.size := ⟨_, rfl⟩
  rw [← g5] at Ax5 Bx5 k5
  have ne_ar_b5 : ar ≠ b5 := Nat.ne_of_lt (Nat.lt_of_lt_of_le Va.lt (Nat.le_of_eq g5.symm))
  have g_b5 : n0 ≤ b5 := Nat.le_trans Z0 (Nat.le_of_eq g5.symm)
  have sz_b5 : h0.size ≤ b5 := Nat.le_trans KK.1 (Nat.le_of_eq g5.symm)
  replace X00 : Old Z n0 h5 := ⟨X00.1, Nat.le_trans X00.2.1 E5.1, fun x c r => E5.2 x c (X00.2.2 x c r)⟩
  replace Va := Va.ext E5
  have Zs5 := Nat.le_trans Z0 E5.1
  replace KK := KK.ext E5
  have Ex_b5 := Bx5
  have V_b5 : Arv Z h5 b5 c5 .byte 2 [.int 0, .int 0] (.int 0) := (Arv.new Ax5 (by decide)).pad (pad_rep [] (.int 0) 2)
  have od6 := eE.ext X00.2
  have k7 := fun t_ ht_ => k5 t_ (o_astoreN X5 hx d23_11 #[Lr eno, Lr ar, Li 2, Lr b5, Lu] rfl rfl (o_aloadN X5 hx d23_12 rfl rfl (o_aloadN X5 hx d23_13 rfl rfl (o_iconst X5 hx d23_14 0 rfl (o_aloadN X5 hx d23_15 rfl rfl (o_len X5 hx hZ d23_16 e5 Va (o_aloadN X5 hx d23_17 rfl rfl ht_)))))))
  obtain ⟨_, T8, Lc8, X8, hQ8, k8⟩ := o_privateM X5 hx hZ k7 yy22 hown (hw 134 rfl) (hw 135 rfl) (hw 137 rfl) (hw 136 rfl) (hw 138 rfl) (rm44 hw eno ar b5 dco iso utf tbd tbe kd ke G1 fm kb c5 B0 B1 B2 B3 B4 B5 v0 v1 v2 v3 v4 v5 v6 v7 r0 r1 r2 r3 r4 r5 r6 r7 y0 h5 n0 Zs5 hG X00 Va V_b5 ne_ar_b5 g_b5 hD hs0) (hw 111 rfl) 0 od6 [.ref ar, .int 0, .int 1, .ref b5] [] (lenOf pd_9 rfl) hml e5 d23_18
  obtain ⟨rfl, Nq8, K1, V1⟩ := hQ8
  have N8 := Fr.app N3 Nq8
  replace k8 := own_pushR k8
  replace X00 := X00.keep K1 (by simpa using g_b5)
  replace Va := Va.keep K1 (by simpa using ne_ar_b5)
  replace Ex_b5 := Ex_b5.keep K1
  have Zs8 := Nat.le_trans Zs5 K1.1
  replace KK := KK.trans K1 (fun x q => by cases List.mem_singleton.mp q; exact Or.inr sz_b5)
  have k9 := fun t_ ht_ => k8 t_ (o_istore X8 hx d23_21 #[Lr eno, Lr ar, Li 2, Lr b5, Li 2] rfl (o_iload X8 hx d23_23 rfl (o_aloadN X8 hx d23_25 rfl rfl (o_len X8 hx hZ d23_26 rfl V1 (o_icmpYes X8 hx d23_27 (teq (by decide)).1 37 (o_aloadN X8 hx d23_37 rfl rfl ht_))))))
  exact o_retA X8 hx k9 hlk hret rfl d23_38 (by exact ⟨b5, c5, rfl, N8, KK, V1, Ex_b5, sz_b5⟩)
theorem ef_46 (m : MethodId) (x0 x1 : Addr) : entryFrame m #[.ref x0, .ref x1] 3 = mkF m 0 #[Lr x0, Lr x1, Lu] [] := by first | (simp [entryFrame, mkF, argsToLocals, Value.category]; done) | rfl
def Q46 (Z : State) (eno ar dco iso utf tbd tbe : Addr) (kd ke : ClassId) (G1 : Int32) (fm : Value) (kb : ClassId) (B0 B1 B2 B3 B4 B5 v0 v1 v2 v3 v4 v5 v6 v7 r0 r1 r2 r3 r4 r5 r6 r7 y0 : Int32) (h0 : Heap) (n0 : Nat) (v : Option Value) (h : Heap) (L : List Loc) : Prop := ∃ (so cr : Addr) (kc : ClassId), v = some (.ref so) ∧ Fr n0 L ∧ Keep h0 h [] ∧ Exa Z h so "java/lang/String" ∧ Fld Z h so "java/lang/String" "coder" "B" (.int 0) ∧ Fld Z h so "java/lang/String" "value" "[B" (.ref cr) ∧ Arv Z h cr kc .byte (2 : Int32) [.int r0, .int r1] (.int 0) ∧ h0.size ≤ so
set_option maxRecDepth 65536 in
set_option maxHeartbeats 40000000 in
theorem rm46 (hw : own_W a0 Z) (eno ar dco iso utf tbd tbe : Addr) (kd ke : ClassId) (G1 : Int32) (fm : Value) (kb : ClassId) (B0 B1 B2 B3 B4 B5 v0 v1 v2 v3 v4 v5 v6 v7 r0 r1 r2 r3 r4 r5 r6 r7 y0 : Int32) (h0 : Heap) (n0 : Nat) (Z0 : n0 ≤ h0.size) (hG : own_G Z dco eno iso utf tbd tbe kd ke G1 fm) (X00 : Old Z n0 h0) (Va : Arv Z h0 ar kb .byte (1 : Int32) [.int y0] (.int 0)) (hD : own_D 1 B0 B1 B2 B3 B4 B5 v0 v1 v2 v3 v4 v5 v6 v7 r0 r1 r2 r3 r4 r5 r6 r7) (hs0 : own_SB y0 B0) :
    own_M l Z yy24 q24 3 (some (.object "java/lang/String")) ⟨3, 3, 14, 48⟩ #[.ref eno, .ref ar] h0 [] (Q46 Z eno ar dco iso utf tbd tbe kd ke G1 fm kb B0 B1 B2 B3 B4 B5 v0 v1 v2 v3 v4 v5 v6 v7 r0 r1 r2 r3 r4 r5 r6 r7 y0 h0 n0) := by
  refine own_body (plainFor_of_name pn_3) ?_
  intro p e s m below meth c s₁ A hx hml hown hnm hlk hret hZ X0 e0 k0
  replace k0 := own_ent (ef_46 m eno ar) k0
  have N0 := Fr.nil n0
  have KK : Keep h0 h0 [] := Keep.refl h0 []
  obtain ⟨sD, sE, eD, eE, fDu, fDm, fEp, fEl, fEu, sI, sU, iu, sTd, sTe, aTd, aTe, sC, gC, sS, fmr⟩ := id hG
  obtain ⟨hq0, hq1, hc0, hc1, hc2, hc3, hc4, hc5, hc6, hc7, hz1, hz2, hz4, hz5⟩ := id hD
  have od1 := eE.ext X00.2
  have k2 := fun t_ ht_ => k0 t_ (o_aloadN X0 hx d24_0 rfl rfl (o_aloadN X0 hx d24_1 rfl rfl ht_))
  obtain ⟨_, T3, Lc3, X3, hQ3, k3⟩ := o_virtualM X0 hx hZ k2 yy23 hown (hw 113 rfl) yy23 (hw 114 rfl) (hw 116 rfl) (hw 115 rfl) rfl (rm45 hw eno ar dco iso utf tbd tbe kd ke G1 fm kb B0 B1 B2 B3 B4 B5 v0 v1 v2 v3 v4 v5 v6 v7 r0 r1 r2 r3 r4 r5 r6 r7 y0 h0 n0 Z0 hG X00 Va hD hs0) (hw 117 rfl) (hw 111 rfl) 0 od1 [.ref ar] [] (lenOf pd_11 rfl) hml e0 d24_2
  obtain ⟨ds, kc, rfl, Nq3, K1, V1, E1, G1_⟩ := hQ3
  have N3 := Fr.app N0 Nq3
  replace k3 := own_pushR k3
  replace X00 := X00.keep K1 (by simp)
  replace Va := Va.keep K1 (by simp)
  have Zs3 := Nat.le_trans Z0 K1.1
  replace KK := KK.trans K1 (fun x q => nomatch q)
  have k4 := fun t_ ht_ => k3 t_ (o_astoreN X3 hx d24_5 #[Lr eno, Lr ar, Lr ds] rfl rfl ht_)
  obtain ⟨T5, h5, X5, e5, E5, A5, D5, k5⟩ := o_newO X3 hx hZ k4 hown (hw 142 rfl) (hw 10 rfl) (hw 11 rfl) rfl d24_6
  obtain ⟨b5, g5⟩ : ∃ z, z = T3.heap.size := ⟨_, rfl⟩
  rw [← g5] at A5 D5 k5
  have ne_ar_b5 : ar ≠ b5 := Nat.ne_of_lt (Nat.lt_of_lt_of_le Va.lt (Nat.le_of_eq g5.symm))
  have ne_ds_b5 : ds ≠ b5 := Nat.ne_of_lt (Nat.lt_of_lt_of_le V1.lt (Nat.le_of_eq g5.symm))
  have g_b5 : n0 ≤ b5 := Nat.le_trans Zs3 (Nat.le_of_eq g5.symm)
  have sz_b5 : h0.size ≤ b5 := Nat.le_trans KK.1 (Nat.le_of_eq g5.symm)
  replace X00 : Old Z n0 h5 := ⟨X00.1, Nat.le_trans X00.2.1 E5.1, fun x c r => E5.2 x c (X00.2.2 x c r)⟩
  replace Va := Va.ext E5
  replace V1 := V1.ext E5
  replace E1 := E1.ext E5
  have Zs5 := Nat.le_trans Zs3 E5.1
  replace KK := KK.ext E5
  have Ex_b5 := A5
  have F_coder_b5 : Fld Z h5 b5 "java/lang/String" "coder" "B" (.int 0) := D5 (Or.inr (hw 35 rfl)) (ty := .byte) (by decide)
  have F_value_b5 : Fld Z h5 b5 "java/lang/String" "value" "[B" (.null) := D5 (Or.inr (hw 37 rfl)) (ty := (.array .byte)) (by decide)
  have k6 := fun t_ ht_ => k5 t_ (o_dup X5 hx d24_9 rfl (o_aloadN X5 hx d24_10 rfl rfl (o_iconst X5 hx d24_11 0 rfl (o_iconst X5 hx d24_12 0 rfl (o_aloadN X5 hx d24_13 rfl rfl (o_len X5 hx hZ d24_14 e5 V1 ht_))))))
  obtain ⟨_, T7, Lc7, X7, hQ7, k7⟩ := o_specialM X5 hx hZ k6 yy12 rfl hown (hw 143 rfl) (hw 144 rfl) (hw 145 rfl) (rm34 hw b5 ds (2 : Int32) dco eno iso utf tbd tbe kd ke G1 fm kc _ h5 n0 Zs5 hG X00 Ex_b5 F_value_b5 F_coder_b5 V1 E1 (Ne.symm ne_ds_b5) g_b5 own_ln2) (hw 11 rfl) 1 b5 [.ref ds, .int 0, .int 0, .int 2] [.ref b5] (lenOf pd_14 rfl) hml e5 d24_15
  obtain ⟨cr, rfl, Nq7, K2, E2, Fc, Fv, V2, E3, G2⟩ := hQ7
  have N7 := Fr.app N3 Nq7
  replace k7 := own_pushV k7
  have sz_cr : h0.size ≤ cr := Nat.le_trans KK.1 G2
  replace X00 := X00.keep K2 (by simpa using g_b5)
  replace Va := Va.keep K2 (by simpa using ne_ar_b5)
  replace V1 := V1.keep K2 (by simpa using ne_ds_b5)
  replace E1 := E1.keep K2
  replace Ex_b5 := Ex_b5.keep K2
  have Zs7 := Nat.le_trans Zs5 K2.1
  replace KK := KK.trans K2 (fun x q => by cases List.mem_singleton.mp q; exact Or.inr sz_b5)
  exact o_retA X7 hx k7 hlk hret rfl d24_18 (by exact ⟨b5, cr, kc, rfl, N7, KK, E2, Fc, Fv, V2, sz_b5⟩)
theorem ef_47 (m : MethodId) (x0 : Addr) : entryFrame m #[.ref x0] 2 = mkF m 0 #[Lr x0, Lu] [] := by first | (simp [entryFrame, mkF, argsToLocals, Value.category]; done) | rfl
def Q47 (Z : State) (a1 dco eno iso utf tbd tbe : Addr) (kd ke : ClassId) (G1 : Int32) (fm : Value) (ar : Addr) (kb : ClassId) (B0 B1 B2 B3 B4 B5 v0 v1 v2 v3 v4 v5 v6 v7 r0 r1 r2 r3 r4 r5 r6 r7 : Int32) (h0 : Heap) (n0 : Nat) (v : Option Value) (h : Heap) (L : List Loc) : Prop := ∃ (ds : Addr) (kc : ClassId) (y0 : Int32), v = some (.ref ds) ∧ Fr n0 L ∧ Keep h0 h [] ∧ Arv Z h ds kc .byte (1 : Int32) [.int y0] (.int 0) ∧ h0.size ≤ ds ∧ own_SB y0 B0
set_option maxRecDepth 65536 in
set_option maxHeartbeats 40000000 in
theorem rm47 (hw : own_W a0 Z) (a1 dco eno iso utf tbd tbe : Addr) (kd ke : ClassId) (G1 : Int32) (fm : Value) (ar : Addr) (kb : ClassId) (B0 B1 B2 B3 B4 B5 v0 v1 v2 v3 v4 v5 v6 v7 r0 r1 r2 r3 r4 r5 r6 r7 : Int32) (h0 : Heap) (n0 : Nat) (Z0 : n0 ≤ h0.size) (hG : own_G Z dco eno iso utf tbd tbe kd ke G1 fm) (X00 : Old Z n0 h0) (Es : Exa Z h0 a1 "java/lang/String") (Fc : Fld Z h0 a1 "java/lang/String" "coder" "B" (.int 0)) (Fv : Fld Z h0 a1 "java/lang/String" "value" "[B" (.ref ar)) (Va : Arv Z h0 ar kb .byte (2 : Int32) [.int r0, .int r1] (.int 0)) (Ea : Exa Z h0 ar "[B") (hD : own_D 1 B0 B1 B2 B3 B4 B5 v0 v1 v2 v3 v4 v5 v6 v7 r0 r1 r2 r3 r4 r5 r6 r7) :
    own_M l Z yy25 q25 2 (some (.array .byte)) ⟨6, 5, 23, 89⟩ #[.ref a1] h0 [] (Q47 Z a1 dco eno iso utf tbd tbe kd ke G1 fm ar kb B0 B1 B2 B3 B4 B5 v0 v1 v2 v3 v4 v5 v6 v7 r0 r1 r2 r3 r4 r5 r6 r7 h0 n0) := by
  refine own_body (plainFor_of_name pn_7) ?_
  intro p e s m below meth c s₁ A hx hml hown hnm hlk hret hZ X0 e0 k0
  replace k0 := own_ent (ef_47 m a1) k0
  have N0 := Fr.nil n0
  have KK : Keep h0 h0 [] := Keep.refl h0 []
  obtain ⟨sD, sE, eD, eE, fDu, fDm, fEp, fEl, fEu, sI, sU, iu, sTd, sTe, aTd, aTe, sC, gC, sS, fmr⟩ := id hG
  obtain ⟨hq0, hq1, hc0, hc1, hc2, hc3, hc4, hc5, hc6, hc7, hz1, hz2, hz4, hz5⟩ := id hD
  obtain ⟨T1, X1, e1, k1⟩ := o_getS X0 hx hZ k0 hown (host := "") (Or.inl (hw 42 rfl)) Via.refl e0 (sD.ext X00.2) d25_0
  have od2 := eD.ext X00.2
  have k3 := fun t_ ht_ => k1 t_ (o_aloadN X1 hx d25_3 rfl rfl ht_)
  obtain ⟨_, T4, Lc4, X4, hQ4, k4⟩ := o_virtualM X1 hx hZ k3 yy18 hown (hw 44 rfl) yy18 (hw 45 rfl) (hw 47 rfl) (hw 46 rfl) rfl (rm40 hw dco a1 eno iso utf tbd tbe kd ke G1 fm ar kb B0 B1 B2 B3 B4 B5 v0 v1 v2 v3 v4 v5 v6 v7 r0 r1 r2 r3 r4 r5 r6 r7 h0 n0 Z0 hG X00 Es Fc Fv Va Ea hD) (hw 49 rfl) (hw 48 rfl) 0 od2 [.ref a1] [] (lenOf pd_15 rfl) hml e1 d25_4
  obtain ⟨ds, kc, yo0, rfl, Nq4, K1, V1, G1_, g_ds, sb0⟩ := hQ4
  have N4 := Fr.app N0 Nq4
  replace k4 := own_pushR k4
  have sz_ds : h0.size ≤ ds := Nat.le_trans KK.1 G1_
  replace X00 := X00.keep K1 (by simp)
  replace Es := Es.keep K1
  replace Fc := Fc.keep K1 (by simp)
  replace Fv := Fv.keep K1 (by simp)
  replace Va := Va.keep K1 (by simp)
  replace Ea := Ea.keep K1
  have Zs4 := Nat.le_trans Z0 K1.1
  replace KK := KK.trans K1 (fun x q => nomatch q)
  have k5 := fun t_ ht_ => k4 t_ (o_astoreN X4 hx d25_7 #[Lr a1, Lr ds] rfl rfl ht_)
  obtain ⟨T6, X6, e6, k6⟩ := o_getS X4 hx hZ k5 hown (host := "") (Or.inl (hw 105 rfl)) Via.refl rfl (sE.ext X00.2) d25_8
  have od7 := eE.ext X00.2
  have k8 := fun t_ ht_ => k6 t_ (o_aloadN X6 hx d25_11 rfl rfl ht_)
  obtain ⟨_, T9, Lc9, X9, hQ9, k9⟩ := o_virtualM X6 hx hZ k8 yy24 hown (hw 107 rfl) yy24 (hw 108 rfl) (hw 110 rfl) (hw 109 rfl) rfl (rm46 hw eno ds dco iso utf tbd tbe kd ke G1 fm kc B0 B1 B2 B3 B4 B5 v0 v1 v2 v3 v4 v5 v6 v7 r0 r1 r2 r3 r4 r5 r6 r7 yo0 T4.heap n0 Zs4 hG X00 V1 hD sb0) (hw 112 rfl) (hw 111 rfl) 0 od7 [.ref ds] [] (lenOf pd_16 rfl) hml e6 d25_12
  obtain ⟨so, cr, kc2, rfl, Nq9, K2, E2, Fc2, Fv2, V2, G2⟩ := hQ9
  have N9 := Fr.app N4 Nq9
  replace k9 := own_pushR k9
  have ne_so : so ≠ a1 := Ne.symm (Nat.ne_of_lt (Nat.lt_of_lt_of_le Es.lt G2))
  replace X00 := X00.keep K2 (by simp)
  replace Es := Es.keep K2
  replace Fc := Fc.keep K2 (by simp)
  replace Fv := Fv.keep K2 (by simp)
  replace Va := Va.keep K2 (by simp)
  replace Ea := Ea.keep K2
  replace V1 := V1.keep K2 (by simp)
  have Zs9 := Nat.le_trans Zs4 K2.1
  replace KK := KK.trans K2 (fun x q => nomatch q)
  have k10 := fun t_ ht_ => k9 t_ (o_aloadN X9 hx d25_15 rfl rfl ht_)
  obtain ⟨_, T11, Lc11, X11, hQ11, k11⟩ := o_virtualM X9 hx hZ k10 yy14 hown (hw 160 rfl) yy14 (hw 161 rfl) (hw 163 rfl) (hw 162 rfl) rfl (rm36 hw so a1 dco eno iso utf tbd tbe kd ke G1 fm cr ar kc2 kb (2 : Int32) [r0, r1] T9.heap n0 Zs9 hG X00 E2 Fc2 Fv2 Es Fc Fv V2 Va ne_so) (hw 164 rfl) (hw 11 rfl) 0 E2 [.ref a1] [] (lenOf pd_17 rfl) hml rfl d25_16
  obtain ⟨rfl, Nq11, e11⟩ := hQ11
  have N11 := Fr.app N9 Nq11
  replace k11 := own_pushR k11
  have k12 := fun t_ ht_ => k11 t_ (o_ifYes X11 hx d25_19 ((if0 _ _).trans (feq (by decide)).2) 32 (o_aloadN X11 hx d25_32 rfl rfl ht_))
  exact o_retA X11 hx k12 hlk hret rfl d25_33 (by rw [e11]; exact ⟨ds, kc, yo0, rfl, N11, KK, V1, sz_ds, sb0⟩)
theorem ef_48 (m : MethodId) (x0 x1 : Addr) (x2 x3 : Int32) : entryFrame m #[.ref x0, .ref x1, .int x2, .int x3] 9 = mkF m 0 #[Lr x0, Lr x1, Li x2, Li x3, Lu, Lu, Lu, Lu, Lu] [] := by first | (simp [entryFrame, mkF, argsToLocals, Value.category]; done) | rfl
def Q48 (Z : State) (dco ar eno iso utf tbd tbe : Addr) (kd ke : ClassId) (G1 : Int32) (fm : Value) (kb : ClassId) (B0 B1 B2 B3 B4 B5 v0 v1 v2 v3 v4 v5 v6 v7 r0 r1 r2 r3 r4 r5 r6 r7 : Int32) (h0 : Heap) (n0 : Nat) (v : Option Value) (h : Heap) (L : List Loc) : Prop := v = some (.int (2 : Int32)) ∧ Fr n0 L ∧ h = h0
set_option maxRecDepth 65536 in
set_option maxHeartbeats 40000000 in
theorem rm48 (hw : own_W a0 Z) (dco ar eno iso utf tbd tbe : Addr) (kd ke : ClassId) (G1 : Int32) (fm : Value) (kb : ClassId) (B0 B1 B2 B3 B4 B5 v0 v1 v2 v3 v4 v5 v6 v7 r0 r1 r2 r3 r4 r5 r6 r7 : Int32) (h0 : Heap) (n0 : Nat) (Z0 : n0 ≤ h0.size) (hG : own_G Z dco eno iso utf tbd tbe kd ke G1 fm) (X00 : Old Z n0 h0) (Va : Arv Z h0 ar kb .byte (3 : Int32) [.int r0, .int r1, .int r2] (.int 0)) (hD : own_D 2 B0 B1 B2 B3 B4 B5 v0 v1 v2 v3 v4 v5 v6 v7 r0 r1 r2 r3 r4 r5 r6 r7) :
    own_M l Z yy15 q15 9 (some .int) ⟨0, 0, 0, 0⟩ #[.ref dco, .ref ar, .int 0, .int 3] h0 [] (Q48 Z dco ar eno iso utf tbd tbe kd ke G1 fm kb B0 B1 B2 B3 B4 B5 v0 v1 v2 v3 v4 v5 v6 v7 r0 r1 r2 r3 r4 r5 r6 r7 h0 n0) := by
  refine own_body (plainFor_of_name pn_2) ?_
  intro p e s m below meth c s₁ A hx hml hown hnm hlk hret hZ X0 e0 k0
  replace k0 := own_ent (ef_48 m dco ar 0 3) k0
  have N0 := Fr.nil n0
  obtain ⟨sD, sE, eD, eE, fDu, fDm, fEp, fEl, fEu, sI, sU, iu, sTd, sTe, aTd, aTe, sC, gC, sS, fmr⟩ := id hG
  obtain ⟨hq0, hq1, hc0, hc1, hc2, hc3, hc4, hc5, hc6, hc7, hz1, hz2, hz4, hz5⟩ := id hD
  have od1 := fDu.ext X00.2
  have k2 := fun t_ ht_ => k0 t_ (o_aloadN X0 hx d15_0 rfl rfl ht_)
  obtain ⟨T3, X3, e3, k3⟩ := o_getF X0 hx hZ k2 hown (host := "") (Or.inl (hw 93 rfl)) Via.refl e0 od1 d15_1
  have k4 := fun t_ ht_ => k3 t_ (o_ifNo X3 hx d15_4 ((if0 _ _).trans (feq (by decide)).1) ht_)
  obtain ⟨T5, X5, e5, k5⟩ := o_getS X3 hx hZ k4 hown (host := "") (Or.inl (hw 95 rfl)) Via.refl e3 (sTd.ext X00.2) d15_7
  have od6 := fDm.ext X00.2
  have k7 := fun t_ ht_ => k5 t_ (o_goto X5 hx d15_10 16 (o_astore X5 hx d15_16 #[Lr dco, Lr ar, Li 0, Li 3, Lr tbd, Lu, Lu, Lu, Lu] rfl rfl (o_iconst X5 hx d15_18 0 rfl (o_istore X5 hx d15_19 #[Lr dco, Lr ar, Li 0, Li 3, Lr tbd, Li 0, Lu, Lu, Lu] rfl (o_iloadN X5 hx d15_21 rfl (o_iloadN X5 hx d15_22 rfl (o_isub X5 hx d15_23 (rfl : _ = (3 : Int32)) (o_istore X5 hx d15_24 #[Lr dco, Lr ar, Li 0, Li 3, Lr tbd, Li 0, Li 3, Lu, Lu] rfl (o_iload X5 hx d15_26 rfl (o_ifYes X5 hx d15_28 ((if0 _ _).trans (feq (by decide)).2) 33 (o_iload X5 hx d15_33 rfl (o_iconst X5 hx d15_35 2 rfl (o_icmpYes X5 hx d15_36 (flt (by decide)).2.1 66 (o_aloadN X5 hx d15_66 rfl rfl ht_))))))))))))))
  obtain ⟨T8, X8, e8, k8⟩ := o_getF X5 hx hZ k7 hown (host := "") (Or.inl (hw 96 rfl)) Via.refl e5 od6 d15_67
  have k9 := fun t_ ht_ => k8 t_ (o_ifYes X8 hx d15_70 ((if0 _ _).trans (teq (by decide)).1) 141 (o_aloadN X8 hx d15_141 rfl rfl (o_iloadN X8 hx d15_142 rfl (o_iconst X8 hx d15_143 1 rfl (o_isub X8 hx d15_144 (rfl : _ = (2 : Int32)) (o_ldB X8 hx hZ d15_145 e8 Va ⟨by decide, by decide⟩ (rfl : _ = Value.int r2) (o_bipush X8 hx d15_146 61 rfl (o_icmpYes X8 hx d15_148 (feq (own_r61 hc2)).2 167 (o_iload X8 hx d15_167 rfl (o_ifNo X8 hx d15_169 ((if0 _ _).trans (teq (by decide)).2) (o_iload X8 hx d15_172 rfl (o_iconst X8 hx d15_174 3 rfl (o_iand X8 hx d15_175 (rfl : _ = (3 : Int32)) (o_ifNo X8 hx d15_176 ((if0 _ _).trans (feq (by decide)).1) (o_iconst X8 hx d15_179 4 rfl (o_iload X8 hx d15_180 rfl (o_iconst X8 hx d15_182 3 rfl (o_iand X8 hx d15_183 (rfl : _ = (3 : Int32)) (o_isub X8 hx d15_184 (rfl : _ = (1 : Int32)) (o_istore X8 hx d15_185 #[Lr dco, Lr ar, Li 0, Li 3, Lr tbd, Li 1, Li 3, Lu, Lu] rfl (o_iconst X8 hx d15_187 3 rfl (o_iload X8 hx d15_188 rfl (o_i2l X8 hx d15_190 (o_ldc2Long X8 hx d15_191 hown (mvT hZ (hw 98 rfl)) (o_ladd X8 hx d15_194 rfl (o_ldc2Long X8 hx d15_195 hown (mvT hZ (hw 99 rfl)) (o_ldiv X8 hx d15_198 (by decide) (o_l2i X8 hx d15_199 (o_imul X8 hx d15_200 rfl (o_iload X8 hx d15_201 rfl (o_isub X8 hx d15_203 rfl ht_)))))))))))))))))))))))))))))))
  exact o_retI X8 hx k9 hlk hret d15_204 (by rw [e8]; exact ⟨congrArg (fun z => some (Value.int z)) (show (((3 : Int32) * (((((3 : Int32).toInt64) + (3 : Int64)) / (4 : Int64)).toInt32)) - (1 : Int32)) = (2 : Int32) from by decide), N0, rfl⟩)
theorem ef_49 (m : MethodId) (x0 x1 : Addr) (x2 x3 : Int32) (x4 : Addr) : entryFrame m #[.ref x0, .ref x1, .int x2, .int x3, .ref x4] 11 = mkF m 0 #[Lr x0, Lr x1, Li x2, Li x3, Lr x4, Lu, Lu, Lu, Lu, Lu, Lu] [] := by first | (simp [entryFrame, mkF, argsToLocals, Value.category]; done) | rfl
def Q49 (Z : State) (dco ar ds eno iso utf tbd tbe : Addr) (kd ke : ClassId) (G1 : Int32) (fm : Value) (kb kc : ClassId) (B0 B1 B2 B3 B4 B5 v0 v1 v2 v3 v4 v5 v6 v7 r0 r1 r2 r3 r4 r5 r6 r7 : Int32) (h0 : Heap) (n0 : Nat) (v : Option Value) (h : Heap) (L : List Loc) : Prop := ∃ (y0 y1 : Int32), v = some (.int (2 : Int32)) ∧ Fr n0 L ∧ Keep h0 h [ds] ∧ Arv Z h ds kc .byte (2 : Int32) [.int y0, .int y1] (.int 0) ∧ own_SB y0 B0 ∧ own_SB y1 B1
set_option maxRecDepth 65536 in
set_option maxHeartbeats 40000000 in
theorem rm49 (hw : own_W a0 Z) (dco ar ds eno iso utf tbd tbe : Addr) (kd ke : ClassId) (G1 : Int32) (fm : Value) (kb kc : ClassId) (B0 B1 B2 B3 B4 B5 v0 v1 v2 v3 v4 v5 v6 v7 r0 r1 r2 r3 r4 r5 r6 r7 : Int32) (h0 : Heap) (n0 : Nat) (Z0 : n0 ≤ h0.size) (hG : own_G Z dco eno iso utf tbd tbe kd ke G1 fm) (X00 : Old Z n0 h0) (Va : Arv Z h0 ar kb .byte (3 : Int32) [.int r0, .int r1, .int r2] (.int 0)) (Vd : Arv Z h0 ds kc .byte (2 : Int32) [.int (0 : Int32), .int (0 : Int32)] (.int 0)) (hne : ar ≠ ds) (g_ds : n0 ≤ ds) (hD : own_D 2 B0 B1 B2 B3 B4 B5 v0 v1 v2 v3 v4 v5 v6 v7 r0 r1 r2 r3 r4 r5 r6 r7) :
    own_M l Z yy16 q16 11 (some .int) ⟨0, 0, 0, 0⟩ #[.ref dco, .ref ar, .int 0, .int 3, .ref ds] h0 [] (Q49 Z dco ar ds eno iso utf tbd tbe kd ke G1 fm kb kc B0 B1 B2 B3 B4 B5 v0 v1 v2 v3 v4 v5 v6 v7 r0 r1 r2 r3 r4 r5 r6 r7 h0 n0) := by
  refine own_body (plainFor_of_name pn_2) ?_
  intro p e s m below meth c s₁ A hx hml hown hnm hlk hret hZ X0 e0 k0
  replace k0 := own_ent (ef_49 m dco ar 0 3 ds) k0
  have N0 := Fr.nil n0
  have KK : Keep h0 h0 [ds] := Keep.refl h0 [ds]
  obtain ⟨sD, sE, eD, eE, fDu, fDm, fEp, fEl, fEu, sI, sU, iu, sTd, sTe, aTd, aTe, sC, gC, sS, fmr⟩ := id hG
  obtain ⟨hq0, hq1, hc0, hc1, hc2, hc3, hc4, hc5, hc6, hc7, hz1, hz2, hz4, hz5⟩ := id hD
  have od1 := fDu.ext X00.2
  have k2 := fun t_ ht_ => k0 t_ (o_aloadN X0 hx d16_0 rfl rfl ht_)
  obtain ⟨T3, X3, e3, k3⟩ := o_getF X0 hx hZ k2 hown (host := "") (Or.inl (hw 93 rfl)) Via.refl e0 od1 d16_1
  have k4 := fun t_ ht_ => k3 t_ (o_ifNo X3 hx d16_4 ((if0 _ _).trans (feq (by decide)).1) ht_)
  obtain ⟨T5, X5, e5, k5⟩ := o_getS X3 hx hZ k4 hown (host := "") (Or.inl (hw 95 rfl)) Via.refl e3 (sTd.ext X00.2) d16_7
  have k6 := fun t_ ht_ => k5 t_ (o_goto X5 hx d16_10 16 (o_astore X5 hx d16_16 #[Lr dco, Lr ar, Li 0, Li 3, Lr ds, Lr tbd, Lu, Lu, Lu, Lu, Lu] rfl rfl (o_iconst X5 hx d16_18 0 rfl (o_istore X5 hx d16_19 #[Lr dco, Lr ar, Li 0, Li 3, Lr ds, Lr tbd, Li 0, Lu, Lu, Lu, Lu] rfl (o_iconst X5 hx d16_21 0 rfl (o_istore X5 hx d16_22 #[Lr dco, Lr ar, Li 0, Li 3, Lr ds, Lr tbd, Li 0, Li 0, Lu, Lu, Lu] rfl (o_bipush X5 hx d16_24 18 rfl (o_istore X5 hx d16_26 #[Lr dco, Lr ar, Li 0, Li 3, Lr ds, Lr tbd, Li 0, Li 0, Li 18, Lu, Lu] rfl (o_iloadN X5 hx d16_28 rfl (o_iloadN X5 hx d16_29 rfl (o_icmpNo X5 hx d16_30 (tlt (by decide)).2.1 (o_iload X5 hx d16_33 rfl (o_bipush X5 hx d16_35 18 rfl (o_icmpNo X5 hx d16_37 (teq (by decide)).2 (o_iloadN X5 hx d16_40 rfl (o_iloadN X5 hx d16_41 rfl (o_iconst X5 hx d16_42 4 rfl (o_isub X5 hx d16_43 (rfl : _ = (-1 : Int32)) (o_icmpYes X5 hx d16_44 (flt (by decide)).2.1 90 (o_iloadN X5 hx d16_90 rfl (o_iloadN X5 hx d16_91 rfl (o_icmpYes X5 hx d16_92 (tlt (by decide)).1 98 (o_aloadN X5 hx d16_98 rfl rfl (o_iloadN X5 hx d16_99 rfl (o_iinc X5 hx d16_100 #[Lr dco, Lr ar, Li 1, Li 3, Lr ds, Lr tbd, Li 0, Li 0, Li 18, Lu, Lu] rfl rfl (o_ldB X5 hx hZ d16_103 e5 Va ⟨by decide, by decide⟩ (rfl : _ = Value.int r0) (o_sipush X5 hx d16_104 255 rfl (o_iand X5 hx d16_107 rfl ht_))))))))))))))))))))))))))))
  rw [own_r255 hc0] at k6
  have od7 := aTd.ext X00.2
  have k8 := fun t_ ht_ => k6 t_ (o_istore X5 hx d16_108 #[Lr dco, Lr ar, Li 1, Li 3, Lr ds, Lr tbd, Li 0, Li 0, Li 18, Li r0, Lu] rfl (o_aload X5 hx d16_110 rfl rfl (o_iload X5 hx d16_112 rfl (o_ldI X5 hx hZ d16_114 e5 od7 (own_i256 hc0) (own_tabD_at hc0) (o_dup X5 hx d16_115 rfl (o_istore X5 hx d16_116 #[Lr dco, Lr ar, Li 1, Li 3, Lr ds, Lr tbd, Li 0, Li 0, Li 18, Li v0, Lu] rfl (o_ifYes X5 hx d16_118 ((if0 _ _).trans (flt (own_v0 hc0)).2.1) 214 (o_iload X5 hx d16_214 rfl (o_iload X5 hx d16_216 rfl (o_iload X5 hx d16_218 rfl (o_ishl X5 hx d16_220 (o_ior X5 hx d16_221 rfl (o_istore X5 hx d16_222 #[Lr dco, Lr ar, Li 1, Li 3, Lr ds, Lr tbd, Li 0, Li ((0 : Int32) ||| (v0 <<< ((18 : Int32) &&& 31))), Li 18, Li v0, Lu] rfl (o_iinc X5 hx d16_224 #[Lr dco, Lr ar, Li 1, Li 3, Lr ds, Lr tbd, Li 0, Li ((0 : Int32) ||| (v0 <<< ((18 : Int32) &&& 31))), Li 12, Li v0, Lu] rfl rfl (o_iload X5 hx d16_227 rfl (o_ifYes X5 hx d16_229 ((if0 _ _).trans (flt (by decide)).2.1) 278 (o_goto X5 hx d16_278 28 (o_iloadN X5 hx d16_28 rfl (o_iloadN X5 hx d16_29 rfl (o_icmpNo X5 hx d16_30 (tlt (by decide)).2.1 (o_iload X5 hx d16_33 rfl (o_bipush X5 hx d16_35 18 rfl (o_icmpYes X5 hx d16_37 (feq (by decide)).2 90 (o_iloadN X5 hx d16_90 rfl (o_iloadN X5 hx d16_91 rfl (o_icmpYes X5 hx d16_92 (tlt (by decide)).1 98 (o_aloadN X5 hx d16_98 rfl rfl (o_iloadN X5 hx d16_99 rfl (o_iinc X5 hx d16_100 #[Lr dco, Lr ar, Li 2, Li 3, Lr ds, Lr tbd, Li 0, Li ((0 : Int32) ||| (v0 <<< ((18 : Int32) &&& 31))), Li 12, Li v0, Lu] rfl rfl (o_ldB X5 hx hZ d16_103 e5 Va ⟨by decide, by decide⟩ (rfl : _ = Value.int r1) (o_sipush X5 hx d16_104 255 rfl (o_iand X5 hx d16_107 rfl ht_))))))))))))))))))))))))))))))))
  rw [own_r255 hc1] at k8
  have k9 := fun t_ ht_ => k8 t_ (o_istore X5 hx d16_108 #[Lr dco, Lr ar, Li 2, Li 3, Lr ds, Lr tbd, Li 0, Li ((0 : Int32) ||| (v0 <<< ((18 : Int32) &&& 31))), Li 12, Li r1, Lu] rfl (o_aload X5 hx d16_110 rfl rfl (o_iload X5 hx d16_112 rfl (o_ldI X5 hx hZ d16_114 e5 od7 (own_i256 hc1) (own_tabD_at hc1) (o_dup X5 hx d16_115 rfl (o_istore X5 hx d16_116 #[Lr dco, Lr ar, Li 2, Li 3, Lr ds, Lr tbd, Li 0, Li ((0 : Int32) ||| (v0 <<< ((18 : Int32) &&& 31))), Li 12, Li v1, Lu] rfl (o_ifYes X5 hx d16_118 ((if0 _ _).trans (flt (own_v0 hc1)).2.1) 214 (o_iload X5 hx d16_214 rfl (o_iload X5 hx d16_216 rfl (o_iload X5 hx d16_218 rfl (o_ishl X5 hx d16_220 (o_ior X5 hx d16_221 rfl (o_istore X5 hx d16_222 #[Lr dco, Lr ar, Li 2, Li 3, Lr ds, Lr tbd, Li 0, Li (((0 : Int32) ||| (v0 <<< ((18 : Int32) &&& 31))) ||| (v1 <<< ((12 : Int32) &&& 31))), Li 12, Li v1, Lu] rfl (o_iinc X5 hx d16_224 #[Lr dco, Lr ar, Li 2, Li 3, Lr ds, Lr tbd, Li 0, Li (((0 : Int32) ||| (v0 <<< ((18 : Int32) &&& 31))) ||| (v1 <<< ((12 : Int32) &&& 31))), Li 6, Li v1, Lu] rfl rfl (o_iload X5 hx d16_227 rfl (o_ifYes X5 hx d16_229 ((if0 _ _).trans (flt (by decide)).2.1) 278 (o_goto X5 hx d16_278 28 (o_iloadN X5 hx d16_28 rfl (o_iloadN X5 hx d16_29 rfl (o_icmpNo X5 hx d16_30 (tlt (by decide)).2.1 (o_iload X5 hx d16_33 rfl (o_bipush X5 hx d16_35 18 rfl (o_icmpYes X5 hx d16_37 (feq (by decide)).2 90 (o_iloadN X5 hx d16_90 rfl (o_iloadN X5 hx d16_91 rfl (o_icmpYes X5 hx d16_92 (tlt (by decide)).1 98 (o_aloadN X5 hx d16_98 rfl rfl (o_iloadN X5 hx d16_99 rfl (o_iinc X5 hx d16_100 #[Lr dco, Lr ar, Li 3, Li 3, Lr ds, Lr tbd, Li 0, Li (((0 : Int32) ||| (v0 <<< ((18 : Int32) &&& 31))) ||| (v1 <<< ((12 : Int32) &&& 31))), Li 6, Li v1, Lu] rfl rfl (o_ldB X5 hx hZ d16_103 e5 Va ⟨by decide, by decide⟩ (rfl : _ = Value.int r2) (o_sipush X5 hx d16_104 255 rfl (o_iand X5 hx d16_107 rfl ht_))))))))))))))))))))))))))))))))
  rw [own_r255 hc2] at k9
  have k10 := fun t_ ht_ => k9 t_ (o_istore X5 hx d16_108 #[Lr dco, Lr ar, Li 3, Li 3, Lr ds, Lr tbd, Li 0, Li (((0 : Int32) ||| (v0 <<< ((18 : Int32) &&& 31))) ||| (v1 <<< ((12 : Int32) &&& 31))), Li 6, Li r2, Lu] rfl (o_aload X5 hx d16_110 rfl rfl (o_iload X5 hx d16_112 rfl (o_ldI X5 hx hZ d16_114 e5 od7 (own_i256 hc2) (own_tabD_at hc2) (o_dup X5 hx d16_115 rfl (o_istore X5 hx d16_116 #[Lr dco, Lr ar, Li 3, Li 3, Lr ds, Lr tbd, Li 0, Li (((0 : Int32) ||| (v0 <<< ((18 : Int32) &&& 31))) ||| (v1 <<< ((12 : Int32) &&& 31))), Li 6, Li v2, Lu] rfl (o_ifYes X5 hx d16_118 ((if0 _ _).trans (flt (own_v0 hc2)).2.1) 214 (o_iload X5 hx d16_214 rfl (o_iload X5 hx d16_216 rfl (o_iload X5 hx d16_218 rfl (o_ishl X5 hx d16_220 (o_ior X5 hx d16_221 rfl (o_istore X5 hx d16_222 #[Lr dco, Lr ar, Li 3, Li 3, Lr ds, Lr tbd, Li 0, Li ((((0 : Int32) ||| (v0 <<< ((18 : Int32) &&& 31))) ||| (v1 <<< ((12 : Int32) &&& 31))) ||| (v2 <<< ((6 : Int32) &&& 31))), Li 6, Li v2, Lu] rfl (o_iinc X5 hx d16_224 #[Lr dco, Lr ar, Li 3, Li 3, Lr ds, Lr tbd, Li 0, Li ((((0 : Int32) ||| (v0 <<< ((18 : Int32) &&& 31))) ||| (v1 <<< ((12 : Int32) &&& 31))) ||| (v2 <<< ((6 : Int32) &&& 31))), Li 0, Li v2, Lu] rfl rfl (o_iload X5 hx d16_227 rfl (o_ifYes X5 hx d16_229 ((if0 _ _).trans (flt (by decide)).2.1) 278 (o_goto X5 hx d16_278 28 (o_iloadN X5 hx d16_28 rfl (o_iloadN X5 hx d16_29 rfl (o_icmpYes X5 hx d16_30 (flt (by decide)).2.1 281 (o_iload X5 hx d16_281 rfl (o_bipush X5 hx d16_283 6 rfl (o_icmpYes X5 hx d16_285 (feq (by decide)).2 305 (o_iload X5 hx d16_305 rfl (o_ifNo X5 hx d16_307 ((if0 _ _).trans (teq (by decide)).2) ht_)))))))))))))))))))))))))
  obtain ⟨bt0, hbt0⟩ : ∃ z : Int32, z = ((((0 : Int32) ||| (v0 <<< ((18 : Int32) &&& 31))) ||| (v1 <<< ((12 : Int32) &&& 31))) ||| (v2 <<< ((6 : Int32) &&& 31))) := ⟨_, rfl⟩
  rw [← hbt0] at k10
  have k11 := fun t_ ht_ => k10 t_ (o_aload X5 hx d16_310 rfl rfl (o_iload X5 hx d16_312 rfl (o_iinc X5 hx d16_314 #[Lr dco, Lr ar, Li 3, Li 3, Lr ds, Lr tbd, Li 1, Li bt0, Li 0, Li v2, Lu] rfl rfl (o_iload X5 hx d16_317 rfl (o_bipush X5 hx d16_319 16 rfl (o_ishr X5 hx d16_321 (o_i2b X5 hx d16_322 ht_)))))))
  obtain ⟨yy0, hyy0⟩ : ∃ z : Int32, z = ((bt0 >>> ((16 : Int32) &&& 31)).toInt8.toInt32) := ⟨_, rfl⟩
  rw [← hyy0] at k11
  have sb0 := own_T3_0 hq0 hc0 hc1 hc2 hbt0 hyy0
  obtain ⟨T12, h12, X12, e12, W12, Vd, k12⟩ := o_stB X5 hx hZ k11 e5 Vd 0 [.int (nar .byte yy0), .int 0] d16_323
  replace X00 := X00.wr W12 g_ds
  replace Va := Va.other W12 hne
  have Zs12 := Nat.le_trans Z0 (Keep.of_wr W12).1
  replace KK := KK.wr W12 (Or.inl (by simp))
  have N12 := Fr.snoc X12 N0 g_ds
  have k13 := fun t_ ht_ => k12 t_ (o_aload X12 hx d16_324 rfl rfl (o_iload X12 hx d16_326 rfl (o_iinc X12 hx d16_328 #[Lr dco, Lr ar, Li 3, Li 3, Lr ds, Lr tbd, Li 2, Li bt0, Li 0, Li v2, Lu] rfl rfl (o_iload X12 hx d16_331 rfl (o_bipush X12 hx d16_333 8 rfl (o_ishr X12 hx d16_335 (o_i2b X12 hx d16_336 ht_)))))))
  obtain ⟨yy1, hyy1⟩ : ∃ z : Int32, z = ((bt0 >>> ((8 : Int32) &&& 31)).toInt8.toInt32) := ⟨_, rfl⟩
  rw [← hyy1] at k13
  have sb1 := own_T3_1 hq0 hc0 hc1 hc2 hbt0 hyy1
  obtain ⟨T14, h14, X14, e14, W14, Vd, k14⟩ := o_stB X12 hx hZ k13 e12 Vd 1 [.int (nar .byte yy0), .int (nar .byte yy1)] d16_337
  replace X00 := X00.wr W14 g_ds
  replace Va := Va.other W14 hne
  have Zs14 := Nat.le_trans Zs12 (Keep.of_wr W14).1
  replace KK := KK.wr W14 (Or.inl (by simp))
  have N14 := Fr.snoc X14 N12 g_ds
  have k15 := fun t_ ht_ => k14 t_ (o_goto X14 hx d16_338 358 (o_iloadN X14 hx d16_358 rfl (o_iloadN X14 hx d16_359 rfl (o_icmpYes X14 hx d16_360 (flt (by decide)).2.1 416 (o_iload X14 hx d16_416 rfl ht_)))))
  exact o_retI X14 hx k15 hlk hret d16_418 (by rw [e14]; exact ⟨(nar .byte yy0), (nar .byte yy1), rfl, N14, KK, Vd, sb0, sb1⟩)
theorem ef_50 (m : MethodId) (x0 x1 : Addr) : entryFrame m #[.ref x0, .ref x1] 4 = mkF m 0 #[Lr x0, Lr x1, Lu, Lu] [] := by first | (simp [entryFrame, mkF, argsToLocals, Value.category]; done) | rfl
def Q50 (Z : State) (dco ar eno iso utf tbd tbe : Addr) (kd ke : ClassId) (G1 : Int32) (fm : Value) (kb : ClassId) (B0 B1 B2 B3 B4 B5 v0 v1 v2 v3 v4 v5 v6 v7 r0 r1 r2 r3 r4 r5 r6 r7 : Int32) (h0 : Heap) (n0 : Nat) (v : Option Value) (h : Heap) (L : List Loc) : Prop := ∃ (ds : Addr) (kc : ClassId) (y0 y1 : Int32), v = some (.ref ds) ∧ Fr n0 L ∧ Keep h0 h [] ∧ Arv Z h ds kc .byte (2 : Int32) [.int y0, .int y1] (.int 0) ∧ h0.size ≤ ds ∧ n0 ≤ ds ∧ own_SB y0 B0 ∧ own_SB y1 B1
set_option maxRecDepth 65536 in
set_option maxHeartbeats 40000000 in
theorem rm50 (hw : own_W a0 Z) (dco ar eno iso utf tbd tbe : Addr) (kd ke : ClassId) (G1 : Int32) (fm : Value) (kb : ClassId) (B0 B1 B2 B3 B4 B5 v0 v1 v2 v3 v4 v5 v6 v7 r0 r1 r2 r3 r4 r5 r6 r7 : Int32) (h0 : Heap) (n0 : Nat) (Z0 : n0 ≤ h0.size) (hG : own_G Z dco eno iso utf tbd tbe kd ke G1 fm) (X00 : Old Z n0 h0) (Va : Arv Z h0 ar kb .byte (3 : Int32) [.int r0, .int r1, .int r2] (.int 0)) (hD : own_D 2 B0 B1 B2 B3 B4 B5 v0 v1 v2 v3 v4 v5 v6 v7 r0 r1 r2 r3 r4 r5 r6 r7) :
    own_M l Z yy17 q17 4 (some (.array .byte)) ⟨1, 1, 2, 22⟩ #[.ref dco, .ref ar] h0 [] (Q50 Z dco ar eno iso utf tbd tbe kd ke G1 fm kb B0 B1 B2 B3 B4 B5 v0 v1 v2 v3 v4 v5 v6 v7 r0 r1 r2 r3 r4 r5 r6 r7 h0 n0) := by
  refine own_body (plainFor_of_name pn_2) ?_
  intro p e s m below meth c s₁ A hx hml hown hnm hlk hret hZ X0 e0 k0
  replace k0 := own_ent (ef_50 m dco ar) k0
  have N0 := Fr.nil n0
  have KK : Keep h0 h0 [] := Keep.refl h0 []
  obtain ⟨sD, sE, eD, eE, fDu, fDm, fEp, fEl, fEu, sI, sU, iu, sTd, sTe, aTd, aTe, sC, gC, sS, fmr⟩ := id hG
  obtain ⟨hq0, hq1, hc0, hc1, hc2, hc3, hc4, hc5, hc6, hc7, hz1, hz2, hz4, hz5⟩ := id hD
  have od1 := eD.ext X00.2
  have k2 := fun t_ ht_ => k0 t_ (o_aloadN X0 hx d17_0 rfl rfl (o_aloadN X0 hx d17_1 rfl rfl (o_iconst X0 hx d17_2 0 rfl (o_aloadN X0 hx d17_3 rfl rfl (o_len X0 hx hZ d17_4 e0 Va ht_)))))
  obtain ⟨_, T3, Lc3, X3, hQ3, k3⟩ := o_privateM X0 hx hZ k2 yy15 hown (hw 88 rfl) (hw 89 rfl) (hw 91 rfl) (hw 90 rfl) (hw 92 rfl) (rm48 hw dco ar eno iso utf tbd tbe kd ke G1 fm kb B0 B1 B2 B3 B4 B5 v0 v1 v2 v3 v4 v5 v6 v7 r0 r1 r2 r3 r4 r5 r6 r7 h0 n0 Z0 hG X00 Va hD) (hw 48 rfl) 0 od1 [.ref ar, .int 0, .int 3] [] (lenOf pd_8 rfl) hml e0 d17_5
  obtain ⟨rfl, Nq3, e3⟩ := hQ3
  have N3 := Fr.app N0 Nq3
  replace k3 := own_pushR k3
  obtain ⟨T4, h4, c4, X4, e4, E4, Ax4, Bx4, k4⟩ := o_newP X3 hx hZ k3 (hw 27 rfl) e3 (by decide) 2 (by decide) "[B" d17_8
  obtain ⟨b4, g4⟩ : ∃ z, z = h0.size := ⟨_, rfl⟩
  rw [← g4] at Ax4 Bx4 k4
  have ne_ar_b4 : ar ≠ b4 := Nat.ne_of_lt (Nat.lt_of_lt_of_le Va.lt (Nat.le_of_eq g4.symm))
  have g_b4 : n0 ≤ b4 := Nat.le_trans Z0 (Nat.le_of_eq g4.symm)
  have sz_b4 : h0.size ≤ b4 := Nat.le_trans KK.1 (Nat.le_of_eq g4.symm)
  replace X00 : Old Z n0 h4 := ⟨X00.1, Nat.le_trans X00.2.1 E4.1, fun x c r => E4.2 x c (X00.2.2 x c r)⟩
  replace Va := Va.ext E4
  have Zs4 := Nat.le_trans Z0 E4.1
  replace KK := KK.ext E4
  have Ex_b4 := Bx4
  have V_b4 : Arv Z h4 b4 c4 .byte 2 [.int 0, .int 0] (.int 0) := (Arv.new Ax4 (by decide)).pad (pad_rep [] (.int 0) 2)
  have od5 := eD.ext X00.2
  have k6 := fun t_ ht_ => k4 t_ (o_astoreN X4 hx d17_10 #[Lr dco, Lr ar, Lr b4, Lu] rfl rfl (o_aloadN X4 hx d17_11 rfl rfl (o_aloadN X4 hx d17_12 rfl rfl (o_iconst X4 hx d17_13 0 rfl (o_aloadN X4 hx d17_14 rfl rfl (o_len X4 hx hZ d17_15 e4 Va (o_aloadN X4 hx d17_16 rfl rfl ht_)))))))
  obtain ⟨_, T7, Lc7, X7, hQ7, k7⟩ := o_privateM X4 hx hZ k6 yy16 hown (hw 100 rfl) (hw 101 rfl) (hw 103 rfl) (hw 102 rfl) (hw 104 rfl) (rm49 hw dco ar b4 eno iso utf tbd tbe kd ke G1 fm kb c4 B0 B1 B2 B3 B4 B5 v0 v1 v2 v3 v4 v5 v6 v7 r0 r1 r2 r3 r4 r5 r6 r7 h4 n0 Zs4 hG X00 Va V_b4 ne_ar_b4 g_b4 hD) (hw 48 rfl) 0 od5 [.ref ar, .int 0, .int 3, .ref b4] [] (lenOf pd_9 rfl) hml e4 d17_17
  obtain ⟨yo0, yo1, rfl, Nq7, K1, V1, sb0, sb1⟩ := hQ7
  have N7 := Fr.app N3 Nq7
  replace k7 := own_pushR k7
  replace X00 := X00.keep K1 (by simpa using g_b4)
  replace Va := Va.keep K1 (by simpa using ne_ar_b4)
  replace Ex_b4 := Ex_b4.keep K1
  have Zs7 := Nat.le_trans Zs4 K1.1
  replace KK := KK.trans K1 (fun x q => by cases List.mem_singleton.mp q; exact Or.inr sz_b4)
  have k8 := fun t_ ht_ => k7 t_ (o_istoreN X7 hx d17_20 #[Lr dco, Lr ar, Lr b4, Li 2] rfl (o_iloadN X7 hx d17_21 rfl (o_aloadN X7 hx d17_22 rfl rfl (o_len X7 hx hZ d17_23 rfl V1 (o_icmpYes X7 hx d17_24 (teq (by decide)).1 33 (o_aloadN X7 hx d17_33 rfl rfl ht_))))))
  exact o_retA X7 hx k8 hlk hret rfl d17_34 (by exact ⟨b4, c4, yo0, yo1, rfl, N7, KK, V1, sz_b4, g_b4, sb0, sb1⟩)
theorem ef_51 (m : MethodId) (x0 x1 : Addr) : entryFrame m #[.ref x0, .ref x1] 2 = mkF m 0 #[Lr x0, Lr x1] [] := by first | (simp [entryFrame, mkF, argsToLocals, Value.category]; done) | rfl
def Q51 (Z : State) (dco a1 eno iso utf tbd tbe : Addr) (kd ke : ClassId) (G1 : Int32) (fm : Value) (ar : Addr) (kb : ClassId) (B0 B1 B2 B3 B4 B5 v0 v1 v2 v3 v4 v5 v6 v7 r0 r1 r2 r3 r4 r5 r6 r7 : Int32) (h0 : Heap) (n0 : Nat) (v : Option Value) (h : Heap) (L : List Loc) : Prop := ∃ (ds : Addr) (kc : ClassId) (y0 y1 : Int32), v = some (.ref ds) ∧ Fr n0 L ∧ Keep h0 h [] ∧ Arv Z h ds kc .byte (2 : Int32) [.int y0, .int y1] (.int 0) ∧ h0.size ≤ ds ∧ n0 ≤ ds ∧ own_SB y0 B0 ∧ own_SB y1 B1
set_option maxRecDepth 65536 in
set_option maxHeartbeats 40000000 in
theorem rm51 (hw : own_W a0 Z) (dco a1 eno iso utf tbd tbe : Addr) (kd ke : ClassId) (G1 : Int32) (fm : Value) (ar : Addr) (kb : ClassId) (B0 B1 B2 B3 B4 B5 v0 v1 v2 v3 v4 v5 v6 v7 r0 r1 r2 r3 r4 r5 r6 r7 : Int32) (h0 : Heap) (n0 : Nat) (Z0 : n0 ≤ h0.size) (hG : own_G Z dco eno iso utf tbd tbe kd ke G1 fm) (X00 : Old Z n0 h0) (Es : Exa Z h0 a1 "java/lang/String") (Fc : Fld Z h0 a1 "java/lang/String" "coder" "B" (.int 0)) (Fv : Fld Z h0 a1 "java/lang/String" "value" "[B" (.ref ar)) (Va : Arv Z h0 ar kb .byte (3 : Int32) [.int r0, .int r1, .int r2] (.int 0)) (Ea : Exa Z h0 ar "[B") (hD : own_D 2 B0 B1 B2 B3 B4 B5 v0 v1 v2 v3 v4 v5 v6 v7 r0 r1 r2 r3 r4 r5 r6 r7) :
    own_M l Z yy18 q18 2 (some (.array .byte)) ⟨5, 2, 10, 76⟩ #[.ref dco, .ref a1] h0 [] (Q51 Z dco a1 eno iso utf tbd tbe kd ke G1 fm ar kb B0 B1 B2 B3 B4 B5 v0 v1 v2 v3 v4 v5 v6 v7 r0 r1 r2 r3 r4 r5 r6 r7 h0 n0) := by
  refine own_body (plainFor_of_name pn_2) ?_
  intro p e s m below meth c s₁ A hx hml hown hnm hlk hret hZ X0 e0 k0
  replace k0 := own_ent (ef_51 m dco a1) k0
  have N0 := Fr.nil n0
  have KK : Keep h0 h0 [] := Keep.refl h0 []
  obtain ⟨sD, sE, eD, eE, fDu, fDm, fEp, fEl, fEu, sI, sU, iu, sTd, sTe, aTd, aTe, sC, gC, sS, fmr⟩ := id hG
  obtain ⟨hq0, hq1, hc0, hc1, hc2, hc3, hc4, hc5, hc6, hc7, hz1, hz2, hz4, hz5⟩ := id hD
  have k1 := fun t_ ht_ => k0 t_ (o_aloadN X0 hx d18_0 rfl rfl (o_aloadN X0 hx d18_1 rfl rfl ht_))
  obtain ⟨T2, X2, e2, k2⟩ := o_getS X0 hx hZ k1 hown (host := "") (Or.inl (hw 50 rfl)) Via.refl e0 (sI.ext X00.2) d18_2
  obtain ⟨_, T3, Lc3, X3, hQ3, k3⟩ := o_virtualM X2 hx hZ k2 yy6 hown (hw 52 rfl) yy6 (hw 53 rfl) (hw 55 rfl) (hw 54 rfl) rfl (rm23 hw a1 iso dco eno utf tbd tbe kd ke G1 fm ar kb (3 : Int32) _ h0 n0 Z0 hG X00 Es Fc Fv Va Ea (by decide)) (hw 56 rfl) (hw 11 rfl) 1 Es [.ref iso] [.ref dco] (lenOf pd_10 rfl) hml e2 d18_5
  obtain ⟨cr, rfl, Nq3, K1, V1, E1, G1_⟩ := hQ3
  have N3 := Fr.app N0 Nq3
  replace k3 := own_pushR k3
  replace X00 := X00.keep K1 (by simp)
  replace Es := Es.keep K1
  replace Fc := Fc.keep K1 (by simp)
  replace Fv := Fv.keep K1 (by simp)
  replace Va := Va.keep K1 (by simp)
  replace Ea := Ea.keep K1
  have Zs3 := Nat.le_trans Z0 K1.1
  replace KK := KK.trans K1 (fun x q => nomatch q)
  have od4 := eD.ext X00.2
  obtain ⟨_, T5, Lc5, X5, hQ5, k5⟩ := o_virtualM X3 hx hZ k3 yy17 hown (hw 83 rfl) yy17 (hw 84 rfl) (hw 86 rfl) (hw 85 rfl) rfl (rm50 hw dco cr eno iso utf tbd tbe kd ke G1 fm kb B0 B1 B2 B3 B4 B5 v0 v1 v2 v3 v4 v5 v6 v7 r0 r1 r2 r3 r4 r5 r6 r7 T3.heap n0 Zs3 hG X00 V1 hD) (hw 87 rfl) (hw 48 rfl) 0 od4 [.ref cr] [] (lenOf pd_11 rfl) hml rfl d18_8
  obtain ⟨ds, kc, yo0, yo1, rfl, Nq5, K2, V2, G2, g_ds, sb0, sb1⟩ := hQ5
  have N5 := Fr.app N3 Nq5
  replace k5 := own_pushR k5
  have sz_ds : h0.size ≤ ds := Nat.le_trans KK.1 G2
  replace X00 := X00.keep K2 (by simp)
  replace Es := Es.keep K2
  replace Fc := Fc.keep K2 (by simp)
  replace Fv := Fv.keep K2 (by simp)
  replace Va := Va.keep K2 (by simp)
  replace Ea := Ea.keep K2
  replace V1 := V1.keep K2 (by simp)
  replace E1 := E1.keep K2
  have Zs5 := Nat.le_trans Zs3 K2.1
  replace KK := KK.trans K2 (fun x q => nomatch q)
  exact o_retA X5 hx k5 hlk hret rfl d18_11 (by exact ⟨ds, kc, yo0, yo1, rfl, N5, KK, V2, sz_ds, g_ds, sb0, sb1⟩)
theorem ef_53 (m : MethodId) (x0 x1 : Int32) : entryFrame m #[.int x0, .int x1] 3 = mkF m 0 #[Li x0, Li x1, Lu] [] := by first | (simp [entryFrame, mkF, argsToLocals, Value.category]; done) | rfl
def Q53 (Z : State)  (h0 : Heap) (n0 : Nat) (v : Option Value) (h : Heap) (L : List Loc) : Prop := v = some (.int (3 : Int32)) ∧ Fr n0 L ∧ h = h0
set_option maxRecDepth 65536 in
set_option maxHeartbeats 40000000 in
theorem rm53 (hw : own_W a0 Z)  (h0 : Heap) (n0 : Nat) (Z0 : n0 ≤ h0.size) :
    own_M l Z yy20 q21 3 (some .int) ⟨0, 0, 0, 0⟩ #[.int 0, .int 3] h0 [] (Q53 Z  h0 n0) := by
  refine own_body (Jvm.Free.JP.mathPlain rfl (by decide +kernel)) ?_
  intro p e s m below meth c s₁ A hx hml hown hnm hlk hret hZ X0 e0 k0
  replace k0 := own_ent (ef_53 m 0 3) k0
  have N0 := Fr.nil n0
  have k1 := fun t_ ht_ => k0 t_ (o_iloadN X0 hx d21_0 rfl (o_iloadN X0 hx d21_1 rfl (o_iadd X0 hx d21_2 (rfl : _ = (3 : Int32)) (o_istoreN X0 hx d21_3 #[Li 0, Li 3, Li 3] rfl (o_iloadN X0 hx d21_4 rfl (o_iloadN X0 hx d21_5 rfl (o_ixor X0 hx d21_6 rfl (o_iloadN X0 hx d21_7 rfl (o_iloadN X0 hx d21_8 rfl (o_ixor X0 hx d21_9 rfl (o_iand X0 hx d21_10 rfl (o_ifYes X0 hx d21_11 ((if0 _ _).trans (flt (by decide)).2.1) 24 (o_iloadN X0 hx d21_24 rfl ht_)))))))))))))
  exact o_retI X0 hx k1 hlk hret d21_25 (by rw [e0]; exact ⟨congrArg (fun z => some (Value.int z)) (show (3 : Int32) = (3 : Int32) from by decide), N0, rfl⟩)
theorem ef_52 (m : MethodId) (x0 : Addr) (x1 x2 : Int32) : entryFrame m #[.ref x0, .int x1, .int x2] 5 = mkF m 0 #[Lr x0, Li x1, Li x2, Lu, Lu] [] := by first | (simp [entryFrame, mkF, argsToLocals, Value.category]; done) | rfl
def Q52 (Z : State) (eno dco iso utf tbd tbe : Addr) (kd ke : ClassId) (G1 : Int32) (fm : Value) (h0 : Heap) (n0 : Nat) (v : Option Value) (h : Heap) (L : List Loc) : Prop := v = some (.int (3 : Int32)) ∧ Fr n0 L ∧ h = h0
set_option maxRecDepth 65536 in
set_option maxHeartbeats 40000000 in
theorem rm52 (hw : own_W a0 Z) (eno dco iso utf tbd tbe : Addr) (kd ke : ClassId) (G1 : Int32) (fm : Value) (h0 : Heap) (n0 : Nat) (Z0 : n0 ≤ h0.size) (hG : own_G Z dco eno iso utf tbd tbe kd ke G1 fm) (X00 : Old Z n0 h0) :
    own_MH l Z yy21 q19 5 (some .int) [(2, 79, 82, 33)] ⟨1, 0, 0, 15⟩ #[.ref eno, .int 2, .int 1] h0 [] (Q52 Z eno dco iso utf tbd tbe kd ke G1 fm h0 n0) := by
  refine own_bodyH (plainFor_of_name pn_3) ?_
  intro p e s m below meth c s₁ A hx hml hown hnm hlk hret hZ X0 e0 k0
  replace k0 := own_ent (ef_52 m eno 2 1) k0
  have N0 := Fr.nil n0
  obtain ⟨sD, sE, eD, eE, fDu, fDm, fEp, fEl, fEu, sI, sU, iu, sTd, sTe, aTd, aTe, sC, gC, sS, fmr⟩ := id hG
  have od1 := fEp.ext X00.2
  have k2 := fun t_ ht_ => k0 t_ (o_iconst X0 hx d19_0 0 rfl (o_istoreN X0 hx d19_1 #[Lr eno, Li 2, Li 1, Li 0, Lu] rfl (o_aloadN X0 hx d19_2 rfl rfl ht_)))
  obtain ⟨T3, X3, e3, k3⟩ := o_getF X0 hx hZ k2 hown (host := "") (Or.inl (hw 123 rfl)) Via.refl e0 od1 d19_3
  have k4 := fun t_ ht_ => k3 t_ (o_ifYes X3 hx d19_6 ((if0 _ _).trans (teq (by decide)).1) 24 (o_iloadN X3 hx d19_24 rfl (o_iconst X3 hx d19_25 3 rfl (o_irem X3 hx d19_26 (by decide) ht_))))
  rw [show ((2 : Int32) - ((2 : Int32) / (3 : Int32)) * (3 : Int32)) = (2 : Int32) from by decide] at k4
  have k5 := fun t_ ht_ => k4 t_ (o_istore X3 hx d19_27 #[Lr eno, Li 2, Li 1, Li 0, Li 2] rfl (o_iconst X3 hx d19_29 4 rfl (o_iloadN X3 hx d19_30 rfl (o_iconst X3 hx d19_31 3 rfl (o_idiv X3 hx d19_32 (by decide) ht_)))))
  rw [show ((2 : Int32) / (3 : Int32)) = (0 : Int32) from by decide] at k5
  obtain ⟨_, T6, Lc6, X6, hQ6, k6⟩ := o_callSM X3 hx hZ k5 yy19 hown (hw 125 rfl) (hw 126 rfl) (hw 127 rfl) (hw 128 rfl) (rm42 hw h0 n0 Z0) 0 [.int 4, .int 0] [] (lenOf pd_12 rfl) hml e3 d19_33
  obtain ⟨rfl, Nq6, e6⟩ := hQ6
  have N6 := Fr.app N0 Nq6
  replace k6 := own_pushR k6
  have k7 := fun t_ ht_ => k6 t_ (o_iload X6 hx d19_36 rfl (o_ifYes X6 hx d19_38 ((if0 _ _).trans (feq (by decide)).2) 45 (o_iload X6 hx d19_45 rfl (o_iconst X6 hx d19_47 1 rfl (o_iadd X6 hx d19_48 (rfl : _ = (3 : Int32)) ht_)))))
  obtain ⟨_, T8, Lc8, X8, hQ8, k8⟩ := o_callSM X6 hx hZ k7 yy20 hown (hw 129 rfl) (hw 130 rfl) (hw 127 rfl) (hw 131 rfl) (rm53 hw h0 n0 Z0) 0 [.int 0, .int 3] [] (lenOf pd_12 rfl) hml e6 d19_49
  obtain ⟨rfl, Nq8, e8⟩ := hQ8
  have N8 := Fr.app N6 Nq8
  replace k8 := own_pushR k8
  have od9 := fEl.ext X00.2
  have k10 := fun t_ ht_ => k8 t_ (o_istoreN X8 hx d19_52 #[Lr eno, Li 2, Li 1, Li 3, Li 2] rfl (o_aloadN X8 hx d19_53 rfl rfl ht_))
  obtain ⟨T11, X11, e11, k11⟩ := o_getF X8 hx hZ k10 hown (host := "") (Or.inl (hw 132 rfl)) Via.refl e8 od9 d19_54
  have k12 := fun t_ ht_ => k11 t_ (o_ifYes X11 hx d19_57 ((if0 _ _).trans (flt (by decide)).2.2.2) 79 (o_goto X11 hx d19_79 100 (o_iloadN X11 hx d19_100 rfl ht_)))
  exact o_retI X11 hx k12 hlk hret d19_101 (by rw [e11]; exact ⟨rfl, N8, rfl⟩)
theorem ef_54 (m : MethodId) (x0 x1 : Addr) (x2 x3 : Int32) (x4 : Addr) : entryFrame m #[.ref x0, .ref x1, .int x2, .int x3, .ref x4] 16 = mkF m 0 #[Lr x0, Lr x1, Li x2, Li x3, Lr x4, Lu, Lu, Lu, Lu, Lu, Lu, Lu, Lu, Lu, Lu, Lu] [] := by first | (simp [entryFrame, mkF, argsToLocals, Value.category]; done) | rfl
def Q54 (Z : State) (eno ar ds dco iso utf tbd tbe : Addr) (kd ke : ClassId) (G1 : Int32) (fm : Value) (kb kc : ClassId) (B0 B1 B2 B3 B4 B5 v0 v1 v2 v3 v4 v5 v6 v7 r0 r1 r2 r3 r4 r5 r6 r7 y0 y1 : Int32) (h0 : Heap) (n0 : Nat) (v : Option Value) (h : Heap) (L : List Loc) : Prop := v = some (.int (3 : Int32)) ∧ Fr n0 L ∧ Keep h0 h [ds] ∧ Arv Z h ds kc .byte (3 : Int32) [.int r0, .int r1, .int r2] (.int 0)
set_option maxRecDepth 65536 in
set_option maxHeartbeats 40000000 in
theorem rm54 (hw : own_W a0 Z) (eno ar ds dco iso utf tbd tbe : Addr) (kd ke : ClassId) (G1 : Int32) (fm : Value) (kb kc : ClassId) (B0 B1 B2 B3 B4 B5 v0 v1 v2 v3 v4 v5 v6 v7 r0 r1 r2 r3 r4 r5 r6 r7 y0 y1 : Int32) (h0 : Heap) (n0 : Nat) (Z0 : n0 ≤ h0.size) (hG : own_G Z dco eno iso utf tbd tbe kd ke G1 fm) (X00 : Old Z n0 h0) (Va : Arv Z h0 ar kb .byte (2 : Int32) [.int y0, .int y1] (.int 0)) (Vd : Arv Z h0 ds kc .byte (3 : Int32) [.int (0 : Int32), .int (0 : Int32), .int (0 : Int32)] (.int 0)) (hne : ar ≠ ds) (g_ds : n0 ≤ ds) (hD : own_D 2 B0 B1 B2 B3 B4 B5 v0 v1 v2 v3 v4 v5 v6 v7 r0 r1 r2 r3 r4 r5 r6 r7) (hs0 : own_SB y0 B0) (hs1 : own_SB y1 B1) :
    own_M l Z yy22 q22 16 (some .int) ⟨0, 0, 0, 0⟩ #[.ref eno, .ref ar, .int 0, .int 2, .ref ds] h0 [] (Q54 Z eno ar ds dco iso utf tbd tbe kd ke G1 fm kb kc B0 B1 B2 B3 B4 B5 v0 v1 v2 v3 v4 v5 v6 v7 r0 r1 r2 r3 r4 r5 r6 r7 y0 y1 h0 n0) := by
  refine own_body (plainFor_of_name pn_3) ?_
  intro p e s m below meth c s₁ A hx hml hown hnm hlk hret hZ X0 e0 k0
  replace k0 := own_ent (ef_54 m eno ar 0 2 ds) k0
  have N0 := Fr.nil n0
  have KK : Keep h0 h0 [ds] := Keep.refl h0 [ds]
  obtain ⟨sD, sE, eD, eE, fDu, fDm, fEp, fEl, fEu, sI, sU, iu, sTd, sTe, aTd, aTe, sC, gC, sS, fmr⟩ := id hG
  obtain ⟨hq0, hq1, hc0, hc1, hc2, hc3, hc4, hc5, hc6, hc7, hz1, hz2, hz4, hz5⟩ := id hD
  have od1 := fEu.ext X00.2
  have k2 := fun t_ ht_ => k0 t_ (o_aloadN X0 hx d22_0 rfl rfl ht_)
  obtain ⟨T3, X3, e3, k3⟩ := o_getF X0 hx hZ k2 hown (host := "") (Or.inl (hw 139 rfl)) Via.refl e0 od1 d22_1
  have k4 := fun t_ ht_ => k3 t_ (o_ifNo X3 hx d22_4 ((if0 _ _).trans (feq (by decide)).1) ht_)
  obtain ⟨T5, X5, e5, k5⟩ := o_getS X3 hx hZ k4 hown (host := "") (Or.inl (hw 141 rfl)) Via.refl e3 (sTe.ext X00.2) d22_7
  have k6 := fun t_ ht_ => k5 t_ (o_goto X5 hx d22_10 16 (o_astore X5 hx d22_16 #[Lr eno, Lr ar, Li 0, Li 2, Lr ds, Lr tbe, Lu, Lu, Lu, Lu, Lu, Lu, Lu, Lu, Lu, Lu] rfl rfl (o_iloadN X5 hx d22_18 rfl (o_istore X5 hx d22_19 #[Lr eno, Lr ar, Li 0, Li 2, Lr ds, Lr tbe, Li 0, Lu, Lu, Lu, Lu, Lu, Lu, Lu, Lu, Lu] rfl (o_iloadN X5 hx d22_21 rfl (o_iloadN X5 hx d22_22 rfl (o_isub X5 hx d22_23 (rfl : _ = (2 : Int32)) (o_iconst X5 hx d22_24 3 rfl (o_idiv X5 hx d22_25 (by decide) ht_)))))))))
  rw [show ((2 : Int32) / (3 : Int32)) = (0 : Int32) from by decide] at k6
  have od7 := fEl.ext X00.2
  have k8 := fun t_ ht_ => k6 t_ (o_iconst X5 hx d22_26 3 rfl (o_imul X5 hx d22_27 (rfl : _ = (0 : Int32)) (o_istore X5 hx d22_28 #[Lr eno, Lr ar, Li 0, Li 2, Lr ds, Lr tbe, Li 0, Li 0, Lu, Lu, Lu, Lu, Lu, Lu, Lu, Lu] rfl (o_iloadN X5 hx d22_30 rfl (o_iload X5 hx d22_31 rfl (o_iadd X5 hx d22_33 (rfl : _ = (0 : Int32)) (o_istore X5 hx d22_34 #[Lr eno, Lr ar, Li 0, Li 2, Lr ds, Lr tbe, Li 0, Li 0, Li 0, Lu, Lu, Lu, Lu, Lu, Lu, Lu] rfl (o_aloadN X5 hx d22_36 rfl rfl ht_))))))))
  obtain ⟨T9, X9, e9, k9⟩ := o_getF X5 hx hZ k8 hown (host := "") (Or.inl (hw 132 rfl)) Via.refl e5 od7 d22_37
  have k10 := fun t_ ht_ => k9 t_ (o_ifYes X9 hx d22_40 ((if0 _ _).trans (flt (by decide)).2.2.2) 66 (o_iconst X9 hx d22_66 0 rfl (o_istore X9 hx d22_67 #[Lr eno, Lr ar, Li 0, Li 2, Lr ds, Lr tbe, Li 0, Li 0, Li 0, Li 0, Lu, Lu, Lu, Lu, Lu, Lu] rfl (o_iload X9 hx d22_69 rfl (o_iload X9 hx d22_71 rfl (o_icmpYes X9 hx d22_73 (flt (by decide)).2.1 189 (o_iload X9 hx d22_189 rfl (o_iloadN X9 hx d22_191 rfl (o_icmpNo X9 hx d22_192 (tlt (by decide)).2.1 (o_aloadN X9 hx d22_195 rfl rfl (o_iload X9 hx d22_196 rfl (o_iinc X9 hx d22_198 #[Lr eno, Lr ar, Li 0, Li 2, Lr ds, Lr tbe, Li 1, Li 0, Li 0, Li 0, Lu, Lu, Lu, Lu, Lu, Lu] rfl rfl (o_ldB X9 hx hZ d22_201 e9 Va ⟨by decide, by decide⟩ (rfl : _ = Value.int y0) (o_sipush X9 hx d22_202 255 rfl (o_iand X9 hx d22_205 rfl ht_)))))))))))))))
  rw [own_sb255 hs0] at k10
  have k11 := fun t_ ht_ => k10 t_ (o_istore X9 hx d22_206 #[Lr eno, Lr ar, Li 0, Li 2, Lr ds, Lr tbe, Li 1, Li 0, Li 0, Li 0, Li B0, Lu, Lu, Lu, Lu, Lu] rfl (o_aload X9 hx d22_208 rfl rfl (o_iload X9 hx d22_210 rfl (o_iinc X9 hx d22_212 #[Lr eno, Lr ar, Li 0, Li 2, Lr ds, Lr tbe, Li 1, Li 0, Li 0, Li 1, Li B0, Lu, Lu, Lu, Lu, Lu] rfl rfl (o_aload X9 hx d22_215 rfl rfl (o_iload X9 hx d22_217 rfl (o_iconst X9 hx d22_219 2 rfl (o_ishr X9 hx d22_220 ht_))))))))
  obtain ⟨qx0_221, hqx0_221⟩ : ∃ z : Int32, z = (B0 >>> ((2 : Int32) &&& 31)) := ⟨_, rfl⟩
  rw [← hqx0_221] at k11
  have od12 := aTe.ext X00.2
  have k13 := fun t_ ht_ => k11 t_ (o_ldC X9 hx hZ d22_221 e9 od12 (own_i64 hc0 (own_t0 hq0 hqx0_221)) (own_tabE_at hc0 (own_t0 hq0 hqx0_221)) (o_i2b X9 hx d22_222 ht_))
  obtain ⟨T14, h14, X14, e14, W14, Vd, k14⟩ := o_stB X9 hx hZ k13 e9 Vd 0 [.int (nar .byte (r0.toInt8.toInt32)), .int 0, .int 0] d22_223
  replace X00 := X00.wr W14 g_ds
  replace Va := Va.other W14 hne
  have Zs14 := Nat.le_trans Z0 (Keep.of_wr W14).1
  replace KK := KK.wr W14 (Or.inl (by simp))
  have N14 := Fr.snoc X14 N0 g_ds
  rw [own_rnb hc0] at Vd
  have k15 := fun t_ ht_ => k14 t_ (o_iload X14 hx d22_224 rfl (o_iloadN X14 hx d22_226 rfl (o_icmpYes X14 hx d22_227 (feq (by decide)).2 279 (o_aloadN X14 hx d22_279 rfl rfl (o_iload X14 hx d22_280 rfl (o_iinc X14 hx d22_282 #[Lr eno, Lr ar, Li 0, Li 2, Lr ds, Lr tbe, Li 2, Li 0, Li 0, Li 1, Li B0, Lu, Lu, Lu, Lu, Lu] rfl rfl (o_ldB X14 hx hZ d22_285 e14 Va ⟨by decide, by decide⟩ (rfl : _ = Value.int y1) (o_sipush X14 hx d22_286 255 rfl (o_iand X14 hx d22_289 rfl ht_)))))))))
  rw [own_sb255 hs1] at k15
  have k16 := fun t_ ht_ => k15 t_ (o_istore X14 hx d22_290 #[Lr eno, Lr ar, Li 0, Li 2, Lr ds, Lr tbe, Li 2, Li 0, Li 0, Li 1, Li B0, Li B1, Lu, Lu, Lu, Lu] rfl (o_aload X14 hx d22_292 rfl rfl (o_iload X14 hx d22_294 rfl (o_iinc X14 hx d22_296 #[Lr eno, Lr ar, Li 0, Li 2, Lr ds, Lr tbe, Li 2, Li 0, Li 0, Li 2, Li B0, Li B1, Lu, Lu, Lu, Lu] rfl rfl (o_aload X14 hx d22_299 rfl rfl (o_iload X14 hx d22_301 rfl (o_iconst X14 hx d22_303 4 rfl (o_ishl X14 hx d22_304 (o_bipush X14 hx d22_305 63 rfl (o_iand X14 hx d22_307 rfl (o_iload X14 hx d22_308 rfl (o_iconst X14 hx d22_310 4 rfl (o_ishr X14 hx d22_311 (o_ior X14 hx d22_312 rfl ht_))))))))))))))
  obtain ⟨qx1_313, hqx1_313⟩ : ∃ z : Int32, z = (((B0 <<< ((4 : Int32) &&& 31)) &&& (63 : Int32)) ||| (B1 >>> ((4 : Int32) &&& 31))) := ⟨_, rfl⟩
  rw [← hqx1_313] at k16
  have od17 := aTe.ext X00.2
  have k18 := fun t_ ht_ => k16 t_ (o_ldC X14 hx hZ d22_313 e14 od17 (own_i64 hc1 (own_t1' hq0 hqx1_313)) (own_tabE_at hc1 (own_t1' hq0 hqx1_313)) (o_i2b X14 hx d22_314 ht_))
  obtain ⟨T19, h19, X19, e19, W19, Vd, k19⟩ := o_stB X14 hx hZ k18 e14 Vd 1 [.int r0, .int (nar .byte (r1.toInt8.toInt32)), .int 0] d22_315
  replace X00 := X00.wr W19 g_ds
  replace Va := Va.other W19 hne
  have Zs19 := Nat.le_trans Zs14 (Keep.of_wr W19).1
  replace KK := KK.wr W19 (Or.inl (by simp))
  have N19 := Fr.snoc X19 N14 g_ds
  rw [own_rnb hc1] at Vd
  have k20 := fun t_ ht_ => k19 t_ (o_aload X19 hx d22_316 rfl rfl (o_iload X19 hx d22_318 rfl (o_iinc X19 hx d22_320 #[Lr eno, Lr ar, Li 0, Li 2, Lr ds, Lr tbe, Li 2, Li 0, Li 0, Li 3, Li B0, Li B1, Lu, Lu, Lu, Lu] rfl rfl (o_aload X19 hx d22_323 rfl rfl (o_iload X19 hx d22_325 rfl (o_iconst X19 hx d22_327 2 rfl (o_ishl X19 hx d22_328 (o_bipush X19 hx d22_329 63 rfl (o_iand X19 hx d22_331 rfl ht_)))))))))
  obtain ⟨qx2_332, hqx2_332⟩ : ∃ z : Int32, z = ((B1 <<< ((2 : Int32) &&& 31)) &&& (63 : Int32)) := ⟨_, rfl⟩
  rw [← hqx2_332] at k20
  have od21 := aTe.ext X00.2
  have k22 := fun t_ ht_ => k20 t_ (o_ldC X19 hx hZ d22_332 e19 od21 (own_i64 hc2 (own_t2 hq0 (hz2 (by decide)) hqx2_332)) (own_tabE_at hc2 (own_t2 hq0 (hz2 (by decide)) hqx2_332)) (o_i2b X19 hx d22_333 ht_))
  obtain ⟨T23, h23, X23, e23, W23, Vd, k23⟩ := o_stB X19 hx hZ k22 e19 Vd 2 [.int r0, .int r1, .int (nar .byte (r2.toInt8.toInt32))] d22_334
  replace X00 := X00.wr W23 g_ds
  replace Va := Va.other W23 hne
  have Zs23 := Nat.le_trans Zs19 (Keep.of_wr W23).1
  replace KK := KK.wr W23 (Or.inl (by simp))
  have N23 := Fr.snoc X23 N19 g_ds
  rw [own_rnb hc2] at Vd
  have od24 := fEp.ext X00.2
  have k25 := fun t_ ht_ => k23 t_ (o_aloadN X23 hx d22_335 rfl rfl ht_)
  obtain ⟨T26, X26, e26, k26⟩ := o_getF X23 hx hZ k25 hown (host := "") (Or.inl (hw 123 rfl)) Via.refl e23 od24 d22_336
  have k27 := fun t_ ht_ => k26 t_ (o_ifYes X26 hx d22_339 ((if0 _ _).trans (teq (by decide)).1) 352 (o_iload X26 hx d22_352 rfl ht_))
  exact o_retI X26 hx k27 hlk hret d22_354 (by rw [e26]; exact ⟨rfl, N23, KK, Vd⟩)
theorem ef_55 (m : MethodId) (x0 x1 : Addr) : entryFrame m #[.ref x0, .ref x1] 5 = mkF m 0 #[Lr x0, Lr x1, Lu, Lu, Lu] [] := by first | (simp [entryFrame, mkF, argsToLocals, Value.category]; done) | rfl
def Q55 (Z : State) (eno ar dco iso utf tbd tbe : Addr) (kd ke : ClassId) (G1 : Int32) (fm : Value) (kb : ClassId) (B0 B1 B2 B3 B4 B5 v0 v1 v2 v3 v4 v5 v6 v7 r0 r1 r2 r3 r4 r5 r6 r7 y0 y1 : Int32) (h0 : Heap) (n0 : Nat) (v : Option Value) (h : Heap) (L : List Loc) : Prop := ∃ (ds : Addr) (kc : ClassId), v = some (.ref ds) ∧ Fr n0 L ∧ Keep h0 h [] ∧ Arv Z h ds kc .byte (3 : Int32) [.int r0, .int r1, .int r2] (.int 0) ∧ Exa Z h ds "[B" ∧ h0.size ≤ ds
set_option maxRecDepth 65536 in
set_option maxHeartbeats 40000000 in
theorem rm55 (hw : own_W a0 Z) (eno ar dco iso utf tbd tbe : Addr) (kd ke : ClassId) (G1 : Int32) (fm : Value) (kb : ClassId) (B0 B1 B2 B3 B4 B5 v0 v1 v2 v3 v4 v5 v6 v7 r0 r1 r2 r3 r4 r5 r6 r7 y0 y1 : Int32) (h0 : Heap) (n0 : Nat) (Z0 : n0 ≤ h0.size) (hG : own_G Z dco eno iso utf tbd tbe kd ke G1 fm) (X00 : Old Z n0 h0) (Va : Arv Z h0 ar kb .byte (2 : Int32) [.int y0, .int y1] (.int 0)) (hD : own_D 2 B0 B1 B2 B3 B4 B5 v0 v1 v2 v3 v4 v5 v6 v7 r0 r1 r2 r3 r4 r5 r6 r7) (hs0 : own_SB y0 B0) (hs1 : own_SB y1 B1) :
    own_M l Z yy23 q23 5 (some (.array .byte)) ⟨2, 1, 3, 31⟩ #[.ref eno, .ref ar] h0 [] (Q55 Z eno ar dco iso utf tbd tbe kd ke G1 fm kb B0 B1 B2 B3 B4 B5 v0 v1 v2 v3 v4 v5 v6 v7 r0 r1 r2 r3 r4 r5 r6 r7 y0 y1 h0 n0) := by
  refine own_body (plainFor_of_name pn_3) ?_
  intro p e s m below meth c s₁ A hx hml hown hnm hlk hret hZ X0 e0 k0
  replace k0 := own_ent (ef_55 m eno ar) k0
  have N0 := Fr.nil n0
  have KK : Keep h0 h0 [] := Keep.refl h0 []
  obtain ⟨sD, sE, eD, eE, fDu, fDm, fEp, fEl, fEu, sI, sU, iu, sTd, sTe, aTd, aTe, sC, gC, sS, fmr⟩ := id hG
  obtain ⟨hq0, hq1, hc0, hc1, hc2, hc3, hc4, hc5, hc6, hc7, hz1, hz2, hz4, hz5⟩ := id hD
  have od1 := eE.ext X00.2
  have k2 := fun t_ ht_ => k0 t_ (o_aloadN X0 hx d23_0 rfl rfl (o_aloadN X0 hx d23_1 rfl rfl (o_len X0 hx hZ d23_2 e0 Va (o_iconst X0 hx d23_3 1 rfl ht_))))
  obtain ⟨_, T3, Lc3, X3, hQ3, k3⟩ := o_privateH X0 hx hZ k2 yy21 hown (hw 118 rfl) (hw 119 rfl) (hw 121 rfl) (hw 120 rfl) (hw 122 rfl) (backOfWith (W := 0) (rm52 hw eno dco iso utf tbd tbe kd ke G1 fm h0 n0 Z0 hG X00) hZ (hw 122 rfl) (hw 111 rfl) (by decide) (by decide)) od1 [.int 2, .int 1] [] (lenOf pd_13 rfl) hml e0 d23_4
  obtain ⟨rfl, Nq3, e3⟩ := hQ3
  have N3 := Fr.app N0 Nq3
  replace k3 := own_pushR k3
  have k4 := fun t_ ht_ => k3 t_ (o_istoreN X3 hx d23_7 #[Lr eno, Lr ar, Li 3, Lu, Lu] rfl (o_iloadN X3 hx d23_8 rfl ht_))
  obtain ⟨T5, h5, c5, X5, e5, E5, Ax5, Bx5, k5⟩ := o_newP X3 hx hZ k4 (hw 27 rfl) e3 (by decide) 3 (by decide) "[B" d23_9
  obtain ⟨b5, g5⟩ : ∃ z, z = h0.size := ⟨_, rfl⟩
  rw [← g5] at Ax5 Bx5 k5
  have ne_ar_b5 : ar ≠ b5 := Nat.ne_of_lt (Nat.lt_of_lt_of_le Va.lt (Nat.le_of_eq g5.symm))
  have g_b5 : n0 ≤ b5 := Nat.le_trans Z0 (Nat.le_of_eq g5.symm)
  have sz_b5 : h0.size ≤ b5 := Nat.le_trans KK.1 (Nat.le_of_eq g5.symm)
  replace X00 : Old Z n0 h5 := ⟨X00.1, Nat.le_trans X00.2.1 E5.1, fun x c r => E5.2 x c (X00.2.2 x c r)⟩
  replace Va := Va.ext E5
  have Zs5 := Nat.le_trans Z0 E5.1
  replace KK := KK.ext E5
  have Ex_b5 := Bx5
  have V_b5 : Arv Z h5 b5 c5 .byte 3 [.int 0, .int 0, .int 0] (.int 0) := (Arv.new Ax5 (by decide)).pad (pad_rep [] (.int 0) 3)
  have od6 := eE.ext X00.2
  have k7 := fun t_ ht_ => k5 t_ (o_astoreN X5 hx d23_11 #[Lr eno, Lr ar, Li 3, Lr b5, Lu] rfl rfl (o_aloadN X5 hx d23_12 rfl rfl (o_aloadN X5 hx d23_13 rfl rfl (o_iconst X5 hx d23_14 0 rfl (o_aloadN X5 hx d23_15 rfl rfl (o_len X5 hx hZ d23_16 e5 Va (o_aloadN X5 hx d23_17 rfl rfl ht_)))))))
  obtain ⟨_, T8, Lc8, X8, hQ8, k8⟩ := o_privateM X5 hx hZ k7 yy22 hown (hw 134 rfl) (hw 135 rfl) (hw 137 rfl) (hw 136 rfl) (hw 138 rfl) (rm54 hw eno ar b5 dco iso utf tbd tbe kd ke G1 fm kb c5 B0 B1 B2 B3 B4 B5 v0 v1 v2 v3 v4 v5 v6 v7 r0 r1 r2 r3 r4 r5 r6 r7 y0 y1 h5 n0 Zs5 hG X00 Va V_b5 ne_ar_b5 g_b5 hD hs0 hs1) (hw 111 rfl) 0 od6 [.ref ar, .int 0, .int 2, .ref b5] [] (lenOf pd_9 rfl) hml e5 d23_18
  obtain ⟨rfl, Nq8, K1, V1⟩ := hQ8
  have N8 := Fr.app N3 Nq8
  replace k8 := own_pushR k8
  replace X00 := X00.keep K1 (by simpa using g_b5)
  replace Va := Va.keep K1 (by simpa using ne_ar_b5)
  replace Ex_b5 := Ex_b5.keep K1
  have Zs8 := Nat.le_trans Zs5 K1.1
  replace KK := KK.trans K1 (fun x q => by cases List.mem_singleton.mp q; exact Or.inr sz_b5)
  have k9 := fun t_ ht_ => k8 t_ (o_istore X8 hx d23_21 #[Lr eno, Lr ar, Li 3, Lr b5, Li 3] rfl (o_iload X8 hx d23_23 rfl (o_aloadN X8 hx d23_25 rfl rfl (o_len X8 hx hZ d23_26 rfl V1 (o_icmpYes X8 hx d23_27 (teq (by decide)).1 37 (o_aloadN X8 hx d23_37 rfl rfl ht_))))))
  exact o_retA X8 hx k9 hlk hret rfl d23_38 (by exact ⟨b5, c5, rfl, N8, KK, V1, Ex_b5, sz_b5⟩)
theorem ef_56 (m : MethodId) (x0 x1 : Addr) : entryFrame m #[.ref x0, .ref x1] 3 = mkF m 0 #[Lr x0, Lr x1, Lu] [] := by first | (simp [entryFrame, mkF, argsToLocals, Value.category]; done) | rfl
def Q56 (Z : State) (eno ar dco iso utf tbd tbe : Addr) (kd ke : ClassId) (G1 : Int32) (fm : Value) (kb : ClassId) (B0 B1 B2 B3 B4 B5 v0 v1 v2 v3 v4 v5 v6 v7 r0 r1 r2 r3 r4 r5 r6 r7 y0 y1 : Int32) (h0 : Heap) (n0 : Nat) (v : Option Value) (h : Heap) (L : List Loc) : Prop := ∃ (so cr : Addr) (kc : ClassId), v = some (.ref so) ∧ Fr n0 L ∧ Keep h0 h [] ∧ Exa Z h so "java/lang/String" ∧ Fld Z h so "java/lang/String" "coder" "B" (.int 0) ∧ Fld Z h so "java/lang/String" "value" "[B" (.ref cr) ∧ Arv Z h cr kc .byte (3 : Int32) [.int r0, .int r1, .int r2] (.int 0) ∧ h0.size ≤ so
set_option maxRecDepth 65536 in
set_option maxHeartbeats 40000000 in
theorem rm56 (hw : own_W a0 Z) (eno ar dco iso utf tbd tbe : Addr) (kd ke : ClassId) (G1 : Int32) (fm : Value) (kb : ClassId) (B0 B1 B2 B3 B4 B5 v0 v1 v2 v3 v4 v5 v6 v7 r0 r1 r2 r3 r4 r5 r6 r7 y0 y1 : Int32) (h0 : Heap) (n0 : Nat) (Z0 : n0 ≤ h0.size) (hG : own_G Z dco eno iso utf tbd tbe kd ke G1 fm) (X00 : Old Z n0 h0) (Va : Arv Z h0 ar kb .byte (2 : Int32) [.int y0, .int y1] (.int 0)) (hD : own_D 2 B0 B1 B2 B3 B4 B5 v0 v1 v2 v3 v4 v5 v6 v7 r0 r1 r2 r3 r4 r5 r6 r7) (hs0 : own_SB y0 B0) (hs1 : own_SB y1 B1) :
    own_M l Z yy24 q24 3 (some (.object "java/lang/String")) ⟨3, 3, 15, 48⟩ #[.ref eno, .ref ar] h0 [] (Q56 Z eno ar dco iso utf tbd tbe kd ke G1 fm kb B0 B1 B2 B3 B4 B5 v0 v1 v2 v3 v4 v5 v6 v7 r0 r1 r2 r3 r4 r5 r6 r7 y0 y1 h0 n0) := by
  refine own_body (plainFor_of_name pn_3) ?_
  intro p e s m below meth c s₁ A hx hml hown hnm hlk hret hZ X0 e0 k0
  replace k0 := own_ent (ef_56 m eno ar) k0
  have N0 := Fr.nil n0
  have KK : Keep h0 h0 [] := Keep.refl h0 []
  obtain ⟨sD, sE, eD, eE, fDu, fDm, fEp, fEl, fEu, sI, sU, iu, sTd, sTe, aTd, aTe, sC, gC, sS, fmr⟩ := id hG
  obtain ⟨hq0, hq1, hc0, hc1, hc2, hc3, hc4, hc5, hc6, hc7, hz1, hz2, hz4, hz5⟩ := id hD
  have od1 := eE.ext X00.2
  have k2 := fun t_ ht_ => k0 t_ (o_aloadN X0 hx d24_0 rfl rfl (o_aloadN X0 hx d24_1 rfl rfl ht_))
  obtain ⟨_, T3, Lc3, X3, hQ3, k3⟩ := o_virtualM X0 hx hZ k2 yy23 hown (hw 113 rfl) yy23 (hw 114 rfl) (hw 116 rfl) (hw 115 rfl) rfl (rm55 hw eno ar dco iso utf tbd tbe kd ke G1 fm kb B0 B1 B2 B3 B4 B5 v0 v1 v2 v3 v4 v5 v6 v7 r0 r1 r2 r3 r4 r5 r6 r7 y0 y1 h0 n0 Z0 hG X00 Va hD hs0 hs1) (hw 117 rfl) (hw 111 rfl) 0 od1 [.ref ar] [] (lenOf pd_11 rfl) hml e0 d24_2
  obtain ⟨ds, kc, rfl, Nq3, K1, V1, E1, G1_⟩ := hQ3
  have N3 := Fr.app N0 Nq3
  replace k3 := own_pushR k3
  replace X00 := X00.keep K1 (by simp)
  replace Va := Va.keep K1 (by simp)
  have Zs3 := Nat.le_trans Z0 K1.1
  replace KK := KK.trans K1 (fun x q => nomatch q)
  have k4 := fun t_ ht_ => k3 t_ (o_astoreN X3 hx d24_5 #[Lr eno, Lr ar, Lr ds] rfl rfl ht_)
  obtain ⟨T5, h5, X5, e5, E5, A5, D5, k5⟩ := o_newO X3 hx hZ k4 hown (hw 142 rfl) (hw 10 rfl) (hw 11 rfl) rfl d24_6
  obtain ⟨b5, g5⟩ : ∃ z, z = T3.heap.size := ⟨_, rfl⟩
  rw [← g5] at A5 D5 k5
  have ne_ar_b5 : ar ≠ b5 := Nat.ne_of_lt (Nat.lt_of_lt_of_le Va.lt (Nat.le_of_eq g5.symm))
  have ne_ds_b5 : ds ≠ b5 := Nat.ne_of_lt (Nat.lt_of_lt_of_le V1.lt (Nat.le_of_eq g5.symm))
  have g_b5 : n0 ≤ b5 := Nat.le_trans Zs3 (Nat.le_of_eq g5.symm)
  have sz_b5 : h0.size ≤ b5 := Nat.le_trans KK.1 (Nat.le_of_eq g5.symm)
  replace X00 : Old Z n0 h5 := ⟨X00.1, Nat.le_trans X00.2.1 E5.1, fun x c r => E5.2 x c (X00.2.2 x c r)⟩
  replace Va := Va.ext E5
  replace V1 := V1.ext E5
  replace E1 := E1.ext E5
  have Zs5 := Nat.le_trans Zs3 E5.1
  replace KK := KK.ext E5
  have Ex_b5 := A5
  have F_coder_b5 : Fld Z h5 b5 "java/lang/String" "coder" "B" (.int 0) := D5 (Or.inr (hw 35 rfl)) (ty := .byte) (by decide)
  have F_value_b5 : Fld Z h5 b5 "java/lang/String" "value" "[B" (.null) := D5 (Or.inr (hw 37 rfl)) (ty := (.array .byte)) (by decide)
  have k6 := fun t_ ht_ => k5 t_ (o_dup X5 hx d24_9 rfl (o_aloadN X5 hx d24_10 rfl rfl (o_iconst X5 hx d24_11 0 rfl (o_iconst X5 hx d24_12 0 rfl (o_aloadN X5 hx d24_13 rfl rfl (o_len X5 hx hZ d24_14 e5 V1 ht_))))))
  obtain ⟨_, T7, Lc7, X7, hQ7, k7⟩ := o_specialM X5 hx hZ k6 yy12 rfl hown (hw 143 rfl) (hw 144 rfl) (hw 145 rfl) (rm34 hw b5 ds (3 : Int32) dco eno iso utf tbd tbe kd ke G1 fm kc _ h5 n0 Zs5 hG X00 Ex_b5 F_value_b5 F_coder_b5 V1 E1 (Ne.symm ne_ds_b5) g_b5 own_ln3) (hw 11 rfl) 1 b5 [.ref ds, .int 0, .int 0, .int 3] [.ref b5] (lenOf pd_14 rfl) hml e5 d24_15
  obtain ⟨cr, rfl, Nq7, K2, E2, Fc, Fv, V2, E3, G2⟩ := hQ7
  have N7 := Fr.app N3 Nq7
  replace k7 := own_pushV k7
  have sz_cr : h0.size ≤ cr := Nat.le_trans KK.1 G2
  replace X00 := X00.keep K2 (by simpa using g_b5)
  replace Va := Va.keep K2 (by simpa using ne_ar_b5)
  replace V1 := V1.keep K2 (by simpa using ne_ds_b5)
  replace E1 := E1.keep K2
  replace Ex_b5 := Ex_b5.keep K2
  have Zs7 := Nat.le_trans Zs5 K2.1
  replace KK := KK.trans K2 (fun x q => by cases List.mem_singleton.mp q; exact Or.inr sz_b5)
  exact o_retA X7 hx k7 hlk hret rfl d24_18 (by exact ⟨b5, cr, kc, rfl, N7, KK, E2, Fc, Fv, V2, sz_b5⟩)
theorem ef_57 (m : MethodId) (x0 : Addr) : entryFrame m #[.ref x0] 2 = mkF m 0 #[Lr x0, Lu] [] := by first | (simp [entryFrame, mkF, argsToLocals, Value.category]; done) | rfl
def Q57 (Z : State) (a1 dco eno iso utf tbd tbe : Addr) (kd ke : ClassId) (G1 : Int32) (fm : Value) (ar : Addr) (kb : ClassId) (B0 B1 B2 B3 B4 B5 v0 v1 v2 v3 v4 v5 v6 v7 r0 r1 r2 r3 r4 r5 r6 r7 : Int32) (h0 : Heap) (n0 : Nat) (v : Option Value) (h : Heap) (L : List Loc) : Prop := ∃ (ds : Addr) (kc : ClassId) (y0 y1 : Int32), v = some (.ref ds) ∧ Fr n0 L ∧ Keep h0 h [] ∧ Arv Z h ds kc .byte (2 : Int32) [.int y0, .int y1] (.int 0) ∧ h0.size ≤ ds ∧ own_SB y0 B0 ∧ own_SB y1 B1
set_option maxRecDepth 65536 in
set_option maxHeartbeats 40000000 in
theorem rm57 (hw : own_W a0 Z) (a1 dco eno iso utf tbd tbe : Addr) (kd ke : ClassId) (G1 : Int32) (fm : Value) (ar : Addr) (kb : ClassId) (B0 B1 B2 B3 B4 B5 v0 v1 v2 v3 v4 v5 v6 v7 r0 r1 r2 r3 r4 r5 r6 r7 : Int32) (h0 : Heap) (n0 : Nat) (Z0 : n0 ≤ h0.size) (hG : own_G Z dco eno iso utf tbd tbe kd ke G1 fm) (X00 : Old Z n0 h0) (Es : Exa Z h0 a1 "java/lang/String") (Fc : Fld Z h0 a1 "java/lang/String" "coder" "B" (.int 0)) (Fv : Fld Z h0 a1 "java/lang/String" "value" "[B" (.ref ar)) (Va : Arv Z h0 ar kb .byte (3 : Int32) [.int r0, .int r1, .int r2] (.int 0)) (Ea : Exa Z h0 ar "[B") (hD : own_D 2 B0 B1 B2 B3 B4 B5 v0 v1 v2 v3 v4 v5 v6 v7 r0 r1 r2 r3 r4 r5 r6 r7) :
    own_M l Z yy25 q25 2 (some (.array .byte)) ⟨6, 5, 25, 89⟩ #[.ref a1] h0 [] (Q57 Z a1 dco eno iso utf tbd tbe kd ke G1 fm ar kb B0 B1 B2 B3 B4 B5 v0 v1 v2 v3 v4 v5 v6 v7 r0 r1 r2 r3 r4 r5 r6 r7 h0 n0) := by
  refine own_body (plainFor_of_name pn_7) ?_
  intro p e s m below meth c s₁ A hx hml hown hnm hlk hret hZ X0 e0 k0
  replace k0 := own_ent (ef_57 m a1) k0
  have N0 := Fr.nil n0
  have KK : Keep h0 h0 [] := Keep.refl h0 []
  obtain ⟨sD, sE, eD, eE, fDu, fDm, fEp, fEl, fEu, sI, sU, iu, sTd, sTe, aTd, aTe, sC, gC, sS, fmr⟩ := id hG
  obtain ⟨hq0, hq1, hc0, hc1, hc2, hc3, hc4, hc5, hc6, hc7, hz1, hz2, hz4, hz5⟩ := id hD
  obtain ⟨T1, X1, e1, k1⟩ := o_getS X0 hx hZ k0 hown (host := "") (Or.inl (hw 42 rfl)) Via.refl e0 (sD.ext X00.2) d25_0
  have od2 := eD.ext X00.2
  have k3 := fun t_ ht_ => k1 t_ (o_aloadN X1 hx d25_3 rfl rfl ht_)
  obtain ⟨_, T4, Lc4, X4, hQ4, k4⟩ := o_virtualM X1 hx hZ k3 yy18 hown (hw 44 rfl) yy18 (hw 45 rfl) (hw 47 rfl) (hw 46 rfl) rfl (rm51 hw dco a1 eno iso utf tbd tbe kd ke G1 fm ar kb B0 B1 B2 B3 B4 B5 v0 v1 v2 v3 v4 v5 v6 v7 r0 r1 r2 r3 r4 r5 r6 r7 h0 n0 Z0 hG X00 Es Fc Fv Va Ea hD) (hw 49 rfl) (hw 48 rfl) 0 od2 [.ref a1] [] (lenOf pd_15 rfl) hml e1 d25_4
  obtain ⟨ds, kc, yo0, yo1, rfl, Nq4, K1, V1, G1_, g_ds, sb0, sb1⟩ := hQ4
  have N4 := Fr.app N0 Nq4
  replace k4 := own_pushR k4
  have sz_ds : h0.size ≤ ds := Nat.le_trans KK.1 G1_
  replace X00 := X00.keep K1 (by simp)
  replace Es := Es.keep K1
  replace Fc := Fc.keep K1 (by simp)
  replace Fv := Fv.keep K1 (by simp)
  replace Va := Va.keep K1 (by simp)
  replace Ea := Ea.keep K1
  have Zs4 := Nat.le_trans Z0 K1.1
  replace KK := KK.trans K1 (fun x q => nomatch q)
  have k5 := fun t_ ht_ => k4 t_ (o_astoreN X4 hx d25_7 #[Lr a1, Lr ds] rfl rfl ht_)
  obtain ⟨T6, X6, e6, k6⟩ := o_getS X4 hx hZ k5 hown (host := "") (Or.inl (hw 105 rfl)) Via.refl rfl (sE.ext X00.2) d25_8
  have od7 := eE.ext X00.2
  have k8 := fun t_ ht_ => k6 t_ (o_aloadN X6 hx d25_11 rfl rfl ht_)
  obtain ⟨_, T9, Lc9, X9, hQ9, k9⟩ := o_virtualM X6 hx hZ k8 yy24 hown (hw 107 rfl) yy24 (hw 108 rfl) (hw 110 rfl) (hw 109 rfl) rfl (rm56 hw eno ds dco iso utf tbd tbe kd ke G1 fm kc B0 B1 B2 B3 B4 B5 v0 v1 v2 v3 v4 v5 v6 v7 r0 r1 r2 r3 r4 r5 r6 r7 yo0 yo1 T4.heap n0 Zs4 hG X00 V1 hD sb0 sb1) (hw 112 rfl) (hw 111 rfl) 0 od7 [.ref ds] [] (lenOf pd_16 rfl) hml e6 d25_12
  obtain ⟨so, cr, kc2, rfl, Nq9, K2, E2, Fc2, Fv2, V2, G2⟩ := hQ9
  have N9 := Fr.app N4 Nq9
  replace k9 := own_pushR k9
  have ne_so : so ≠ a1 := Ne.symm (Nat.ne_of_lt (Nat.lt_of_lt_of_le Es.lt G2))
  replace X00 := X00.keep K2 (by simp)
  replace Es := Es.keep K2
  replace Fc := Fc.keep K2 (by simp)
  replace Fv := Fv.keep K2 (by simp)
  replace Va := Va.keep K2 (by simp)
  replace Ea := Ea.keep K2
  replace V1 := V1.keep K2 (by simp)
  have Zs9 := Nat.le_trans Zs4 K2.1
  replace KK := KK.trans K2 (fun x q => nomatch q)
  have k10 := fun t_ ht_ => k9 t_ (o_aloadN X9 hx d25_15 rfl rfl ht_)
  obtain ⟨_, T11, Lc11, X11, hQ11, k11⟩ := o_virtualM X9 hx hZ k10 yy14 hown (hw 160 rfl) yy14 (hw 161 rfl) (hw 163 rfl) (hw 162 rfl) rfl (rm36 hw so a1 dco eno iso utf tbd tbe kd ke G1 fm cr ar kc2 kb (3 : Int32) [r0, r1, r2] T9.heap n0 Zs9 hG X00 E2 Fc2 Fv2 Es Fc Fv V2 Va ne_so) (hw 164 rfl) (hw 11 rfl) 0 E2 [.ref a1] [] (lenOf pd_17 rfl) hml rfl d25_16
  obtain ⟨rfl, Nq11, e11⟩ := hQ11
  have N11 := Fr.app N9 Nq11
  replace k11 := own_pushR k11
  have k12 := fun t_ ht_ => k11 t_ (o_ifYes X11 hx d25_19 ((if0 _ _).trans (feq (by decide)).2) 32 (o_aloadN X11 hx d25_32 rfl rfl ht_))
  exact o_retA X11 hx k12 hlk hret rfl d25_33 (by rw [e11]; exact ⟨ds, kc, yo0, yo1, rfl, N11, KK, V1, sz_ds, sb0, sb1⟩)
theorem ef_58 (m : MethodId) (x0 x1 : Addr) (x2 x3 : Int32) : entryFrame m #[.ref x0, .ref x1, .int x2, .int x3] 9 = mkF m 0 #[Lr x0, Lr x1, Li x2, Li x3, Lu, Lu, Lu, Lu, Lu] [] := by first | (simp [entryFrame, mkF, argsToLocals, Value.category]; done) | rfl
def Q58 (Z : State) (dco ar eno iso utf tbd tbe : Addr) (kd ke : ClassId) (G1 : Int32) (fm : Value) (kb : ClassId) (B0 B1 B2 B3 B4 B5 v0 v1 v2 v3 v4 v5 v6 v7 r0 r1 r2 r3 r4 r5 r6 r7 : Int32) (h0 : Heap) (n0 : Nat) (v : Option Value) (h : Heap) (L : List Loc) : Prop := v = some (.int (3 : Int32)) ∧ Fr n0 L ∧ h = h0
set_option maxRecDepth 65536 in
set_option maxHeartbeats 40000000 in
theorem rm58 (hw : own_W a0 Z) (dco ar eno iso utf tbd tbe : Addr) (kd ke : ClassId) (G1 : Int32) (fm : Value) (kb : ClassId) (B0 B1 B2 B3 B4 B5 v0 v1 v2 v3 v4 v5 v6 v7 r0 r1 r2 r3 r4 r5 r6 r7 : Int32) (h0 : Heap) (n0 : Nat) (Z0 : n0 ≤ h0.size) (hG : own_G Z dco eno iso utf tbd tbe kd ke G1 fm) (X00 : Old Z n0 h0) (Va : Arv Z h0 ar kb .byte (4 : Int32) [.int r0, .int r1, .int r2, .int r3] (.int 0)) (hD : own_D 3 B0 B1 B2 B3 B4 B5 v0 v1 v2 v3 v4 v5 v6 v7 r0 r1 r2 r3 r4 r5 r6 r7) :
    own_M l Z yy15 q15 9 (some .int) ⟨0, 0, 0, 0⟩ #[.ref dco, .ref ar, .int 0, .int 4] h0 [] (Q58 Z dco ar eno iso utf tbd tbe kd ke G1 fm kb B0 B1 B2 B3 B4 B5 v0 v1 v2 v3 v4 v5 v6 v7 r0 r1 r2 r3 r4 r5 r6 r7 h0 n0) := by
  refine own_body (plainFor_of_name pn_2) ?_
  intro p e s m below meth c s₁ A hx hml hown hnm hlk hret hZ X0 e0 k0
  replace k0 := own_ent (ef_58 m dco ar 0 4) k0
  have N0 := Fr.nil n0
  obtain ⟨sD, sE, eD, eE, fDu, fDm, fEp, fEl, fEu, sI, sU, iu, sTd, sTe, aTd, aTe, sC, gC, sS, fmr⟩ := id hG
  obtain ⟨hq0, hq1, hc0, hc1, hc2, hc3, hc4, hc5, hc6, hc7, hz1, hz2, hz4, hz5⟩ := id hD
  have od1 := fDu.ext X00.2
  have k2 := fun t_ ht_ => k0 t_ (o_aloadN X0 hx d15_0 rfl rfl ht_)
  obtain ⟨T3, X3, e3, k3⟩ := o_getF X0 hx hZ k2 hown (host := "") (Or.inl (hw 93 rfl)) Via.refl e0 od1 d15_1
  have k4 := fun t_ ht_ => k3 t_ (o_ifNo X3 hx d15_4 ((if0 _ _).trans (feq (by decide)).1) ht_)
  obtain ⟨T5, X5, e5, k5⟩ := o_getS X3 hx hZ k4 hown (host := "") (Or.inl (hw 95 rfl)) Via.refl e3 (sTd.ext X00.2) d15_7
  have od6 := fDm.ext X00.2
  have k7 := fun t_ ht_ => k5 t_ (o_goto X5 hx d15_10 16 (o_astore X5 hx d15_16 #[Lr dco, Lr ar, Li 0, Li 4, Lr tbd, Lu, Lu, Lu, Lu] rfl rfl (o_iconst X5 hx d15_18 0 rfl (o_istore X5 hx d15_19 #[Lr dco, Lr ar, Li 0, Li 4, Lr tbd, Li 0, Lu, Lu, Lu] rfl (o_iloadN X5 hx d15_21 rfl (o_iloadN X5 hx d15_22 rfl (o_isub X5 hx d15_23 (rfl : _ = (4 : Int32)) (o_istore X5 hx d15_24 #[Lr dco, Lr ar, Li 0, Li 4, Lr tbd, Li 0, Li 4, Lu, Lu] rfl (o_iload X5 hx d15_26 rfl (o_ifYes X5 hx d15_28 ((if0 _ _).trans (feq (by decide)).2) 33 (o_iload X5 hx d15_33 rfl (o_iconst X5 hx d15_35 2 rfl (o_icmpYes X5 hx d15_36 (flt (by decide)).2.1 66 (o_aloadN X5 hx d15_66 rfl rfl ht_))))))))))))))
  obtain ⟨T8, X8, e8, k8⟩ := o_getF X5 hx hZ k7 hown (host := "") (Or.inl (hw 96 rfl)) Via.refl e5 od6 d15_67
  have k9 := fun t_ ht_ => k8 t_ (o_ifYes X8 hx d15_70 ((if0 _ _).trans (teq (by decide)).1) 141 (o_aloadN X8 hx d15_141 rfl rfl (o_iloadN X8 hx d15_142 rfl (o_iconst X8 hx d15_143 1 rfl (o_isub X8 hx d15_144 (rfl : _ = (3 : Int32)) (o_ldB X8 hx hZ d15_145 e8 Va ⟨by decide, by decide⟩ (rfl : _ = Value.int r3) (o_bipush X8 hx d15_146 61 rfl (o_icmpYes X8 hx d15_148 (feq (own_r61 hc3)).2 167 (o_iload X8 hx d15_167 rfl (o_ifNo X8 hx d15_169 ((if0 _ _).trans (teq (by decide)).2) (o_iload X8 hx d15_172 rfl (o_iconst X8 hx d15_174 3 rfl (o_iand X8 hx d15_175 (rfl : _ = (0 : Int32)) (o_ifYes X8 hx d15_176 ((if0 _ _).trans (teq (by decide)).1) 187 (o_iconst X8 hx d15_187 3 rfl (o_iload X8 hx d15_188 rfl (o_i2l X8 hx d15_190 (o_ldc2Long X8 hx d15_191 hown (mvT hZ (hw 98 rfl)) (o_ladd X8 hx d15_194 rfl (o_ldc2Long X8 hx d15_195 hown (mvT hZ (hw 99 rfl)) (o_ldiv X8 hx d15_198 (by decide) (o_l2i X8 hx d15_199 (o_imul X8 hx d15_200 rfl (o_iload X8 hx d15_201 rfl (o_isub X8 hx d15_203 rfl ht_)))))))))))))))))))))))))
  exact o_retI X8 hx k9 hlk hret d15_204 (by rw [e8]; exact ⟨congrArg (fun z => some (Value.int z)) (show (((3 : Int32) * (((((4 : Int32).toInt64) + (3 : Int64)) / (4 : Int64)).toInt32)) - (0 : Int32)) = (3 : Int32) from by decide), N0, rfl⟩)
theorem ef_59 (m : MethodId) (x0 x1 : Addr) (x2 x3 : Int32) (x4 : Addr) : entryFrame m #[.ref x0, .ref x1, .int x2, .int x3, .ref x4] 11 = mkF m 0 #[Lr x0, Lr x1, Li x2, Li x3, Lr x4, Lu, Lu, Lu, Lu, Lu, Lu] [] := by first | (simp [entryFrame, mkF, argsToLocals, Value.category]; done) | rfl
def Q59 (Z : State) (dco ar ds eno iso utf tbd tbe : Addr) (kd ke : ClassId) (G1 : Int32) (fm : Value) (kb kc : ClassId) (B0 B1 B2 B3 B4 B5 v0 v1 v2 v3 v4 v5 v6 v7 r0 r1 r2 r3 r4 r5 r6 r7 : Int32) (h0 : Heap) (n0 : Nat) (v : Option Value) (h : Heap) (L : List Loc) : Prop := ∃ (y0 y1 y2 : Int32), v = some (.int (3 : Int32)) ∧ Fr n0 L ∧ Keep h0 h [ds] ∧ Arv Z h ds kc .byte (3 : Int32) [.int y0, .int y1, .int y2] (.int 0) ∧ own_SB y0 B0 ∧ own_SB y1 B1 ∧ own_SB y2 B2
set_option maxRecDepth 65536 in
set_option maxHeartbeats 40000000 in
theorem rm59 (hw : own_W a0 Z) (dco ar ds eno iso utf tbd tbe : Addr) (kd ke : ClassId) (G1 : Int32) (fm : Value) (kb kc : ClassId) (B0 B1 B2 B3 B4 B5 v0 v1 v2 v3 v4 v5 v6 v7 r0 r1 r2 r3 r4 r5 r6 r7 : Int32) (h0 : Heap) (n0 : Nat) (Z0 : n0 ≤ h0.size) (hG : own_G Z dco eno iso utf tbd tbe kd ke G1 fm) (X00 : Old Z n0 h0) (Va : Arv Z h0 ar kb .byte (4 : Int32) [.int r0, .int r1, .int r2, .int r3] (.int 0)) (Vd : Arv Z h0 ds kc .byte (3 : Int32) [.int (0 : Int32), .int (0 : Int32), .int (0 : Int32)] (.int 0)) (hne : ar ≠ ds) (g_ds : n0 ≤ ds) (hD : own_D 3 B0 B1 B2 B3 B4 B5 v0 v1 v2 v3 v4 v5 v6 v7 r0 r1 r2 r3 r4 r5 r6 r7) :
    own_M l Z yy16 q16 11 (some .int) ⟨0, 0, 0, 0⟩ #[.ref dco, .ref ar, .int 0, .int 4, .ref ds] h0 [] (Q59 Z dco ar ds eno iso utf tbd tbe kd ke G1 fm kb kc B0 B1 B2 B3 B4 B5 v0 v1 v2 v3 v4 v5 v6 v7 r0 r1 r2 r3 r4 r5 r6 r7 h0 n0) := by
  refine own_body (plainFor_of_name pn_2) ?_
  intro p e s m below meth c s₁ A hx hml hown hnm hlk hret hZ X0 e0 k0
  replace k0 := own_ent (ef_59 m dco ar 0 4 ds) k0
  have N0 := Fr.nil n0
  have KK : Keep h0 h0 [ds] := Keep.refl h0 [ds]
  obtain ⟨sD, sE, eD, eE, fDu, fDm, fEp, fEl, fEu, sI, sU, iu, sTd, sTe, aTd, aTe, sC, gC, sS, fmr⟩ := id hG
  obtain ⟨hq0, hq1, hc0, hc1, hc2, hc3, hc4, hc5, hc6, hc7, hz1, hz2, hz4, hz5⟩ := id hD
  have od1 := fDu.ext X00.2
  have k2 := fun t_ ht_ => k0 t_ (o_aloadN X0 hx d16_0 rfl rfl ht_)
  obtain ⟨T3, X3, e3, k3⟩ := o_getF X0 hx hZ k2 hown (host := "") (Or.inl (hw 93 rfl)) Via.refl e0 od1 d16_1
  have k4 := fun t_ ht_ => k3 t_ (o_ifNo X3 hx d16_4 ((if0 _ _).trans (feq (by decide)).1) ht_)
  obtain ⟨T5, X5, e5, k5⟩ := o_getS X3 hx hZ k4 hown (host := "") (Or.inl (hw 95 rfl)) Via.refl e3 (sTd.ext X00.2) d16_7
  have k6 := fun t_ ht_ => k5 t_ (o_goto X5 hx d16_10 16 (o_astore X5 hx d16_16 #[Lr dco, Lr ar, Li 0, Li 4, Lr ds, Lr tbd, Lu, Lu, Lu, Lu, Lu] rfl rfl (o_iconst X5 hx d16_18 0 rfl (o_istore X5 hx d16_19 #[Lr dco, Lr ar, Li 0, Li 4, Lr ds, Lr tbd, Li 0, Lu, Lu, Lu, Lu] rfl (o_iconst X5 hx d16_21 0 rfl (o_istore X5 hx d16_22 #[Lr dco, Lr ar, Li 0, Li 4, Lr ds, Lr tbd, Li 0, Li 0, Lu, Lu, Lu] rfl (o_bipush X5 hx d16_24 18 rfl (o_istore X5 hx d16_26 #[Lr dco, Lr ar, Li 0, Li 4, Lr ds, Lr tbd, Li 0, Li 0, Li 18, Lu, Lu] rfl (o_iloadN X5 hx d16_28 rfl (o_iloadN X5 hx d16_29 rfl (o_icmpNo X5 hx d16_30 (tlt (by decide)).2.1 (o_iload X5 hx d16_33 rfl (o_bipush X5 hx d16_35 18 rfl (o_icmpNo X5 hx d16_37 (teq (by decide)).2 (o_iloadN X5 hx d16_40 rfl (o_iloadN X5 hx d16_41 rfl (o_iconst X5 hx d16_42 4 rfl (o_isub X5 hx d16_43 (rfl : _ = (0 : Int32)) (o_icmpYes X5 hx d16_44 (flt (by decide)).2.1 90 (o_iloadN X5 hx d16_90 rfl (o_iloadN X5 hx d16_91 rfl (o_icmpYes X5 hx d16_92 (tlt (by decide)).1 98 (o_aloadN X5 hx d16_98 rfl rfl (o_iloadN X5 hx d16_99 rfl (o_iinc X5 hx d16_100 #[Lr dco, Lr ar, Li 1, Li 4, Lr ds, Lr tbd, Li 0, Li 0, Li 18, Lu, Lu] rfl rfl (o_ldB X5 hx hZ d16_103 e5 Va ⟨by decide, by decide⟩ (rfl : _ = Value.int r0) (o_sipush X5 hx d16_104 255 rfl (o_iand X5 hx d16_107 rfl ht_))))))))))))))))))))))))))))
  rw [own_r255 hc0] at k6
  have od7 := aTd.ext X00.2
  have k8 := fun t_ ht_ => k6 t_ (o_istore X5 hx d16_108 #[Lr dco, Lr ar, Li 1, Li 4, Lr ds, Lr tbd, Li 0, Li 0, Li 18, Li r0, Lu] rfl (o_aload X5 hx d16_110 rfl rfl (o_iload X5 hx d16_112 rfl (o_ldI X5 hx hZ d16_114 e5 od7 (own_i256 hc0) (own_tabD_at hc0) (o_dup X5 hx d16_115 rfl (o_istore X5 hx d16_116 #[Lr dco, Lr ar, Li 1, Li 4, Lr ds, Lr tbd, Li 0, Li 0, Li 18, Li v0, Lu] rfl (o_ifYes X5 hx d16_118 ((if0 _ _).trans (flt (own_v0 hc0)).2.1) 214 (o_iload X5 hx d16_214 rfl (o_iload X5 hx d16_216 rfl (o_iload X5 hx d16_218 rfl (o_ishl X5 hx d16_220 (o_ior X5 hx d16_221 rfl (o_istore X5 hx d16_222 #[Lr dco, Lr ar, Li 1, Li 4, Lr ds, Lr tbd, Li 0, Li ((0 : Int32) ||| (v0 <<< ((18 : Int32) &&& 31))), Li 18, Li v0, Lu] rfl (o_iinc X5 hx d16_224 #[Lr dco, Lr ar, Li 1, Li 4, Lr ds, Lr tbd, Li 0, Li ((0 : Int32) ||| (v0 <<< ((18 : Int32) &&& 31))), Li 12, Li v0, Lu] rfl rfl (o_iload X5 hx d16_227 rfl (o_ifYes X5 hx d16_229 ((if0 _ _).trans (flt (by decide)).2.1) 278 (o_goto X5 hx d16_278 28 (o_iloadN X5 hx d16_28 rfl (o_iloadN X5 hx d16_29 rfl (o_icmpNo X5 hx d16_30 (tlt (by decide)).2.1 (o_iload X5 hx d16_33 rfl (o_bipush X5 hx d16_35 18 rfl (o_icmpYes X5 hx d16_37 (feq (by decide)).2 90 (o_iloadN X5 hx d16_90 rfl (o_iloadN X5 hx d16_91 rfl (o_icmpYes X5 hx d16_92 (tlt (by decide)).1 98 (o_aloadN X5 hx d16_98 rfl rfl (o_iloadN X5 hx d16_99 rfl (o_iinc X5 hx d16_100 #[Lr dco, Lr ar, Li 2, Li 4, Lr ds, Lr tbd, Li 0, Li ((0 : Int32) ||| (v0 <<< ((18 : Int32) &&& 31))), Li 12, Li v0, Lu] rfl rfl (o_ldB X5 hx hZ d16_103 e5 Va ⟨by decide, by decide⟩ (rfl : _ = Value.int r1) (o_sipush X5 hx d16_104 255 rfl (o_iand X5 hx d16_107 rfl ht_))))))))))))))))))))))))))))))))
  rw [own_r255 hc1] at k8
  have k9 := fun t_ ht_ => k8 t_ (o_istore X5 hx d16_108 #[Lr dco, Lr ar, Li 2, Li 4, Lr ds, Lr tbd, Li 0, Li ((0 : Int32) ||| (v0 <<< ((18 : Int32) &&& 31))), Li 12, Li r1, Lu] rfl (o_aload X5 hx d16_110 rfl rfl (o_iload X5 hx d16_112 rfl (o_ldI X5 hx hZ d16_114 e5 od7 (own_i256 hc1) (own_tabD_at hc1) (o_dup X5 hx d16_115 rfl (o_istore X5 hx d16_116 #[Lr dco, Lr ar, Li 2, Li 4, Lr ds, Lr tbd, Li 0, Li ((0 : Int32) ||| (v0 <<< ((18 : Int32) &&& 31))), Li 12, Li v1, Lu] rfl (o_ifYes X5 hx d16_118 ((if0 _ _).trans (flt (own_v0 hc1)).2.1) 214 (o_iload X5 hx d16_214 rfl (o_iload X5 hx d16_216 rfl (o_iload X5 hx d16_218 rfl (o_ishl X5 hx d16_220 (o_ior X5 hx d16_221 rfl (o_istore X5 hx d16_222 #[Lr dco, Lr ar, Li 2, Li 4, Lr ds, Lr tbd, Li 0, Li (((0 : Int32) ||| (v0 <<< ((18 : Int32) &&& 31))) ||| (v1 <<< ((12 : Int32) &&& 31))), Li 12, Li v1, Lu] rfl (o_iinc X5 hx d16_224 #[Lr dco, Lr ar, Li 2, Li 4, Lr ds, Lr tbd, Li 0, Li (((0 : Int32) ||| (v0 <<< ((18 : Int32) &&& 31))) ||| (v1 <<< ((12 : Int32) &&& 31))), Li 6, Li v1, Lu] rfl rfl (o_iload X5 hx d16_227 rfl (o_ifYes X5 hx d16_229 ((if0 _ _).trans (flt (by decide)).2.1) 278 (o_goto X5 hx d16_278 28 (o_iloadN X5 hx d16_28 rfl (o_iloadN X5 hx d16_29 rfl (o_icmpNo X5 hx d16_30 (tlt (by decide)).2.1 (o_iload X5 hx d16_33 rfl (o_bipush X5 hx d16_35 18 rfl (o_icmpYes X5 hx d16_37 (feq (by decide)).2 90 (o_iloadN X5 hx d16_90 rfl (o_iloadN X5 hx d16_91 rfl (o_icmpYes X5 hx d16_92 (tlt (by decide)).1 98 (o_aloadN X5 hx d16_98 rfl rfl (o_iloadN X5 hx d16_99 rfl (o_iinc X5 hx d16_100 #[Lr dco, Lr ar, Li 3, Li 4, Lr ds, Lr tbd, Li 0, Li (((0 : Int32) ||| (v0 <<< ((18 : Int32) &&& 31))) ||| (v1 <<< ((12 : Int32) &&& 31))), Li 6, Li v1, Lu] rfl rfl (o_ldB X5 hx hZ d16_103 e5 Va ⟨by decide, by decide⟩ (rfl : _ = Value.int r2) (o_sipush X5 hx d16_104 255 rfl (o_iand X5 hx d16_107 rfl ht_))))))))))))))))))))))))))))))))
  rw [own_r255 hc2] at k9
  have k10 := fun t_ ht_ => k9 t_ (o_istore X5 hx d16_108 #[Lr dco, Lr ar, Li 3, Li 4, Lr ds, Lr tbd, Li 0, Li (((0 : Int32) ||| (v0 <<< ((18 : Int32) &&& 31))) ||| (v1 <<< ((12 : Int32) &&& 31))), Li 6, Li r2, Lu] rfl (o_aload X5 hx d16_110 rfl rfl (o_iload X5 hx d16_112 rfl (o_ldI X5 hx hZ d16_114 e5 od7 (own_i256 hc2) (own_tabD_at hc2) (o_dup X5 hx d16_115 rfl (o_istore X5 hx d16_116 #[Lr dco, Lr ar, Li 3, Li 4, Lr ds, Lr tbd, Li 0, Li (((0 : Int32) ||| (v0 <<< ((18 : Int32) &&& 31))) ||| (v1 <<< ((12 : Int32) &&& 31))), Li 6, Li v2, Lu] rfl (o_ifYes X5 hx d16_118 ((if0 _ _).trans (flt (own_v0 hc2)).2.1) 214 (o_iload X5 hx d16_214 rfl (o_iload X5 hx d16_216 rfl (o_iload X5 hx d16_218 rfl (o_ishl X5 hx d16_220 (o_ior X5 hx d16_221 rfl (o_istore X5 hx d16_222 #[Lr dco, Lr ar, Li 3, Li 4, Lr ds, Lr tbd, Li 0, Li ((((0 : Int32) ||| (v0 <<< ((18 : Int32) &&& 31))) ||| (v1 <<< ((12 : Int32) &&& 31))) ||| (v2 <<< ((6 : Int32) &&& 31))), Li 6, Li v2, Lu] rfl (o_iinc X5 hx d16_224 #[Lr dco, Lr ar, Li 3, Li 4, Lr ds, Lr tbd, Li 0, Li ((((0 : Int32) ||| (v0 <<< ((18 : Int32) &&& 31))) ||| (v1 <<< ((12 : Int32) &&& 31))) ||| (v2 <<< ((6 : Int32) &&& 31))), Li 0, Li v2, Lu] rfl rfl (o_iload X5 hx d16_227 rfl (o_ifYes X5 hx d16_229 ((if0 _ _).trans (flt (by decide)).2.1) 278 (o_goto X5 hx d16_278 28 (o_iloadN X5 hx d16_28 rfl (o_iloadN X5 hx d16_29 rfl (o_icmpNo X5 hx d16_30 (tlt (by decide)).2.1 (o_iload X5 hx d16_33 rfl (o_bipush X5 hx d16_35 18 rfl (o_icmpYes X5 hx d16_37 (feq (by decide)).2 90 (o_iloadN X5 hx d16_90 rfl (o_iloadN X5 hx d16_91 rfl (o_icmpYes X5 hx d16_92 (tlt (by decide)).1 98 (o_aloadN X5 hx d16_98 rfl rfl (o_iloadN X5 hx d16_99 rfl (o_iinc X5 hx d16_100 #[Lr dco, Lr ar, Li 4, Li 4, Lr ds, Lr tbd, Li 0, Li ((((0 : Int32) ||| (v0 <<< ((18 : Int32) &&& 31))) ||| (v1 <<< ((12 : Int32) &&& 31))) ||| (v2 <<< ((6 : Int32) &&& 31))), Li 0, Li v2, Lu] rfl rfl (o_ldB X5 hx hZ d16_103 e5 Va ⟨by decide, by decide⟩ (rfl : _ = Value.int r3) (o_sipush X5 hx d16_104 255 rfl (o_iand X5 hx d16_107 rfl ht_))))))))))))))))))))))))))))))))
  rw [own_r255 hc3] at k10
  have k11 := fun t_ ht_ => k10 t_ (o_istore X5 hx d16_108 #[Lr dco, Lr ar, Li 4, Li 4, Lr ds, Lr tbd, Li 0, Li ((((0 : Int32) ||| (v0 <<< ((18 : Int32) &&& 31))) ||| (v1 <<< ((12 : Int32) &&& 31))) ||| (v2 <<< ((6 : Int32) &&& 31))), Li 0, Li r3, Lu] rfl (o_aload X5 hx d16_110 rfl rfl (o_iload X5 hx d16_112 rfl (o_ldI X5 hx hZ d16_114 e5 od7 (own_i256 hc3) (own_tabD_at hc3) (o_dup X5 hx d16_115 rfl (o_istore X5 hx d16_116 #[Lr dco, Lr ar, Li 4, Li 4, Lr ds, Lr tbd, Li 0, Li ((((0 : Int32) ||| (v0 <<< ((18 : Int32) &&& 31))) ||| (v1 <<< ((12 : Int32) &&& 31))) ||| (v2 <<< ((6 : Int32) &&& 31))), Li 0, Li v3, Lu] rfl (o_ifYes X5 hx d16_118 ((if0 _ _).trans (flt (own_v0 hc3)).2.1) 214 (o_iload X5 hx d16_214 rfl (o_iload X5 hx d16_216 rfl (o_iload X5 hx d16_218 rfl (o_ishl X5 hx d16_220 (o_ior X5 hx d16_221 rfl (o_istore X5 hx d16_222 #[Lr dco, Lr ar, Li 4, Li 4, Lr ds, Lr tbd, Li 0, Li (((((0 : Int32) ||| (v0 <<< ((18 : Int32) &&& 31))) ||| (v1 <<< ((12 : Int32) &&& 31))) ||| (v2 <<< ((6 : Int32) &&& 31))) ||| (v3 <<< ((0 : Int32) &&& 31))), Li 0, Li v3, Lu] rfl (o_iinc X5 hx d16_224 #[Lr dco, Lr ar, Li 4, Li 4, Lr ds, Lr tbd, Li 0, Li (((((0 : Int32) ||| (v0 <<< ((18 : Int32) &&& 31))) ||| (v1 <<< ((12 : Int32) &&& 31))) ||| (v2 <<< ((6 : Int32) &&& 31))) ||| (v3 <<< ((0 : Int32) &&& 31))), Li (-6), Li v3, Lu] rfl rfl (o_iload X5 hx d16_227 rfl (o_ifNo X5 hx d16_229 ((if0 _ _).trans (tlt (by decide)).2.1) ht_))))))))))))))))
  obtain ⟨bt0, hbt0⟩ : ∃ z : Int32, z = (((((0 : Int32) ||| (v0 <<< ((18 : Int32) &&& 31))) ||| (v1 <<< ((12 : Int32) &&& 31))) ||| (v2 <<< ((6 : Int32) &&& 31))) ||| (v3 <<< ((0 : Int32) &&& 31))) := ⟨_, rfl⟩
  rw [← hbt0] at k11
  have k12 := fun t_ ht_ => k11 t_ (o_aload X5 hx d16_232 rfl rfl (o_iload X5 hx d16_234 rfl (o_iinc X5 hx d16_236 #[Lr dco, Lr ar, Li 4, Li 4, Lr ds, Lr tbd, Li 1, Li bt0, Li (-6), Li v3, Lu] rfl rfl (o_iload X5 hx d16_239 rfl (o_bipush X5 hx d16_241 16 rfl (o_ishr X5 hx d16_243 (o_i2b X5 hx d16_244 ht_)))))))
  obtain ⟨yy0, hyy0⟩ : ∃ z : Int32, z = ((bt0 >>> ((16 : Int32) &&& 31)).toInt8.toInt32) := ⟨_, rfl⟩
  rw [← hyy0] at k12
  have sb0 := own_W0 hq0 hc0 hc1 hc2 hc3 hbt0 hyy0
  obtain ⟨T13, h13, X13, e13, W13, Vd, k13⟩ := o_stB X5 hx hZ k12 e5 Vd 0 [.int (nar .byte yy0), .int 0, .int 0] d16_245
  replace X00 := X00.wr W13 g_ds
  replace Va := Va.other W13 hne
  have Zs13 := Nat.le_trans Z0 (Keep.of_wr W13).1
  replace KK := KK.wr W13 (Or.inl (by simp))
  have N13 := Fr.snoc X13 N0 g_ds
  have k14 := fun t_ ht_ => k13 t_ (o_aload X13 hx d16_246 rfl rfl (o_iload X13 hx d16_248 rfl (o_iinc X13 hx d16_250 #[Lr dco, Lr ar, Li 4, Li 4, Lr ds, Lr tbd, Li 2, Li bt0, Li (-6), Li v3, Lu] rfl rfl (o_iload X13 hx d16_253 rfl (o_bipush X13 hx d16_255 8 rfl (o_ishr X13 hx d16_257 (o_i2b X13 hx d16_258 ht_)))))))
  obtain ⟨yy1, hyy1⟩ : ∃ z : Int32, z = ((bt0 >>> ((8 : Int32) &&& 31)).toInt8.toInt32) := ⟨_, rfl⟩
  rw [← hyy1] at k14
  have sb1 := own_W1 hq0 hc0 hc1 hc2 hc3 hbt0 hyy1
  obtain ⟨T15, h15, X15, e15, W15, Vd, k15⟩ := o_stB X13 hx hZ k14 e13 Vd 1 [.int (nar .byte yy0), .int (nar .byte yy1), .int 0] d16_259
  replace X00 := X00.wr W15 g_ds
  replace Va := Va.other W15 hne
  have Zs15 := Nat.le_trans Zs13 (Keep.of_wr W15).1
  replace KK := KK.wr W15 (Or.inl (by simp))
  have N15 := Fr.snoc X15 N13 g_ds
  have k16 := fun t_ ht_ => k15 t_ (o_aload X15 hx d16_260 rfl rfl (o_iload X15 hx d16_262 rfl (o_iinc X15 hx d16_264 #[Lr dco, Lr ar, Li 4, Li 4, Lr ds, Lr tbd, Li 3, Li bt0, Li (-6), Li v3, Lu] rfl rfl (o_iload X15 hx d16_267 rfl (o_i2b X15 hx d16_269 ht_)))))
  obtain ⟨yy2, hyy2⟩ : ∃ z : Int32, z = (bt0.toInt8.toInt32) := ⟨_, rfl⟩
  rw [← hyy2] at k16
  have sb2 := own_W2 hq0 hc0 hc1 hc2 hc3 hbt0 hyy2
  obtain ⟨T17, h17, X17, e17, W17, Vd, k17⟩ := o_stB X15 hx hZ k16 e15 Vd 2 [.int (nar .byte yy0), .int (nar .byte yy1), .int (nar .byte yy2)] d16_270
  replace X00 := X00.wr W17 g_ds
  replace Va := Va.other W17 hne
  have Zs17 := Nat.le_trans Zs15 (Keep.of_wr W17).1
  replace KK := KK.wr W17 (Or.inl (by simp))
  have N17 := Fr.snoc X17 N15 g_ds
  have k18 := fun t_ ht_ => k17 t_ (o_bipush X17 hx d16_271 18 rfl (o_istore X17 hx d16_273 #[Lr dco, Lr ar, Li 4, Li 4, Lr ds, Lr tbd, Li 3, Li bt0, Li 18, Li v3, Lu] rfl (o_iconst X17 hx d16_275 0 rfl (o_istore X17 hx d16_276 #[Lr dco, Lr ar, Li 4, Li 4, Lr ds, Lr tbd, Li 3, Li 0, Li 18, Li v3, Lu] rfl (o_goto X17 hx d16_278 28 (o_iloadN X17 hx d16_28 rfl (o_iloadN X17 hx d16_29 rfl (o_icmpYes X17 hx d16_30 (flt (by decide)).2.1 281 (o_iload X17 hx d16_281 rfl (o_bipush X17 hx d16_283 6 rfl (o_icmpYes X17 hx d16_285 (feq (by decide)).2 305 (o_iload X17 hx d16_305 rfl (o_ifYes X17 hx d16_307 ((if0 _ _).trans (feq (by decide)).2) 341 (o_iload X17 hx d16_341 rfl (o_bipush X17 hx d16_343 12 rfl (o_icmpYes X17 hx d16_345 (feq (by decide)).2 358 (o_iloadN X17 hx d16_358 rfl (o_iloadN X17 hx d16_359 rfl (o_icmpYes X17 hx d16_360 (flt (by decide)).2.1 416 (o_iload X17 hx d16_416 rfl ht_))))))))))))))))))))
  exact o_retI X17 hx k18 hlk hret d16_418 (by rw [e17]; exact ⟨(nar .byte yy0), (nar .byte yy1), (nar .byte yy2), rfl, N17, KK, Vd, sb0, sb1, sb2⟩)
theorem ef_60 (m : MethodId) (x0 x1 : Addr) : entryFrame m #[.ref x0, .ref x1] 4 = mkF m 0 #[Lr x0, Lr x1, Lu, Lu] [] := by first | (simp [entryFrame, mkF, argsToLocals, Value.category]; done) | rfl
def Q60 (Z : State) (dco ar eno iso utf tbd tbe : Addr) (kd ke : ClassId) (G1 : Int32) (fm : Value) (kb : ClassId) (B0 B1 B2 B3 B4 B5 v0 v1 v2 v3 v4 v5 v6 v7 r0 r1 r2 r3 r4 r5 r6 r7 : Int32) (h0 : Heap) (n0 : Nat) (v : Option Value) (h : Heap) (L : List Loc) : Prop := ∃ (ds : Addr) (kc : ClassId) (y0 y1 y2 : Int32), v = some (.ref ds) ∧ Fr n0 L ∧ Keep h0 h [] ∧ Arv Z h ds kc .byte (3 : Int32) [.int y0, .int y1, .int y2] (.int 0) ∧ h0.size ≤ ds ∧ n0 ≤ ds ∧ own_SB y0 B0 ∧ own_SB y1 B1 ∧ own_SB y2 B2
set_option maxRecDepth 65536 in
set_option maxHeartbeats 40000000 in
theorem rm60 (hw : own_W a0 Z) (dco ar eno iso utf tbd tbe : Addr) (kd ke : ClassId) (G1 : Int32) (fm : Value) (kb : ClassId) (B0 B1 B2 B3 B4 B5 v0 v1 v2 v3 v4 v5 v6 v7 r0 r1 r2 r3 r4 r5 r6 r7 : Int32) (h0 : Heap) (n0 : Nat) (Z0 : n0 ≤ h0.size) (hG : own_G Z dco eno iso utf tbd tbe kd ke G1 fm) (X00 : Old Z n0 h0) (Va : Arv Z h0 ar kb .byte (4 : Int32) [.int r0, .int r1, .int r2, .int r3] (.int 0)) (hD : own_D 3 B0 B1 B2 B3 B4 B5 v0 v1 v2 v3 v4 v5 v6 v7 r0 r1 r2 r3 r4 r5 r6 r7) :
    own_M l Z yy17 q17 4 (some (.array .byte)) ⟨1, 1, 3, 22⟩ #[.ref dco, .ref ar] h0 [] (Q60 Z dco ar eno iso utf tbd tbe kd ke G1 fm kb B0 B1 B2 B3 B4 B5 v0 v1 v2 v3 v4 v5 v6 v7 r0 r1 r2 r3 r4 r5 r6 r7 h0 n0) := by
  refine own_body (plainFor_of_name pn_2) ?_
  intro p e s m below meth c s₁ A hx hml hown hnm hlk hret hZ X0 e0 k0
  replace k0 := own_ent (ef_60 m dco ar) k0
  have N0 := Fr.nil n0
  have KK : Keep h0 h0 [] := Keep.refl h0 []
  obtain ⟨sD, sE, eD, eE, fDu, fDm, fEp, fEl, fEu, sI, sU, iu, sTd, sTe, aTd, aTe, sC, gC, sS, fmr⟩ := id hG
  obtain ⟨hq0, hq1, hc0, hc1, hc2, hc3, hc4, hc5, hc6, hc7, hz1, hz2, hz4, hz5⟩ := id hD
  have od1 := eD.ext X00.2
  have k2 := fun t_ ht_ => k0 t_ (o_aloadN X0 hx d17_0 rfl rfl (o_aloadN X0 hx d17_1 rfl rfl (o_iconst X0 hx d17_2 0 rfl (o_aloadN X0 hx d17_3 rfl rfl (o_len X0 hx hZ d17_4 e0 Va ht_)))))
  obtain ⟨_, T3, Lc3, X3, hQ3, k3⟩ := o_privateM X0 hx hZ k2 yy15 hown (hw 88 rfl) (hw 89 rfl) (hw 91 rfl) (hw 90 rfl) (hw 92 rfl) (rm58 hw dco ar eno iso utf tbd tbe kd ke G1 fm kb B0 B1 B2 B3 B4 B5 v0 v1 v2 v3 v4 v5 v6 v7 r0 r1 r2 r3 r4 r5 r6 r7 h0 n0 Z0 hG X00 Va hD) (hw 48 rfl) 0 od1 [.ref ar, .int 0, .int 4] [] (lenOf pd_8 rfl) hml e0 d17_5
  obtain ⟨rfl, Nq3, e3⟩ := hQ3
  have N3 := Fr.app N0 Nq3
  replace k3 := own_pushR k3
  obtain ⟨T4, h4, c4, X4, e4, E4, Ax4, Bx4, k4⟩ := o_newP X3 hx hZ k3 (hw 27 rfl) e3 (by decide) 3 (by decide) "[B" d17_8
  obtain ⟨b4, g4⟩ : ∃ z, z = h0.size := ⟨_, rfl⟩
  rw [← g4] at Ax4 Bx4 k4
  have ne_ar_b4 : ar ≠ b4 := Nat.ne_of_lt (Nat.lt_of_lt_of_le Va.lt (Nat.le_of_eq g4.symm))
  have g_b4 : n0 ≤ b4 := Nat.le_trans Z0 (Nat.le_of_eq g4.symm)
  have sz_b4 : h0.size ≤ b4 := Nat.le_trans KK.1 (Nat.le_of_eq g4.symm)
  replace X00 : Old Z n0 h4 := ⟨X00.1, Nat.le_trans X00.2.1 E4.1, fun x c r => E4.2 x c (X00.2.2 x c r)⟩
  replace Va := Va.ext E4
  have Zs4 := Nat.le_trans Z0 E4.1
  replace KK := KK.ext E4
  have Ex_b4 := Bx4
  have V_b4 : Arv Z h4 b4 c4 .byte 3 [.int 0, .int 0, .int 0] (.int 0) := (Arv.new Ax4 (by decide)).pad (pad_rep [] (.int 0) 3)
  have od5 := eD.ext X00.2
  have k6 := fun t_ ht_ => k4 t_ (o_astoreN X4 hx d17_10 #[Lr dco, Lr ar, Lr b4, Lu] rfl rfl (o_aloadN X4 hx d17_11 rfl rfl (o_aloadN X4 hx d17_12 rfl rfl (o_iconst X4 hx d17_13 0 rfl (o_aloadN X4 hx d17_14 rfl rfl (o_len X4 hx hZ d17_15 e4 Va (o_aloadN X4 hx d17_16 rfl rfl ht_)))))))
  obtain ⟨_, T7, Lc7, X7, hQ7, k7⟩ := o_privateM X4 hx hZ k6 yy16 hown (hw 100 rfl) (hw 101 rfl) (hw 103 rfl) (hw 102 rfl) (hw 104 rfl) (rm59 hw dco ar b4 eno iso utf tbd tbe kd ke G1 fm kb c4 B0 B1 B2 B3 B4 B5 v0 v1 v2 v3 v4 v5 v6 v7 r0 r1 r2 r3 r4 r5 r6 r7 h4 n0 Zs4 hG X00 Va V_b4 ne_ar_b4 g_b4 hD) (hw 48 rfl) 0 od5 [.ref ar, .int 0, .int 4, .ref b4] [] (lenOf pd_9 rfl) hml e4 d17_17
  obtain ⟨yo0, yo1, yo2, rfl, Nq7, K1, V1, sb0, sb1, sb2⟩ := hQ7
  have N7 := Fr.app N3 Nq7
  replace k7 := own_pushR k7
  replace X00 := X00.keep K1 (by simpa using g_b4)
  replace Va := Va.keep K1 (by simpa using ne_ar_b4)
  replace Ex_b4 := Ex_b4.keep K1
  have Zs7 := Nat.le_trans Zs4 K1.1
  replace KK := KK.trans K1 (fun x q => by cases List.mem_singleton.mp q; exact Or.inr sz_b4)
  have k8 := fun t_ ht_ => k7 t_ (o_istoreN X7 hx d17_20 #[Lr dco, Lr ar, Lr b4, Li 3] rfl (o_iloadN X7 hx d17_21 rfl (o_aloadN X7 hx d17_22 rfl rfl (o_len X7 hx hZ d17_23 rfl V1 (o_icmpYes X7 hx d17_24 (teq (by decide)).1 33 (o_aloadN X7 hx d17_33 rfl rfl ht_))))))
  exact o_retA X7 hx k8 hlk hret rfl d17_34 (by exact ⟨b4, c4, yo0, yo1, yo2, rfl, N7, KK, V1, sz_b4, g_b4, sb0, sb1, sb2⟩)
theorem ef_61 (m : MethodId) (x0 x1 : Addr) : entryFrame m #[.ref x0, .ref x1] 2 = mkF m 0 #[Lr x0, Lr x1] [] := by first | (simp [entryFrame, mkF, argsToLocals, Value.category]; done) | rfl
def Q61 (Z : State) (dco a1 eno iso utf tbd tbe : Addr) (kd ke : ClassId) (G1 : Int32) (fm : Value) (ar : Addr) (kb : ClassId) (B0 B1 B2 B3 B4 B5 v0 v1 v2 v3 v4 v5 v6 v7 r0 r1 r2 r3 r4 r5 r6 r7 : Int32) (h0 : Heap) (n0 : Nat) (v : Option Value) (h : Heap) (L : List Loc) : Prop := ∃ (ds : Addr) (kc : ClassId) (y0 y1 y2 : Int32), v = some (.ref ds) ∧ Fr n0 L ∧ Keep h0 h [] ∧ Arv Z h ds kc .byte (3 : Int32) [.int y0, .int y1, .int y2] (.int 0) ∧ h0.size ≤ ds ∧ n0 ≤ ds ∧ own_SB y0 B0 ∧ own_SB y1 B1 ∧ own_SB y2 B2
set_option maxRecDepth 65536 in
set_option maxHeartbeats 40000000 in
theorem rm61 (hw : own_W a0 Z) (dco a1 eno iso utf tbd tbe : Addr) (kd ke : ClassId) (G1 : Int32) (fm : Value) (ar : Addr) (kb : ClassId) (B0 B1 B2 B3 B4 B5 v0 v1 v2 v3 v4 v5 v6 v7 r0 r1 r2 r3 r4 r5 r6 r7 : Int32) (h0 : Heap) (n0 : Nat) (Z0 : n0 ≤ h0.size) (hG : own_G Z dco eno iso utf tbd tbe kd ke G1 fm) (X00 : Old Z n0 h0) (Es : Exa Z h0 a1 "java/lang/String") (Fc : Fld Z h0 a1 "java/lang/String" "coder" "B" (.int 0)) (Fv : Fld Z h0 a1 "java/lang/String" "value" "[B" (.ref ar)) (Va : Arv Z h0 ar kb .byte (4 : Int32) [.int r0, .int r1, .int r2, .int r3] (.int 0)) (Ea : Exa Z h0 ar "[B") (hD : own_D 3 B0 B1 B2 B3 B4 B5 v0 v1 v2 v3 v4 v5 v6 v7 r0 r1 r2 r3 r4 r5 r6 r7) :
    own_M l Z yy18 q18 2 (some (.array .byte)) ⟨5, 2, 11, 76⟩ #[.ref dco, .ref a1] h0 [] (Q61 Z dco a1 eno iso utf tbd tbe kd ke G1 fm ar kb B0 B1 B2 B3 B4 B5 v0 v1 v2 v3 v4 v5 v6 v7 r0 r1 r2 r3 r4 r5 r6 r7 h0 n0) := by
  refine own_body (plainFor_of_name pn_2) ?_
  intro p e s m below meth c s₁ A hx hml hown hnm hlk hret hZ X0 e0 k0
  replace k0 := own_ent (ef_61 m dco a1) k0
  have N0 := Fr.nil n0
  have KK : Keep h0 h0 [] := Keep.refl h0 []
  obtain ⟨sD, sE, eD, eE, fDu, fDm, fEp, fEl, fEu, sI, sU, iu, sTd, sTe, aTd, aTe, sC, gC, sS, fmr⟩ := id hG
  obtain ⟨hq0, hq1, hc0, hc1, hc2, hc3, hc4, hc5, hc6, hc7, hz1, hz2, hz4, hz5⟩ := id hD
  have k1 := fun t_ ht_ => k0 t_ (o_aloadN X0 hx d18_0 rfl rfl (o_aloadN X0 hx d18_1 rfl rfl ht_))
  obtain ⟨T2, X2, e2, k2⟩ := o_getS X0 hx hZ k1 hown (host := "") (Or.inl (hw 50 rfl)) Via.refl e0 (sI.ext X00.2) d18_2
  obtain ⟨_, T3, Lc3, X3, hQ3, k3⟩ := o_virtualM X2 hx hZ k2 yy6 hown (hw 52 rfl) yy6 (hw 53 rfl) (hw 55 rfl) (hw 54 rfl) rfl (rm23 hw a1 iso dco eno utf tbd tbe kd ke G1 fm ar kb (4 : Int32) _ h0 n0 Z0 hG X00 Es Fc Fv Va Ea (by decide)) (hw 56 rfl) (hw 11 rfl) 1 Es [.ref iso] [.ref dco] (lenOf pd_10 rfl) hml e2 d18_5
  obtain ⟨cr, rfl, Nq3, K1, V1, E1, G1_⟩ := hQ3
  have N3 := Fr.app N0 Nq3
  replace k3 := own_pushR k3
  replace X00 := X00.keep K1 (by simp)
  replace Es := Es.keep K1
  replace Fc := Fc.keep K1 (by simp)
  replace Fv := Fv.keep K1 (by simp)
  replace Va := Va.keep K1 (by simp)
  replace Ea := Ea.keep K1
  have Zs3 := Nat.le_trans Z0 K1.1
  replace KK := KK.trans K1 (fun x q => nomatch q)
  have od4 := eD.ext X00.2
  obtain ⟨_, T5, Lc5, X5, hQ5, k5⟩ := o_virtualM X3 hx hZ k3 yy17 hown (hw 83 rfl) yy17 (hw 84 rfl) (hw 86 rfl) (hw 85 rfl) rfl (rm60 hw dco cr eno iso utf tbd tbe kd ke G1 fm kb B0 B1 B2 B3 B4 B5 v0 v1 v2 v3 v4 v5 v6 v7 r0 r1 r2 r3 r4 r5 r6 r7 T3.heap n0 Zs3 hG X00 V1 hD) (hw 87 rfl) (hw 48 rfl) 0 od4 [.ref cr] [] (lenOf pd_11 rfl) hml rfl d18_8
  obtain ⟨ds, kc, yo0, yo1, yo2, rfl, Nq5, K2, V2, G2, g_ds, sb0, sb1, sb2⟩ := hQ5
  have N5 := Fr.app N3 Nq5
  replace k5 := own_pushR k5
  have sz_ds : h0.size ≤ ds := Nat.le_trans KK.1 G2
  replace X00 := X00.keep K2 (by simp)
  replace Es := Es.keep K2
  replace Fc := Fc.keep K2 (by simp)
  replace Fv := Fv.keep K2 (by simp)
  replace Va := Va.keep K2 (by simp)
  replace Ea := Ea.keep K2
  replace V1 := V1.keep K2 (by simp)
  replace E1 := E1.keep K2
  have Zs5 := Nat.le_trans Zs3 K2.1
  replace KK := KK.trans K2 (fun x q => nomatch q)
  exact o_retA X5 hx k5 hlk hret rfl d18_11 (by exact ⟨ds, kc, yo0, yo1, yo2, rfl, N5, KK, V2, sz_ds, g_ds, sb0, sb1, sb2⟩)
theorem ef_63 (m : MethodId) (x0 x1 : Int32) : entryFrame m #[.int x0, .int x1] 4 = mkF m 0 #[Li x0, Li x1, Lu, Lu] [] := by first | (simp [entryFrame, mkF, argsToLocals, Value.category]; done) | rfl
def Q63 (Z : State)  (h0 : Heap) (n0 : Nat) (v : Option Value) (h : Heap) (L : List Loc) : Prop := v = some (.int (4 : Int32)) ∧ Fr n0 L ∧ h = h0
set_option maxRecDepth 65536 in
set_option maxHeartbeats 40000000 in
theorem rm63 (hw : own_W a0 Z)  (h0 : Heap) (n0 : Nat) (Z0 : n0 ≤ h0.size) :
    own_M l Z yy19 q20 4 (some .int) ⟨0, 0, 0, 0⟩ #[.int 4, .int 1] h0 [] (Q63 Z  h0 n0) := by
  refine own_body (Jvm.Free.JP.mathPlain rfl (by decide +kernel)) ?_
  intro p e s m below meth c s₁ A hx hml hown hnm hlk hret hZ X0 e0 k0
  replace k0 := own_ent (ef_63 m 4 1) k0
  have N0 := Fr.nil n0
  have k1 := fun t_ ht_ => k0 t_ (o_iloadN X0 hx d20_0 rfl (o_i2l X0 hx d20_1 (o_iloadN X0 hx d20_2 rfl (o_i2l X0 hx d20_3 (o_lmul X0 hx d20_4 rfl (o_lstoreN X0 hx d20_5 #[Li 4, Li 1, Lj (((4 : Int32).toInt64) * ((1 : Int32).toInt64)), Lt] rfl (o_lloadN X0 hx d20_6 rfl (o_l2i X0 hx d20_7 (o_i2l X0 hx d20_8 (o_lloadN X0 hx d20_9 rfl (o_lcmp X0 hx d20_10 (o_ifYes X0 hx d20_11 ((if0 _ _).trans (teq (by decide)).1) 24 (o_lloadN X0 hx d20_24 rfl (o_l2i X0 hx d20_25 ht_))))))))))))))
  exact o_retI X0 hx k1 hlk hret d20_26 (by rw [e0]; exact ⟨congrArg (fun z => some (Value.int z)) (show ((((4 : Int32).toInt64) * ((1 : Int32).toInt64)).toInt32) = (4 : Int32) from by decide), N0, rfl⟩)
theorem ef_64 (m : MethodId) (x0 x1 : Int32) : entryFrame m #[.int x0, .int x1] 3 = mkF m 0 #[Li x0, Li x1, Lu] [] := by first | (simp [entryFrame, mkF, argsToLocals, Value.category]; done) | rfl
def Q64 (Z : State)  (h0 : Heap) (n0 : Nat) (v : Option Value) (h : Heap) (L : List Loc) : Prop := v = some (.int (4 : Int32)) ∧ Fr n0 L ∧ h = h0
set_option maxRecDepth 65536 in
set_option maxHeartbeats 40000000 in
theorem rm64 (hw : own_W a0 Z)  (h0 : Heap) (n0 : Nat) (Z0 : n0 ≤ h0.size) :
    own_M l Z yy20 q21 3 (some .int) ⟨0, 0, 0, 0⟩ #[.int 4, .int 0] h0 [] (Q64 Z  h0 n0) := by
  refine own_body (Jvm.Free.JP.mathPlain rfl (by decide +kernel)) ?_
  intro p e s m below meth c s₁ A hx hml hown hnm hlk hret hZ X0 e0 k0
  replace k0 := own_ent (ef_64 m 4 0) k0
  have N0 := Fr.nil n0
  have k1 := fun t_ ht_ => k0 t_ (o_iloadN X0 hx d21_0 rfl (o_iloadN X0 hx d21_1 rfl (o_iadd X0 hx d21_2 (rfl : _ = (4 : Int32)) (o_istoreN X0 hx d21_3 #[Li 4, Li 0, Li 4] rfl (o_iloadN X0 hx d21_4 rfl (o_iloadN X0 hx d21_5 rfl (o_ixor X0 hx d21_6 rfl (o_iloadN X0 hx d21_7 rfl (o_iloadN X0 hx d21_8 rfl (o_ixor X0 hx d21_9 rfl (o_iand X0 hx d21_10 rfl (o_ifYes X0 hx d21_11 ((if0 _ _).trans (flt (by decide)).2.1) 24 (o_iloadN X0 hx d21_24 rfl ht_)))))))))))))
  exact o_retI X0 hx k1 hlk hret d21_25 (by rw [e0]; exact ⟨congrArg (fun z => some (Value.int z)) (show (4 : Int32) = (4 : Int32) from by decide), N0, rfl⟩)
theorem ef_62 (m : MethodId) (x0 : Addr) (x1 x2 : Int32) : entryFrame m #[.ref x0, .int x1, .int x2] 5 = mkF m 0 #[Lr x0, Li x1, Li x2, Lu, Lu] [] := by first | (simp [entryFrame, mkF, argsToLocals, Value.category]; done) | rfl
def Q62 (Z : State) (eno dco iso utf tbd tbe : Addr) (kd ke : ClassId) (G1 : Int32) (fm : Value) (h0 : Heap) (n0 : Nat) (v : Option Value) (h : Heap) (L : List Loc) : Prop := v = some (.int (4 : Int32)) ∧ Fr n0 L ∧ h = h0
set_option maxRecDepth 65536 in
set_option maxHeartbeats 40000000 in
theorem rm62 (hw : own_W a0 Z) (eno dco iso utf tbd tbe : Addr) (kd ke : ClassId) (G1 : Int32) (fm : Value) (h0 : Heap) (n0 : Nat) (Z0 : n0 ≤ h0.size) (hG : own_G Z dco eno iso utf tbd tbe kd ke G1 fm) (X00 : Old Z n0 h0) :
    own_MH l Z yy21 q19 5 (some .int) [(2, 79, 82, 33)] ⟨1, 0, 0, 15⟩ #[.ref eno, .int 3, .int 1] h0 [] (Q62 Z eno dco iso utf tbd tbe kd ke G1 fm h0 n0) := by
  refine own_bodyH (plainFor_of_name pn_3) ?_
  intro p e s m below meth c s₁ A hx hml hown hnm hlk hret hZ X0 e0 k0
  replace k0 := own_ent (ef_62 m eno 3 1) k0
  have N0 := Fr.nil n0
  obtain ⟨sD, sE, eD, eE, fDu, fDm, fEp, fEl, fEu, sI, sU, iu, sTd, sTe, aTd, aTe, sC, gC, sS, fmr⟩ := id hG
  have od1 := fEp.ext X00.2
  have k2 := fun t_ ht_ => k0 t_ (o_iconst X0 hx d19_0 0 rfl (o_istoreN X0 hx d19_1 #[Lr eno, Li 3, Li 1, Li 0, Lu] rfl (o_aloadN X0 hx d19_2 rfl rfl ht_)))
  obtain ⟨T3, X3, e3, k3⟩ := o_getF X0 hx hZ k2 hown (host := "") (Or.inl (hw 123 rfl)) Via.refl e0 od1 d19_3
  have k4 := fun t_ ht_ => k3 t_ (o_ifYes X3 hx d19_6 ((if0 _ _).trans (teq (by decide)).1) 24 (o_iloadN X3 hx d19_24 rfl (o_iconst X3 hx d19_25 3 rfl (o_irem X3 hx d19_26 (by decide) ht_))))
  rw [show ((3 : Int32) - ((3 : Int32) / (3 : Int32)) * (3 : Int32)) = (0 : Int32) from by decide] at k4
  have k5 := fun t_ ht_ => k4 t_ (o_istore X3 hx d19_27 #[Lr eno, Li 3, Li 1, Li 0, Li 0] rfl (o_iconst X3 hx d19_29 4 rfl (o_iloadN X3 hx d19_30 rfl (o_iconst X3 hx d19_31 3 rfl (o_idiv X3 hx d19_32 (by decide) ht_)))))
  rw [show ((3 : Int32) / (3 : Int32)) = (1 : Int32) from by decide] at k5
  obtain ⟨_, T6, Lc6, X6, hQ6, k6⟩ := o_callSM X3 hx hZ k5 yy19 hown (hw 125 rfl) (hw 126 rfl) (hw 127 rfl) (hw 128 rfl) (rm63 hw h0 n0 Z0) 0 [.int 4, .int 1] [] (lenOf pd_12 rfl) hml e3 d19_33
  obtain ⟨rfl, Nq6, e6⟩ := hQ6
  have N6 := Fr.app N0 Nq6
  replace k6 := own_pushR k6
  have k7 := fun t_ ht_ => k6 t_ (o_iload X6 hx d19_36 rfl (o_ifNo X6 hx d19_38 ((if0 _ _).trans (teq (by decide)).2) (o_iconst X6 hx d19_41 0 rfl (o_goto X6 hx d19_42 49 ht_))))
  obtain ⟨_, T8, Lc8, X8, hQ8, k8⟩ := o_callSM X6 hx hZ k7 yy20 hown (hw 129 rfl) (hw 130 rfl) (hw 127 rfl) (hw 131 rfl) (rm64 hw h0 n0 Z0) 0 [.int 4, .int 0] [] (lenOf pd_12 rfl) hml e6 d19_49
  obtain ⟨rfl, Nq8, e8⟩ := hQ8
  have N8 := Fr.app N6 Nq8
  replace k8 := own_pushR k8
  have od9 := fEl.ext X00.2
  have k10 := fun t_ ht_ => k8 t_ (o_istoreN X8 hx d19_52 #[Lr eno, Li 3, Li 1, Li 4, Li 0] rfl (o_aloadN X8 hx d19_53 rfl rfl ht_))
  obtain ⟨T11, X11, e11, k11⟩ := o_getF X8 hx hZ k10 hown (host := "") (Or.inl (hw 132 rfl)) Via.refl e8 od9 d19_54
  have k12 := fun t_ ht_ => k11 t_ (o_ifYes X11 hx d19_57 ((if0 _ _).trans (flt (by decide)).2.2.2) 79 (o_goto X11 hx d19_79 100 (o_iloadN X11 hx d19_100 rfl ht_)))
  exact o_retI X11 hx k12 hlk hret d19_101 (by rw [e11]; exact ⟨rfl, N8, rfl⟩)
theorem ef_66 (m : MethodId) (x0 x1 : Int32) : entryFrame m #[.int x0, .int x1] 2 = mkF m 0 #[Li x0, Li x1] [] := by first | (simp [entryFrame, mkF, argsToLocals, Value.category]; done) | rfl
def Q66 (Z : State)  (h0 : Heap) (n0 : Nat) (v : Option Value) (h : Heap) (L : List Loc) : Prop := v = some (.int (3 : Int32)) ∧ Fr n0 L ∧ h = h0
set_option maxRecDepth 65536 in
set_option maxHeartbeats 40000000 in
theorem rm66 (hw : own_W a0 Z)  (h0 : Heap) (n0 : Nat) (Z0 : n0 ≤ h0.size) :
    own_M l Z yy26 q26 2 (some .int) ⟨0, 0, 0, 0⟩ #[.int 3, .int 3] h0 [] (Q66 Z  h0 n0) := by
  refine own_body (Jvm.Free.JP.mathPlain rfl (by decide +kernel)) ?_
  intro p e s m below meth c s₁ A hx hml hown hnm hlk hret hZ X0 e0 k0
  replace k0 := own_ent (ef_66 m 3 3) k0
  have N0 := Fr.nil n0
  have k1 := fun t_ ht_ => k0 t_ (o_iloadN X0 hx d26_0 rfl (o_iloadN X0 hx d26_1 rfl (o_icmpNo X0 hx d26_2 (flt (by decide)).2.2.1 (o_iloadN X0 hx d26_5 rfl (o_goto X0 hx d26_6 10 ht_)))))
  exact o_retI X0 hx k1 hlk hret d26_10 (by rw [e0]; exact ⟨congrArg (fun z => some (Value.int z)) (show (3 : Int32) = (3 : Int32) from by decide), N0, rfl⟩)
theorem ef_65 (m : MethodId) (x0 x1 : Addr) (x2 x3 : Int32) (x4 : Addr) : entryFrame m #[.ref x0, .ref x1, .int x2, .int x3, .ref x4] 16 = mkF m 0 #[Lr x0, Lr x1, Li x2, Li x3, Lr x4, Lu, Lu, Lu, Lu, Lu, Lu, Lu, Lu, Lu, Lu, Lu] [] := by first | (simp [entryFrame, mkF, argsToLocals, Value.category]; done) | rfl
def Q65 (Z : State) (eno ar ds dco iso utf tbd tbe : Addr) (kd ke : ClassId) (G1 : Int32) (fm : Value) (kb kc : ClassId) (B0 B1 B2 B3 B4 B5 v0 v1 v2 v3 v4 v5 v6 v7 r0 r1 r2 r3 r4 r5 r6 r7 y0 y1 y2 : Int32) (h0 : Heap) (n0 : Nat) (v : Option Value) (h : Heap) (L : List Loc) : Prop := v = some (.int (4 : Int32)) ∧ Fr n0 L ∧ Keep h0 h [ds] ∧ Arv Z h ds kc .byte (4 : Int32) [.int r0, .int r1, .int r2, .int r3] (.int 0)
set_option maxRecDepth 65536 in
set_option maxHeartbeats 40000000 in
theorem rm65 (hw : own_W a0 Z) (eno ar ds dco iso utf tbd tbe : Addr) (kd ke : ClassId) (G1 : Int32) (fm : Value) (kb kc : ClassId) (B0 B1 B2 B3 B4 B5 v0 v1 v2 v3 v4 v5 v6 v7 r0 r1 r2 r3 r4 r5 r6 r7 y0 y1 y2 : Int32) (h0 : Heap) (n0 : Nat) (Z0 : n0 ≤ h0.size) (hG : own_G Z dco eno iso utf tbd tbe kd ke G1 fm) (X00 : Old Z n0 h0) (Va : Arv Z h0 ar kb .byte (3 : Int32) [.int y0, .int y1, .int y2] (.int 0)) (Vd : Arv Z h0 ds kc .byte (4 : Int32) [.int (0 : Int32), .int (0 : Int32), .int (0 : Int32), .int (0 : Int32)] (.int 0)) (hne : ar ≠ ds) (g_ds : n0 ≤ ds) (hD : own_D 3 B0 B1 B2 B3 B4 B5 v0 v1 v2 v3 v4 v5 v6 v7 r0 r1 r2 r3 r4 r5 r6 r7) (hs0 : own_SB y0 B0) (hs1 : own_SB y1 B1) (hs2 : own_SB y2 B2) :
    own_M l Z yy22 q22 16 (some .int) ⟨1, 0, 0, 22⟩ #[.ref eno, .ref ar, .int 0, .int 3, .ref ds] h0 [] (Q65 Z eno ar ds dco iso utf tbd tbe kd ke G1 fm kb kc B0 B1 B2 B3 B4 B5 v0 v1 v2 v3 v4 v5 v6 v7 r0 r1 r2 r3 r4 r5 r6 r7 y0 y1 y2 h0 n0) := by
  refine own_body (plainFor_of_name pn_3) ?_
  intro p e s m below meth c s₁ A hx hml hown hnm hlk hret hZ X0 e0 k0
  replace k0 := own_ent (ef_65 m eno ar 0 3 ds) k0
  have N0 := Fr.nil n0
  have KK : Keep h0 h0 [ds] := Keep.refl h0 [ds]
  obtain ⟨sD, sE, eD, eE, fDu, fDm, fEp, fEl, fEu, sI, sU, iu, sTd, sTe, aTd, aTe, sC, gC, sS, fmr⟩ := id hG
  obtain ⟨hq0, hq1, hc0, hc1, hc2, hc3, hc4, hc5, hc6, hc7, hz1, hz2, hz4, hz5⟩ := id hD
  have od1 := fEu.ext X00.2
  have k2 := fun t_ ht_ => k0 t_ (o_aloadN X0 hx d22_0 rfl rfl ht_)
  obtain ⟨T3, X3, e3, k3⟩ := o_getF X0 hx hZ k2 hown (host := "") (Or.inl (hw 139 rfl)) Via.refl e0 od1 d22_1
  have k4 := fun t_ ht_ => k3 t_ (o_ifNo X3 hx d22_4 ((if0 _ _).trans (feq (by decide)).1) ht_)
  obtain ⟨T5, X5, e5, k5⟩ := o_getS X3 hx hZ k4 hown (host := "") (Or.inl (hw 141 rfl)) Via.refl e3 (sTe.ext X00.2) d22_7
  have k6 := fun t_ ht_ => k5 t_ (o_goto X5 hx d22_10 16 (o_astore X5 hx d22_16 #[Lr eno, Lr ar, Li 0, Li 3, Lr ds, Lr tbe, Lu, Lu, Lu, Lu, Lu, Lu, Lu, Lu, Lu, Lu] rfl rfl (o_iloadN X5 hx d22_18 rfl (o_istore X5 hx d22_19 #[Lr eno, Lr ar, Li 0, Li 3, Lr ds, Lr tbe, Li 0, Lu, Lu, Lu, Lu, Lu, Lu, Lu, Lu, Lu] rfl (o_iloadN X5 hx d22_21 rfl (o_iloadN X5 hx d22_22 rfl (o_isub X5 hx d22_23 (rfl : _ = (3 : Int32)) (o_iconst X5 hx d22_24 3 rfl (o_idiv X5 hx d22_25 (by decide) ht_)))))))))
  rw [show ((3 : Int32) / (3 : Int32)) = (1 : Int32) from by decide] at k6
  have od7 := fEl.ext X00.2
  have k8 := fun t_ ht_ => k6 t_ (o_iconst X5 hx d22_26 3 rfl (o_imul X5 hx d22_27 (rfl : _ = (3 : Int32)) (o_istore X5 hx d22_28 #[Lr eno, Lr ar, Li 0, Li 3, Lr ds, Lr tbe, Li 0, Li 3, Lu, Lu, Lu, Lu, Lu, Lu, Lu, Lu] rfl (o_iloadN X5 hx d22_30 rfl (o_iload X5 hx d22_31 rfl (o_iadd X5 hx d22_33 (rfl : _ = (3 : Int32)) (o_istore X5 hx d22_34 #[Lr eno, Lr ar, Li 0, Li 3, Lr ds, Lr tbe, Li 0, Li 3, Li 3, Lu, Lu, Lu, Lu, Lu, Lu, Lu] rfl (o_aloadN X5 hx d22_36 rfl rfl ht_))))))))
  obtain ⟨T9, X9, e9, k9⟩ := o_getF X5 hx hZ k8 hown (host := "") (Or.inl (hw 132 rfl)) Via.refl e5 od7 d22_37
  have k10 := fun t_ ht_ => k9 t_ (o_ifYes X9 hx d22_40 ((if0 _ _).trans (flt (by decide)).2.2.2) 66 (o_iconst X9 hx d22_66 0 rfl (o_istore X9 hx d22_67 #[Lr eno, Lr ar, Li 0, Li 3, Lr ds, Lr tbe, Li 0, Li 3, Li 3, Li 0, Lu, Lu, Lu, Lu, Lu, Lu] rfl (o_iload X9 hx d22_69 rfl (o_iload X9 hx d22_71 rfl (o_icmpNo X9 hx d22_73 (tlt (by decide)).2.1 (o_iload X9 hx d22_76 rfl (o_iload X9 hx d22_78 rfl (o_iadd X9 hx d22_80 (rfl : _ = (3 : Int32)) (o_iload X9 hx d22_81 rfl ht_))))))))))
  obtain ⟨_, T11, Lc11, X11, hQ11, k11⟩ := o_callSM X9 hx hZ k10 yy26 hown (hw 173 rfl) (hw 174 rfl) (hw 127 rfl) (hw 175 rfl) (rm66 hw h0 n0 Z0) 0 [.int 3, .int 3] [] (lenOf pd_12 rfl) hml e9 d22_83
  obtain ⟨rfl, Nq11, e11⟩ := hQ11
  have N11 := Fr.app N0 Nq11
  replace k11 := own_pushR k11
  have k12 := fun t_ ht_ => k11 t_ (o_istore X11 hx d22_86 #[Lr eno, Lr ar, Li 0, Li 3, Lr ds, Lr tbe, Li 0, Li 3, Li 3, Li 0, Li 3, Lu, Lu, Lu, Lu, Lu] rfl (o_aloadN X11 hx d22_88 rfl rfl (o_aloadN X11 hx d22_89 rfl rfl (o_iload X11 hx d22_90 rfl (o_iload X11 hx d22_92 rfl (o_aload X11 hx d22_94 rfl rfl (o_iload X11 hx d22_96 rfl (o_aloadN X11 hx d22_98 rfl rfl ht_))))))))
  obtain ⟨T13, X13, e13, k13⟩ := o_getF X11 hx hZ k12 hown (host := "") (Or.inl (hw 139 rfl)) Via.refl e11 od1 d22_99
  have od14 := eE.ext X00.2
  obtain ⟨_, T15, Lc15, X15, hQ15, k15⟩ := o_privateM X13 hx hZ k13 yy8 hown (hw 176 rfl) (hw 177 rfl) (hw 179 rfl) (hw 178 rfl) (hw 180 rfl) (rm27 hw eno ar ds dco iso utf tbd tbe kd ke G1 fm kb kc B0 B1 B2 B3 B4 B5 v0 v1 v2 v3 v4 v5 v6 v7 r0 r1 r2 r3 r4 r5 r6 r7 y0 y1 y2 h0 n0 Z0 hG X00 Va Vd hne g_ds hD hs0 hs1 hs2) (hw 111 rfl) 0 od14 [.ref ar, .int 0, .int 3, .ref ds, .int 0, .int 1] [] (lenOf pd_18 rfl) hml e13 d22_102
  obtain ⟨rfl, Nq15, Kb, Vb⟩ := hQ15
  have N15 := Fr.app N11 Nq15
  replace k15 := own_pushV k15
  replace X00 := X00.keep Kb (by simpa using g_ds)
  replace Va := Va.keep Kb (by simpa using hne)
  have Zs15 := Nat.le_trans Z0 Kb.1
  replace KK := KK.trans Kb (fun x q => Or.inl q)
  have k16 := fun t_ ht_ => k15 t_ (o_iload X15 hx d22_105 rfl (o_iload X15 hx d22_107 rfl (o_isub X15 hx d22_109 (rfl : _ = (3 : Int32)) (o_iconst X15 hx d22_110 3 rfl (o_idiv X15 hx d22_111 (by decide) ht_)))))
  rw [show ((3 : Int32) / (3 : Int32)) = (1 : Int32) from by decide] at k16
  have od17 := fEl.ext X00.2
  have k18 := fun t_ ht_ => k16 t_ (o_iconst X15 hx d22_112 4 rfl (o_imul X15 hx d22_113 (rfl : _ = (4 : Int32)) (o_istore X15 hx d22_114 #[Lr eno, Lr ar, Li 0, Li 3, Lr ds, Lr tbe, Li 0, Li 3, Li 3, Li 0, Li 3, Li 4, Lu, Lu, Lu, Lu] rfl (o_iload X15 hx d22_116 rfl (o_iload X15 hx d22_118 rfl (o_iadd X15 hx d22_120 (rfl : _ = (4 : Int32)) (o_istore X15 hx d22_121 #[Lr eno, Lr ar, Li 0, Li 3, Lr ds, Lr tbe, Li 0, Li 3, Li 3, Li 4, Li 3, Li 4, Lu, Lu, Lu, Lu] rfl (o_iload X15 hx d22_123 rfl (o_istore X15 hx d22_125 #[Lr eno, Lr ar, Li 0, Li 3, Lr ds, Lr tbe, Li 3, Li 3, Li 3, Li 4, Li 3, Li 4, Lu, Lu, Lu, Lu] rfl (o_iload X15 hx d22_127 rfl (o_aloadN X15 hx d22_129 rfl rfl ht_)))))))))))
  obtain ⟨T19, X19, e19, k19⟩ := o_getF X15 hx hZ k18 hown (host := "") (Or.inl (hw 132 rfl)) Via.refl rfl od17 d22_130
  have k20 := fun t_ ht_ => k19 t_ (o_icmpYes X19 hx d22_133 (feq (by decide)).2 186 (o_goto X19 hx d22_186 69 (o_iload X19 hx d22_69 rfl (o_iload X19 hx d22_71 rfl (o_icmpYes X19 hx d22_73 (flt (by decide)).2.1 189 (o_iload X19 hx d22_189 rfl (o_iloadN X19 hx d22_191 rfl (o_icmpYes X19 hx d22_192 (flt (by decide)).2.1 352 (o_iload X19 hx d22_352 rfl ht_)))))))))
  exact o_retI X19 hx k20 hlk hret d22_354 (by rw [e19]; exact ⟨rfl, N15, KK, Vb⟩)
theorem ef_67 (m : MethodId) (x0 x1 : Addr) : entryFrame m #[.ref x0, .ref x1] 5 = mkF m 0 #[Lr x0, Lr x1, Lu, Lu, Lu] [] := by first | (simp [entryFrame, mkF, argsToLocals, Value.category]; done) | rfl
def Q67 (Z : State) (eno ar dco iso utf tbd tbe : Addr) (kd ke : ClassId) (G1 : Int32) (fm : Value) (kb : ClassId) (B0 B1 B2 B3 B4 B5 v0 v1 v2 v3 v4 v5 v6 v7 r0 r1 r2 r3 r4 r5 r6 r7 y0 y1 y2 : Int32) (h0 : Heap) (n0 : Nat) (v : Option Value) (h : Heap) (L : List Loc) : Prop := ∃ (ds : Addr) (kc : ClassId), v = some (.ref ds) ∧ Fr n0 L ∧ Keep h0 h [] ∧ Arv Z h ds kc .byte (4 : Int32) [.int r0, .int r1, .int r2, .int r3] (.int 0) ∧ Exa Z h ds "[B" ∧ h0.size ≤ ds
set_option maxRecDepth 65536 in
set_option maxHeartbeats 40000000 in
theorem rm67 (hw : own_W a0 Z) (eno ar dco iso utf tbd tbe : Addr) (kd ke : ClassId) (G1 : Int32) (fm : Value) (kb : ClassId) (B0 B1 B2 B3 B4 B5 v0 v1 v2 v3 v4 v5 v6 v7 r0 r1 r2 r3 r4 r5 r6 r7 y0 y1 y2 : Int32) (h0 : Heap) (n0 : Nat) (Z0 : n0 ≤ h0.size) (hG : own_G Z dco eno iso utf tbd tbe kd ke G1 fm) (X00 : Old Z n0 h0) (Va : Arv Z h0 ar kb .byte (3 : Int32) [.int y0, .int y1, .int y2] (.int 0)) (hD : own_D 3 B0 B1 B2 B3 B4 B5 v0 v1 v2 v3 v4 v5 v6 v7 r0 r1 r2 r3 r4 r5 r6 r7) (hs0 : own_SB y0 B0) (hs1 : own_SB y1 B1) (hs2 : own_SB y2 B2) :
    own_M l Z yy23 q23 5 (some (.array .byte)) ⟨2, 1, 4, 49⟩ #[.ref eno, .ref ar] h0 [] (Q67 Z eno ar dco iso utf tbd tbe kd ke G1 fm kb B0 B1 B2 B3 B4 B5 v0 v1 v2 v3 v4 v5 v6 v7 r0 r1 r2 r3 r4 r5 r6 r7 y0 y1 y2 h0 n0) := by
  refine own_body (plainFor_of_name pn_3) ?_
  intro p e s m below meth c s₁ A hx hml hown hnm hlk hret hZ X0 e0 k0
  replace k0 := own_ent (ef_67 m eno ar) k0
  have N0 := Fr.nil n0
  have KK : Keep h0 h0 [] := Keep.refl h0 []
  obtain ⟨sD, sE, eD, eE, fDu, fDm, fEp, fEl, fEu, sI, sU, iu, sTd, sTe, aTd, aTe, sC, gC, sS, fmr⟩ := id hG
  obtain ⟨hq0, hq1, hc0, hc1, hc2, hc3, hc4, hc5, hc6, hc7, hz1, hz2, hz4, hz5⟩ := id hD
  have od1 := eE.ext X00.2
  have k2 := fun t_ ht_ => k0 t_ (o_aloadN X0 hx d23_0 rfl rfl (o_aloadN X0 hx d23_1 rfl rfl (o_len X0 hx hZ d23_2 e0 Va (o_iconst X0 hx d23_3 1 rfl ht_))))
  obtain ⟨_, T3, Lc3, X3, hQ3, k3⟩ := o_privateH X0 hx hZ k2 yy21 hown (hw 118 rfl) (hw 119 rfl) (hw 121 rfl) (hw 120 rfl) (hw 122 rfl) (backOfWith (W := 0) (rm62 hw eno dco iso utf tbd tbe kd ke G1 fm h0 n0 Z0 hG X00) hZ (hw 122 rfl) (hw 111 rfl) (by decide) (by decide)) od1 [.int 3, .int 1] [] (lenOf pd_13 rfl) hml e0 d23_4
  obtain ⟨rfl, Nq3, e3⟩ := hQ3
  have N3 := Fr.app N0 Nq3
  replace k3 := own_pushR k3
  have k4 := fun t_ ht_ => k3 t_ (o_istoreN X3 hx d23_7 #[Lr eno, Lr ar, Li 4, Lu, Lu] rfl (o_iloadN X3 hx d23_8 rfl ht_))
  obtain ⟨T5, h5, c5, X5, e5, E5, Ax5, Bx5, k5⟩ := o_newP X3 hx hZ k4 (hw 27 rfl) e3 (by decide) 4 (by decide) "[B" d23_9
  obtain ⟨b5, g5⟩ : ∃ z, z = h0.size := ⟨_, rfl⟩
  rw [← g5] at Ax5 Bx5 k5
  have ne_ar_b5 : ar ≠ b5 := Nat.ne_of_lt (Nat.lt_of_lt_of_le Va.lt (Nat.le_of_eq g5.symm))
  have g_b5 : n0 ≤ b5 := Nat.le_trans Z0 (Nat.le_of_eq g5.symm)
  have sz_b5 : h0.size ≤ b5 := Nat.le_trans KK.1 (Nat.le_of_eq g5.symm)
  replace X00 : Old Z n0 h5 := ⟨X00.1, Nat.le_trans X00.2.1 E5.1, fun x c r => E5.2 x c (X00.2.2 x c r)⟩
  replace Va := Va.ext E5
  have Zs5 := Nat.le_trans Z0 E5.1
  replace KK := KK.ext E5
  have Ex_b5 := Bx5
  have V_b5 : Arv Z h5 b5 c5 .byte 4 [.int 0, .int 0, .int 0, .int 0] (.int 0) := (Arv.new Ax5 (by decide)).pad (pad_rep [] (.int 0) 4)
  have od6 := eE.ext X00.2
  have k7 := fun t_ ht_ => k5 t_ (o_astoreN X5 hx d23_11 #[Lr eno, Lr ar, Li 4, Lr b5, Lu] rfl rfl (o_aloadN X5 hx d23_12 rfl rfl (o_aloadN X5 hx d23_13 rfl rfl (o_iconst X5 hx d23_14 0 rfl (o_aloadN X5 hx d23_15 rfl rfl (o_len X5 hx hZ d23_16 e5 Va (o_aloadN X5 hx d23_17 rfl rfl ht_)))))))
  obtain ⟨_, T8, Lc8, X8, hQ8, k8⟩ := o_privateM X5 hx hZ k7 yy22 hown (hw 134 rfl) (hw 135 rfl) (hw 137 rfl) (hw 136 rfl) (hw 138 rfl) (rm65 hw eno ar b5 dco iso utf tbd tbe kd ke G1 fm kb c5 B0 B1 B2 B3 B4 B5 v0 v1 v2 v3 v4 v5 v6 v7 r0 r1 r2 r3 r4 r5 r6 r7 y0 y1 y2 h5 n0 Zs5 hG X00 Va V_b5 ne_ar_b5 g_b5 hD hs0 hs1 hs2) (hw 111 rfl) 0 od6 [.ref ar, .int 0, .int 3, .ref b5] [] (lenOf pd_9 rfl) hml e5 d23_18
  obtain ⟨rfl, Nq8, K1, V1⟩ := hQ8
  have N8 := Fr.app N3 Nq8
  replace k8 := own_pushR k8
  replace X00 := X00.keep K1 (by simpa using g_b5)
  replace Va := Va.keep K1 (by simpa using ne_ar_b5)
  replace Ex_b5 := Ex_b5.keep K1
  have Zs8 := Nat.le_trans Zs5 K1.1
  replace KK := KK.trans K1 (fun x q => by cases List.mem_singleton.mp q; exact Or.inr sz_b5)
  have k9 := fun t_ ht_ => k8 t_ (o_istore X8 hx d23_21 #[Lr eno, Lr ar, Li 4, Lr b5, Li 4] rfl (o_iload X8 hx d23_23 rfl (o_aloadN X8 hx d23_25 rfl rfl (o_len X8 hx hZ d23_26 rfl V1 (o_icmpYes X8 hx d23_27 (teq (by decide)).1 37 (o_aloadN X8 hx d23_37 rfl rfl ht_))))))
  exact o_retA X8 hx k9 hlk hret rfl d23_38 (by exact ⟨b5, c5, rfl, N8, KK, V1, Ex_b5, sz_b5⟩)
theorem ef_68 (m : MethodId) (x0 x1 : Addr) : entryFrame m #[.ref x0, .ref x1] 3 = mkF m 0 #[Lr x0, Lr x1, Lu] [] := by first | (simp [entryFrame, mkF, argsToLocals, Value.category]; done) | rfl
def Q68 (Z : State) (eno ar dco iso utf tbd tbe : Addr) (kd ke : ClassId) (G1 : Int32) (fm : Value) (kb : ClassId) (B0 B1 B2 B3 B4 B5 v0 v1 v2 v3 v4 v5 v6 v7 r0 r1 r2 r3 r4 r5 r6 r7 y0 y1 y2 : Int32) (h0 : Heap) (n0 : Nat) (v : Option Value) (h : Heap) (L : List Loc) : Prop := ∃ (so cr : Addr) (kc : ClassId), v = some (.ref so) ∧ Fr n0 L ∧ Keep h0 h [] ∧ Exa Z h so "java/lang/String" ∧ Fld Z h so "java/lang/String" "coder" "B" (.int 0) ∧ Fld Z h so "java/lang/String" "value" "[B" (.ref cr) ∧ Arv Z h cr kc .byte (4 : Int32) [.int r0, .int r1, .int r2, .int r3] (.int 0) ∧ h0.size ≤ so
set_option maxRecDepth 65536 in
set_option maxHeartbeats 40000000 in
theorem rm68 (hw : own_W a0 Z) (eno ar dco iso utf tbd tbe : Addr) (kd ke : ClassId) (G1 : Int32) (fm : Value) (kb : ClassId) (B0 B1 B2 B3 B4 B5 v0 v1 v2 v3 v4 v5 v6 v7 r0 r1 r2 r3 r4 r5 r6 r7 y0 y1 y2 : Int32) (h0 : Heap) (n0 : Nat) (Z0 : n0 ≤ h0.size) (hG : own_G Z dco eno iso utf tbd tbe kd ke G1 fm) (X00 : Old Z n0 h0) (Va : Arv Z h0 ar kb .byte (3 : Int32) [.int y0, .int y1, .int y2] (.int 0)) (hD : own_D 3 B0 B1 B2 B3 B4 B5 v0 v1 v2 v3 v4 v5 v6 v7 r0 r1 r2 r3 r4 r5 r6 r7) (hs0 : own_SB y0 B0) (hs1 : own_SB y1 B1) (hs2 : own_SB y2 B2) :
    own_M l Z yy24 q24 3 (some (.object "java/lang/String")) ⟨3, 3, 16, 65⟩ #[.ref eno, .ref ar] h0 [] (Q68 Z eno ar dco iso utf tbd tbe kd ke G1 fm kb B0 B1 B2 B3 B4 B5 v0 v1 v2 v3 v4 v5 v6 v7 r0 r1 r2 r3 r4 r5 r6 r7 y0 y1 y2 h0 n0) := by
  refine own_body (plainFor_of_name pn_3) ?_
  intro p e s m below meth c s₁ A hx hml hown hnm hlk hret hZ X0 e0 k0
  replace k0 := own_ent (ef_68 m eno ar) k0
  have N0 := Fr.nil n0
  have KK : Keep h0 h0 [] := Keep.refl h0 []
  obtain ⟨sD, sE, eD, eE, fDu, fDm, fEp, fEl, fEu, sI, sU, iu, sTd, sTe, aTd, aTe, sC, gC, sS, fmr⟩ := id hG
  obtain ⟨hq0, hq1, hc0, hc1, hc2, hc3, hc4, hc5, hc6, hc7, hz1, hz2, hz4, hz5⟩ := id hD
  have od1 := eE.ext X00.2
  have k2 := fun t_ ht_ => k0 t_ (o_aloadN X0 hx d24_0 rfl rfl (o_aloadN X0 hx d24_1 rfl rfl ht_))
  obtain ⟨_, T3, Lc3, X3, hQ3, k3⟩ := o_virtualM X0 hx hZ k2 yy23 hown (hw 113 rfl) yy23 (hw 114 rfl) (hw 116 rfl) (hw 115 rfl) rfl (rm67 hw eno ar dco iso utf tbd tbe kd ke G1 fm kb B0 B1 B2 B3 B4 B5 v0 v1 v2 v3 v4 v5 v6 v7 r0 r1 r2 r3 r4 r5 r6 r7 y0 y1 y2 h0 n0 Z0 hG X00 Va hD hs0 hs1 hs2) (hw 117 rfl) (hw 111 rfl) 0 od1 [.ref ar] [] (lenOf pd_11 rfl) hml e0 d24_2
  obtain ⟨ds, kc, rfl, Nq3, K1, V1, E1, G1_⟩ := hQ3
  have N3 := Fr.app N0 Nq3
  replace k3 := own_pushR k3
  replace X00 := X00.keep K1 (by simp)
  replace Va := Va.keep K1 (by simp)
  have Zs3 := Nat.le_trans Z0 K1.1
  replace KK := KK.trans K1 (fun x q => nomatch q)
  have k4 := fun t_ ht_ => k3 t_ (o_astoreN X3 hx d24_5 #[Lr eno, Lr ar, Lr ds] rfl rfl ht_)
  obtain ⟨T5, h5, X5, e5, E5, A5, D5, k5⟩ := o_newO X3 hx hZ k4 hown (hw 142 rfl) (hw 10 rfl) (hw 11 rfl) rfl d24_6
  obtain ⟨b5, g5⟩ : ∃ z, z = T3.heap.size := ⟨_, rfl⟩
  rw [← g5] at A5 D5 k5
  have ne_ar_b5 : ar ≠ b5 := Nat.ne_of_lt (Nat.lt_of_lt_of_le Va.lt (Nat.le_of_eq g5.symm))
  have ne_ds_b5 : ds ≠ b5 := Nat.ne_of_lt (Nat.lt_of_lt_of_le V1.lt (Nat.le_of_eq g5.symm))
  have g_b5 : n0 ≤ b5 := Nat.le_trans Zs3 (Nat.le_of_eq g5.symm)
  have sz_b5 : h0.size ≤ b5 := Nat.le_trans KK.1 (Nat.le_of_eq g5.symm)
  replace X00 : Old Z n0 h5 := ⟨X00.1, Nat.le_trans X00.2.1 E5.1, fun x c r => E5.2 x c (X00.2.2 x c r)⟩
  replace Va := Va.ext E5
  replace V1 := V1.ext E5
  replace E1 := E1.ext E5
  have Zs5 := Nat.le_trans Zs3 E5.1
  replace KK := KK.ext E5
  have Ex_b5 := A5
  have F_coder_b5 : Fld Z h5 b5 "java/lang/String" "coder" "B" (.int 0) := D5 (Or.inr (hw 35 rfl)) (ty := .byte) (by decide)
  have F_value_b5 : Fld Z h5 b5 "java/lang/String" "value" "[B" (.null) := D5 (Or.inr (hw 37 rfl)) (ty := (.array .byte)) (by decide)
  have k6 := fun t_ ht_ => k5 t_ (o_dup X5 hx d24_9 rfl (o_aloadN X5 hx d24_10 rfl rfl (o_iconst X5 hx d24_11 0 rfl (o_iconst X5 hx d24_12 0 rfl (o_aloadN X5 hx d24_13 rfl rfl (o_len X5 hx hZ d24_14 e5 V1 ht_))))))
  obtain ⟨_, T7, Lc7, X7, hQ7, k7⟩ := o_specialM X5 hx hZ k6 yy12 rfl hown (hw 143 rfl) (hw 144 rfl) (hw 145 rfl) (rm34 hw b5 ds (4 : Int32) dco eno iso utf tbd tbe kd ke G1 fm kc _ h5 n0 Zs5 hG X00 Ex_b5 F_value_b5 F_coder_b5 V1 E1 (Ne.symm ne_ds_b5) g_b5 own_ln4) (hw 11 rfl) 1 b5 [.ref ds, .int 0, .int 0, .int 4] [.ref b5] (lenOf pd_14 rfl) hml e5 d24_15
  obtain ⟨cr, rfl, Nq7, K2, E2, Fc, Fv, V2, E3, G2⟩ := hQ7
  have N7 := Fr.app N3 Nq7
  replace k7 := own_pushV k7
  have sz_cr : h0.size ≤ cr := Nat.le_trans KK.1 G2
  replace X00 := X00.keep K2 (by simpa using g_b5)
  replace Va := Va.keep K2 (by simpa using ne_ar_b5)
  replace V1 := V1.keep K2 (by simpa using ne_ds_b5)
  replace E1 := E1.keep K2
  replace Ex_b5 := Ex_b5.keep K2
  have Zs7 := Nat.le_trans Zs5 K2.1
  replace KK := KK.trans K2 (fun x q => by cases List.mem_singleton.mp q; exact Or.inr sz_b5)
  exact o_retA X7 hx k7 hlk hret rfl d24_18 (by exact ⟨b5, cr, kc, rfl, N7, KK, E2, Fc, Fv, V2, sz_b5⟩)
theorem ef_69 (m : MethodId) (x0 : Addr) : entryFrame m #[.ref x0] 2 = mkF m 0 #[Lr x0, Lu] [] := by first | (simp [entryFrame, mkF, argsToLocals, Value.category]; done) | rfl
def Q69 (Z : State) (a1 dco eno iso utf tbd tbe : Addr) (kd ke : ClassId) (G1 : Int32) (fm : Value) (ar : Addr) (kb : ClassId) (B0 B1 B2 B3 B4 B5 v0 v1 v2 v3 v4 v5 v6 v7 r0 r1 r2 r3 r4 r5 r6 r7 : Int32) (h0 : Heap) (n0 : Nat) (v : Option Value) (h : Heap) (L : List Loc) : Prop := ∃ (ds : Addr) (kc : ClassId) (y0 y1 y2 : Int32), v = some (.ref ds) ∧ Fr n0 L ∧ Keep h0 h [] ∧ Arv Z h ds kc .byte (3 : Int32) [.int y0, .int y1, .int y2] (.int 0) ∧ h0.size ≤ ds ∧ own_SB y0 B0 ∧ own_SB y1 B1 ∧ own_SB y2 B2
set_option maxRecDepth 65536 in
set_option maxHeartbeats 40000000 in
theorem rm69 (hw : own_W a0 Z) (a1 dco eno iso utf tbd tbe : Addr) (kd ke : ClassId) (G1 : Int32) (fm : Value) (ar : Addr) (kb : ClassId) (B0 B1 B2 B3 B4 B5 v0 v1 v2 v3 v4 v5 v6 v7 r0 r1 r2 r3 r4 r5 r6 r7 : Int32) (h0 : Heap) (n0 : Nat) (Z0 : n0 ≤ h0.size) (hG : own_G Z dco eno iso utf tbd tbe kd ke G1 fm) (X00 : Old Z n0 h0) (Es : Exa Z h0 a1 "java/lang/String") (Fc : Fld Z h0 a1 "java/lang/String" "coder" "B" (.int 0)) (Fv : Fld Z h0 a1 "java/lang/String" "value" "[B" (.ref ar)) (Va : Arv Z h0 ar kb .byte (4 : Int32) [.int r0, .int r1, .int r2, .int r3] (.int 0)) (Ea : Exa Z h0 ar "[B") (hD : own_D 3 B0 B1 B2 B3 B4 B5 v0 v1 v2 v3 v4 v5 v6 v7 r0 r1 r2 r3 r4 r5 r6 r7) :
    own_M l Z yy25 q25 2 (some (.array .byte)) ⟨6, 5, 27, 89⟩ #[.ref a1] h0 [] (Q69 Z a1 dco eno iso utf tbd tbe kd ke G1 fm ar kb B0 B1 B2 B3 B4 B5 v0 v1 v2 v3 v4 v5 v6 v7 r0 r1 r2 r3 r4 r5 r6 r7 h0 n0) := by
  refine own_body (plainFor_of_name pn_7) ?_
  intro p e s m below meth c s₁ A hx hml hown hnm hlk hret hZ X0 e0 k0
  replace k0 := own_ent (ef_69 m a1) k0
  have N0 := Fr.nil n0
  have KK : Keep h0 h0 [] := Keep.refl h0 []
  obtain ⟨sD, sE, eD, eE, fDu, fDm, fEp, fEl, fEu, sI, sU, iu, sTd, sTe, aTd, aTe, sC, gC, sS, fmr⟩ := id hG
  obtain ⟨hq0, hq1, hc0, hc1, hc2, hc3, hc4, hc5, hc6, hc7, hz1, hz2, hz4, hz5⟩ := id hD
  obtain ⟨T1, X1, e1, k1⟩ := o_getS X0 hx hZ k0 hown (host := "") (Or.inl (hw 42 rfl)) Via.refl e0 (sD.ext X00.2) d25_0
  have od2 := eD.ext X00.2
  have k3 := fun t_ ht_ => k1 t_ (o_aloadN X1 hx d25_3 rfl rfl ht_)
  obtain ⟨_, T4, Lc4, X4, hQ4, k4⟩ := o_virtualM X1 hx hZ k3 yy18 hown (hw 44 rfl) yy18 (hw 45 rfl) (hw 47 rfl) (hw 46 rfl) rfl (rm61 hw dco a1 eno iso utf tbd tbe kd ke G1 fm ar kb B0 B1 B2 B3 B4 B5 v0 v1 v2 v3 v4 v5 v6 v7 r0 r1 r2 r3 r4 r5 r6 r7 h0 n0 Z0 hG X00 Es Fc Fv Va Ea hD) (hw 49 rfl) (hw 48 rfl) 0 od2 [.ref a1] [] (lenOf pd_15 rfl) hml e1 d25_4
  obtain ⟨ds, kc, yo0, yo1, yo2, rfl, Nq4, K1, V1, G1_, g_ds, sb0, sb1, sb2⟩ := hQ4
  have N4 := Fr.app N0 Nq4
  replace k4 := own_pushR k4
  have sz_ds : h0.size ≤ ds := Nat.le_trans KK.1 G1_
  replace X00 := X00.keep K1 (by simp)
  replace Es := Es.keep K1
  replace Fc := Fc.keep K1 (by simp)
  replace Fv := Fv.keep K1 (by simp)
  replace Va := Va.keep K1 (by simp)
  replace Ea := Ea.keep K1
  have Zs4 := Nat.le_trans Z0 K1.1
  replace KK := KK.trans K1 (fun x q => nomatch q)
  have k5 := fun t_ ht_ => k4 t_ (o_astoreN X4 hx d25_7 #[Lr a1, Lr ds] rfl rfl ht_)
  obtain ⟨T6, X6, e6, k6⟩ := o_getS X4 hx hZ k5 hown (host := "") (Or.inl (hw 105 rfl)) Via.refl rfl (sE.ext X00.2) d25_8
  have od7 := eE.ext X00.2
  have k8 := fun t_ ht_ => k6 t_ (o_aloadN X6 hx d25_11 rfl rfl ht_)
  obtain ⟨_, T9, Lc9, X9, hQ9, k9⟩ := o_virtualM X6 hx hZ k8 yy24 hown (hw 107 rfl) yy24 (hw 108 rfl) (hw 110 rfl) (hw 109 rfl) rfl (rm68 hw eno ds dco iso utf tbd tbe kd ke G1 fm kc B0 B1 B2 B3 B4 B5 v0 v1 v2 v3 v4 v5 v6 v7 r0 r1 r2 r3 r4 r5 r6 r7 yo0 yo1 yo2 T4.heap n0 Zs4 hG X00 V1 hD sb0 sb1 sb2) (hw 112 rfl) (hw 111 rfl) 0 od7 [.ref ds] [] (lenOf pd_16 rfl) hml e6 d25_12
  obtain ⟨so, cr, kc2, rfl, Nq9, K2, E2, Fc2, Fv2, V2, G2⟩ := hQ9
  have N9 := Fr.app N4 Nq9
  replace k9 := own_pushR k9
  have ne_so : so ≠ a1 := Ne.symm (Nat.ne_of_lt (Nat.lt_of_lt_of_le Es.lt G2))
  replace X00 := X00.keep K2 (by simp)
  replace Es := Es.keep K2
  replace Fc := Fc.keep K2 (by simp)
  replace Fv := Fv.keep K2 (by simp)
  replace Va := Va.keep K2 (by simp)
  replace Ea := Ea.keep K2
  replace V1 := V1.keep K2 (by simp)
  have Zs9 := Nat.le_trans Zs4 K2.1
  replace KK := KK.trans K2 (fun x q => nomatch q)
  have k10 := fun t_ ht_ => k9 t_ (o_aloadN X9 hx d25_15 rfl rfl ht_)
  obtain ⟨_, T11, Lc11, X11, hQ11, k11⟩ := o_virtualM X9 hx hZ k10 yy14 hown (hw 160 rfl) yy14 (hw 161 rfl) (hw 163 rfl) (hw 162 rfl) rfl (rm36 hw so a1 dco eno iso utf tbd tbe kd ke G1 fm cr ar kc2 kb (4 : Int32) [r0, r1, r2, r3] T9.heap n0 Zs9 hG X00 E2 Fc2 Fv2 Es Fc Fv V2 Va ne_so) (hw 164 rfl) (hw 11 rfl) 0 E2 [.ref a1] [] (lenOf pd_17 rfl) hml rfl d25_16
  obtain ⟨rfl, Nq11, e11⟩ := hQ11
  have N11 := Fr.app N9 Nq11
  replace k11 := own_pushR k11
  have k12 := fun t_ ht_ => k11 t_ (o_ifYes X11 hx d25_19 ((if0 _ _).trans (feq (by decide)).2) 32 (o_aloadN X11 hx d25_32 rfl rfl ht_))
  exact o_retA X11 hx k12 hlk hret rfl d25_33 (by rw [e11]; exact ⟨ds, kc, yo0, yo1, yo2, rfl, N11, KK, V1, sz_ds, sb0, sb1, sb2⟩)
theorem ef_70 (m : MethodId) (x0 x1 : Addr) (x2 x3 : Int32) : entryFrame m #[.ref x0, .ref x1, .int x2, .int x3] 9 = mkF m 0 #[Lr x0, Lr x1, Li x2, Li x3, Lu, Lu, Lu, Lu, Lu] [] := by first | (simp [entryFrame, mkF, argsToLocals, Value.category]; done) | rfl
def Q70 (Z : State) (dco ar eno iso utf tbd tbe : Addr) (kd ke : ClassId) (G1 : Int32) (fm : Value) (kb : ClassId) (B0 B1 B2 B3 B4 B5 v0 v1 v2 v3 v4 v5 v6 v7 r0 r1 r2 r3 r4 r5 r6 r7 : Int32) (h0 : Heap) (n0 : Nat) (v : Option Value) (h : Heap) (L : List Loc) : Prop := v = some (.int (4 : Int32)) ∧ Fr n0 L ∧ h = h0
set_option maxRecDepth 65536 in
set_option maxHeartbeats 40000000 in
theorem rm70 (hw : own_W a0 Z) (dco ar eno iso utf tbd tbe : Addr) (kd ke : ClassId) (G1 : Int32) (fm : Value) (kb : ClassId) (B0 B1 B2 B3 B4 B5 v0 v1 v2 v3 v4 v5 v6 v7 r0 r1 r2 r3 r4 r5 r6 r7 : Int32) (h0 : Heap) (n0 : Nat) (Z0 : n0 ≤ h0.size) (hG : own_G Z dco eno iso utf tbd tbe kd ke G1 fm) (X00 : Old Z n0 h0) (Va : Arv Z h0 ar kb .byte (6 : Int32) [.int r0, .int r1, .int r2, .int r3, .int r4, .int r5] (.int 0)) (hD : own_D 4 B0 B1 B2 B3 B4 B5 v0 v1 v2 v3 v4 v5 v6 v7 r0 r1 r2 r3 r4 r5 r6 r7) :
    own_M l Z yy15 q15 9 (some .int) ⟨0, 0, 0, 0⟩ #[.ref dco, .ref ar, .int 0, .int 6] h0 [] (Q70 Z dco ar eno iso utf tbd tbe kd ke G1 fm kb B0 B1 B2 B3 B4 B5 v0 v1 v2 v3 v4 v5 v6 v7 r0 r1 r2 r3 r4 r5 r6 r7 h0 n0) := by
  refine own_body (plainFor_of_name pn_2) ?_
  intro p e s m below meth c s₁ A hx hml hown hnm hlk hret hZ X0 e0 k0
  replace k0 := own_ent (ef_70 m dco ar 0 6) k0
  have N0 := Fr.nil n0
  obtain ⟨sD, sE, eD, eE, fDu, fDm, fEp, fEl, fEu, sI, sU, iu, sTd, sTe, aTd, aTe, sC, gC, sS, fmr⟩ := id hG
  obtain ⟨hq0, hq1, hc0, hc1, hc2, hc3, hc4, hc5, hc6, hc7, hz1, hz2, hz4, hz5⟩ := id hD
  have od1 := fDu.ext X00.2
  have k2 := fun t_ ht_ => k0 t_ (o_aloadN X0 hx d15_0 rfl rfl ht_)
  obtain ⟨T3, X3, e3, k3⟩ := o_getF X0 hx hZ k2 hown (host := "") (Or.inl (hw 93 rfl)) Via.refl e0 od1 d15_1
  have k4 := fun t_ ht_ => k3 t_ (o_ifNo X3 hx d15_4 ((if0 _ _).trans (feq (by decide)).1) ht_)
  obtain ⟨T5, X5, e5, k5⟩ := o_getS X3 hx hZ k4 hown (host := "") (Or.inl (hw 95 rfl)) Via.refl e3 (sTd.ext X00.2) d15_7
  have od6 := fDm.ext X00.2
  have k7 := fun t_ ht_ => k5 t_ (o_goto X5 hx d15_10 16 (o_astore X5 hx d15_16 #[Lr dco, Lr ar, Li 0, Li 6, Lr tbd, Lu, Lu, Lu, Lu] rfl rfl (o_iconst X5 hx d15_18 0 rfl (o_istore X5 hx d15_19 #[Lr dco, Lr ar, Li 0, Li 6, Lr tbd, Li 0, Lu, Lu, Lu] rfl (o_iloadN X5 hx d15_21 rfl (o_iloadN X5 hx d15_22 rfl (o_isub X5 hx d15_23 (rfl : _ = (6 : Int32)) (o_istore X5 hx d15_24 #[Lr dco, Lr ar, Li 0, Li 6, Lr tbd, Li 0, Li 6, Lu, Lu] rfl (o_iload X5 hx d15_26 rfl (o_ifYes X5 hx d15_28 ((if0 _ _).trans (feq (by decide)).2) 33 (o_iload X5 hx d15_33 rfl (o_iconst X5 hx d15_35 2 rfl (o_icmpYes X5 hx d15_36 (flt (by decide)).2.1 66 (o_aloadN X5 hx d15_66 rfl rfl ht_))))))))))))))
  obtain ⟨T8, X8, e8, k8⟩ := o_getF X5 hx hZ k7 hown (host := "") (Or.inl (hw 96 rfl)) Via.refl e5 od6 d15_67
  have k9 := fun t_ ht_ => k8 t_ (o_ifYes X8 hx d15_70 ((if0 _ _).trans (teq (by decide)).1) 141 (o_aloadN X8 hx d15_141 rfl rfl (o_iloadN X8 hx d15_142 rfl (o_iconst X8 hx d15_143 1 rfl (o_isub X8 hx d15_144 (rfl : _ = (5 : Int32)) (o_ldB X8 hx hZ d15_145 e8 Va ⟨by decide, by decide⟩ (rfl : _ = Value.int r5) (o_bipush X8 hx d15_146 61 rfl (o_icmpYes X8 hx d15_148 (feq (own_r61 hc5)).2 167 (o_iload X8 hx d15_167 rfl (o_ifNo X8 hx d15_169 ((if0 _ _).trans (teq (by decide)).2) (o_iload X8 hx d15_172 rfl (o_iconst X8 hx d15_174 3 rfl (o_iand X8 hx d15_175 (rfl : _ = (2 : Int32)) (o_ifNo X8 hx d15_176 ((if0 _ _).trans (feq (by decide)).1) (o_iconst X8 hx d15_179 4 rfl (o_iload X8 hx d15_180 rfl (o_iconst X8 hx d15_182 3 rfl (o_iand X8 hx d15_183 (rfl : _ = (2 : Int32)) (o_isub X8 hx d15_184 (rfl : _ = (2 : Int32)) (o_istore X8 hx d15_185 #[Lr dco, Lr ar, Li 0, Li 6, Lr tbd, Li 2, Li 6, Lu, Lu] rfl (o_iconst X8 hx d15_187 3 rfl (o_iload X8 hx d15_188 rfl (o_i2l X8 hx d15_190 (o_ldc2Long X8 hx d15_191 hown (mvT hZ (hw 98 rfl)) (o_ladd X8 hx d15_194 rfl (o_ldc2Long X8 hx d15_195 hown (mvT hZ (hw 99 rfl)) (o_ldiv X8 hx d15_198 (by decide) (o_l2i X8 hx d15_199 (o_imul X8 hx d15_200 rfl (o_iload X8 hx d15_201 rfl (o_isub X8 hx d15_203 rfl ht_)))))))))))))))))))))))))))))))
  exact o_retI X8 hx k9 hlk hret d15_204 (by rw [e8]; exact ⟨congrArg (fun z => some (Value.int z)) (show (((3 : Int32) * (((((6 : Int32).toInt64) + (3 : Int64)) / (4 : Int64)).toInt32)) - (2 : Int32)) = (4 : Int32) from by decide), N0, rfl⟩)
theorem ef_71 (m : MethodId) (x0 x1 : Addr) (x2 x3 : Int32) (x4 : Addr) : entryFrame m #[.ref x0, .ref x1, .int x2, .int x3, .ref x4] 11 = mkF m 0 #[Lr x0, Lr x1, Li x2, Li x3, Lr x4, Lu, Lu, Lu, Lu, Lu, Lu] [] := by first | (simp [entryFrame, mkF, argsToLocals, Value.category]; done) | rfl
def Q71 (Z : State) (dco ar ds eno iso utf tbd tbe : Addr) (kd ke : ClassId) (G1 : Int32) (fm : Value) (kb kc : ClassId) (B0 B1 B2 B3 B4 B5 v0 v1 v2 v3 v4 v5 v6 v7 r0 r1 r2 r3 r4 r5 r6 r7 : Int32) (h0 : Heap) (n0 : Nat) (v : Option Value) (h : Heap) (L : List Loc) : Prop := ∃ (y0 y1 y2 y3 : Int32), v = some (.int (4 : Int32)) ∧ Fr n0 L ∧ Keep h0 h [ds] ∧ Arv Z h ds kc .byte (4 : Int32) [.int y0, .int y1, .int y2, .int y3] (.int 0) ∧ own_SB y0 B0 ∧ own_SB y1 B1 ∧ own_SB y2 B2 ∧ own_SB y3 B3
set_option maxRecDepth 65536 in
set_option maxHeartbeats 40000000 in
theorem rm71 (hw : own_W a0 Z) (dco ar ds eno iso utf tbd tbe : Addr) (kd ke : ClassId) (G1 : Int32) (fm : Value) (kb kc : ClassId) (B0 B1 B2 B3 B4 B5 v0 v1 v2 v3 v4 v5 v6 v7 r0 r1 r2 r3 r4 r5 r6 r7 : Int32) (h0 : Heap) (n0 : Nat) (Z0 : n0 ≤ h0.size) (hG : own_G Z dco eno iso utf tbd tbe kd ke G1 fm) (X00 : Old Z n0 h0) (Va : Arv Z h0 ar kb .byte (6 : Int32) [.int r0, .int r1, .int r2, .int r3, .int r4, .int r5] (.int 0)) (Vd : Arv Z h0 ds kc .byte (4 : Int32) [.int (0 : Int32), .int (0 : Int32), .int (0 : Int32), .int (0 : Int32)] (.int 0)) (hne : ar ≠ ds) (g_ds : n0 ≤ ds) (hD : own_D 4 B0 B1 B2 B3 B4 B5 v0 v1 v2 v3 v4 v5 v6 v7 r0 r1 r2 r3 r4 r5 r6 r7) :
    own_M l Z yy16 q16 11 (some .int) ⟨1, 0, 0, 27⟩ #[.ref dco, .ref ar, .int 0, .int 6, .ref ds] h0 [] (Q71 Z dco ar ds eno iso utf tbd tbe kd ke G1 fm kb kc B0 B1 B2 B3 B4 B5 v0 v1 v2 v3 v4 v5 v6 v7 r0 r1 r2 r3 r4 r5 r6 r7 h0 n0) := by
  refine own_body (plainFor_of_name pn_2) ?_
  intro p e s m below meth c s₁ A hx hml hown hnm hlk hret hZ X0 e0 k0
  replace k0 := own_ent (ef_71 m dco ar 0 6 ds) k0
  have N0 := Fr.nil n0
  have KK : Keep h0 h0 [ds] := Keep.refl h0 [ds]
  obtain ⟨sD, sE, eD, eE, fDu, fDm, fEp, fEl, fEu, sI, sU, iu, sTd, sTe, aTd, aTe, sC, gC, sS, fmr⟩ := id hG
  obtain ⟨hq0, hq1, hc0, hc1, hc2, hc3, hc4, hc5, hc6, hc7, hz1, hz2, hz4, hz5⟩ := id hD
  have od1 := fDu.ext X00.2
  have k2 := fun t_ ht_ => k0 t_ (o_aloadN X0 hx d16_0 rfl rfl ht_)
  obtain ⟨T3, X3, e3, k3⟩ := o_getF X0 hx hZ k2 hown (host := "") (Or.inl (hw 93 rfl)) Via.refl e0 od1 d16_1
  have k4 := fun t_ ht_ => k3 t_ (o_ifNo X3 hx d16_4 ((if0 _ _).trans (feq (by decide)).1) ht_)
  obtain ⟨T5, X5, e5, k5⟩ := o_getS X3 hx hZ k4 hown (host := "") (Or.inl (hw 95 rfl)) Via.refl e3 (sTd.ext X00.2) d16_7
  have k6 := fun t_ ht_ => k5 t_ (o_goto X5 hx d16_10 16 (o_astore X5 hx d16_16 #[Lr dco, Lr ar, Li 0, Li 6, Lr ds, Lr tbd, Lu, Lu, Lu, Lu, Lu] rfl rfl (o_iconst X5 hx d16_18 0 rfl (o_istore X5 hx d16_19 #[Lr dco, Lr ar, Li 0, Li 6, Lr ds, Lr tbd, Li 0, Lu, Lu, Lu, Lu] rfl (o_iconst X5 hx d16_21 0 rfl (o_istore X5 hx d16_22 #[Lr dco, Lr ar, Li 0, Li 6, Lr ds, Lr tbd, Li 0, Li 0, Lu, Lu, Lu] rfl (o_bipush X5 hx d16_24 18 rfl (o_istore X5 hx d16_26 #[Lr dco, Lr ar, Li 0, Li 6, Lr ds, Lr tbd, Li 0, Li 0, Li 18, Lu, Lu] rfl (o_iloadN X5 hx d16_28 rfl (o_iloadN X5 hx d16_29 rfl (o_icmpNo X5 hx d16_30 (tlt (by decide)).2.1 (o_iload X5 hx d16_33 rfl (o_bipush X5 hx d16_35 18 rfl (o_icmpNo X5 hx d16_37 (teq (by decide)).2 (o_iloadN X5 hx d16_40 rfl (o_iloadN X5 hx d16_41 rfl (o_iconst X5 hx d16_42 4 rfl (o_isub X5 hx d16_43 (rfl : _ = (2 : Int32)) (o_icmpNo X5 hx d16_44 (tlt (by decide)).2.1 (o_aloadN X5 hx d16_47 rfl rfl (o_aloadN X5 hx d16_48 rfl rfl (o_iloadN X5 hx d16_49 rfl (o_iloadN X5 hx d16_50 rfl (o_aload X5 hx d16_51 rfl rfl (o_iload X5 hx d16_53 rfl (o_aloadN X5 hx d16_55 rfl rfl ht_))))))))))))))))))))))))))
  obtain ⟨T7, X7, e7, k7⟩ := o_getF X5 hx hZ k6 hown (host := "") (Or.inl (hw 93 rfl)) Via.refl e5 od1 d16_56
  have od8 := fDm.ext X00.2
  have k9 := fun t_ ht_ => k7 t_ (o_aloadN X7 hx d16_59 rfl rfl ht_)
  obtain ⟨T10, X10, e10, k10⟩ := o_getF X7 hx hZ k9 hown (host := "") (Or.inl (hw 96 rfl)) Via.refl e7 od8 d16_60
  have od11 := eD.ext X00.2
  obtain ⟨_, T12, Lc12, X12, hQ12, k12⟩ := o_privateM X10 hx hZ k10 yy7 hown (hw 181 rfl) (hw 182 rfl) (hw 184 rfl) (hw 183 rfl) (hw 185 rfl) (rm24 hw dco ar ds eno iso utf tbd tbe kd ke G1 fm kb kc B0 B1 B2 B3 B4 B5 v0 v1 v2 v3 v4 v5 v6 v7 r0 r1 r2 r3 r4 r5 r6 r7 h0 n0 Z0 hG X00 Va Vd hne g_ds hD) (hw 48 rfl) 0 od11 [.ref ar, .int 0, .int 6, .ref ds, .int 0, .int 1, .int 0] [] (lenOf pd_19 rfl) hml e10 d16_63
  obtain ⟨yb0, yb1, yb2, rfl, Nq12, Kb, Vb, sb0, sb1, sb2⟩ := hQ12
  have N12 := Fr.app N0 Nq12
  replace k12 := own_pushR k12
  replace X00 := X00.keep Kb (by simpa using g_ds)
  replace Va := Va.keep Kb (by simpa using hne)
  have Zs12 := Nat.le_trans Z0 Kb.1
  replace KK := KK.trans Kb (fun x q => Or.inl q)
  have k13 := fun t_ ht_ => k12 t_ (o_istore X12 hx d16_66 #[Lr dco, Lr ar, Li 0, Li 6, Lr ds, Lr tbd, Li 0, Li 0, Li 18, Li 3, Lu] rfl (o_iload X12 hx d16_68 rfl (o_iconst X12 hx d16_70 2 rfl (o_iadd X12 hx d16_71 (rfl : _ = (5 : Int32)) (o_iconst X12 hx d16_72 3 rfl (o_idiv X12 hx d16_73 (by decide) ht_))))))
  rw [show ((5 : Int32) / (3 : Int32)) = (1 : Int32) from by decide] at k13
  have k14 := fun t_ ht_ => k13 t_ (o_iconst X12 hx d16_74 4 rfl (o_imul X12 hx d16_75 (rfl : _ = (4 : Int32)) (o_istore X12 hx d16_76 #[Lr dco, Lr ar, Li 0, Li 6, Lr ds, Lr tbd, Li 0, Li 0, Li 18, Li 3, Li 4] rfl (o_iloadN X12 hx d16_78 rfl (o_iload X12 hx d16_79 rfl (o_iadd X12 hx d16_81 (rfl : _ = (4 : Int32)) (o_istoreN X12 hx d16_82 #[Lr dco, Lr ar, Li 4, Li 6, Lr ds, Lr tbd, Li 0, Li 0, Li 18, Li 3, Li 4] rfl (o_iload X12 hx d16_83 rfl (o_iload X12 hx d16_85 rfl (o_iadd X12 hx d16_87 (rfl : _ = (3 : Int32)) (o_istore X12 hx d16_88 #[Lr dco, Lr ar, Li 4, Li 6, Lr ds, Lr tbd, Li 3, Li 0, Li 18, Li 3, Li 4] rfl (o_iloadN X12 hx d16_90 rfl (o_iloadN X12 hx d16_91 rfl (o_icmpYes X12 hx d16_92 (tlt (by decide)).1 98 (o_aloadN X12 hx d16_98 rfl rfl (o_iloadN X12 hx d16_99 rfl (o_iinc X12 hx d16_100 #[Lr dco, Lr ar, Li 5, Li 6, Lr ds, Lr tbd, Li 3, Li 0, Li 18, Li 3, Li 4] rfl rfl (o_ldB X12 hx hZ d16_103 rfl Va ⟨by decide, by decide⟩ (rfl : _ = Value.int r4) (o_sipush X12 hx d16_104 255 rfl (o_iand X12 hx d16_107 rfl ht_))))))))))))))))))))
  rw [own_r255 hc4] at k14
  have od15 := aTd.ext X00.2
  have k16 := fun t_ ht_ => k14 t_ (o_istore X12 hx d16_108 #[Lr dco, Lr ar, Li 5, Li 6, Lr ds, Lr tbd, Li 3, Li 0, Li 18, Li r4, Li 4] rfl (o_aload X12 hx d16_110 rfl rfl (o_iload X12 hx d16_112 rfl (o_ldI X12 hx hZ d16_114 rfl od15 (own_i256 hc4) (own_tabD_at hc4) (o_dup X12 hx d16_115 rfl (o_istore X12 hx d16_116 #[Lr dco, Lr ar, Li 5, Li 6, Lr ds, Lr tbd, Li 3, Li 0, Li 18, Li v4, Li 4] rfl (o_ifYes X12 hx d16_118 ((if0 _ _).trans (flt (own_v0 hc4)).2.1) 214 (o_iload X12 hx d16_214 rfl (o_iload X12 hx d16_216 rfl (o_iload X12 hx d16_218 rfl (o_ishl X12 hx d16_220 (o_ior X12 hx d16_221 rfl (o_istore X12 hx d16_222 #[Lr dco, Lr ar, Li 5, Li 6, Lr ds, Lr tbd, Li 3, Li ((0 : Int32) ||| (v4 <<< ((18 : Int32) &&& 31))), Li 18, Li v4, Li 4] rfl (o_iinc X12 hx d16_224 #[Lr dco, Lr ar, Li 5, Li 6, Lr ds, Lr tbd, Li 3, Li ((0 : Int32) ||| (v4 <<< ((18 : Int32) &&& 31))), Li 12, Li v4, Li 4] rfl rfl (o_iload X12 hx d16_227 rfl (o_ifYes X12 hx d16_229 ((if0 _ _).trans (flt (by decide)).2.1) 278 (o_goto X12 hx d16_278 28 (o_iloadN X12 hx d16_28 rfl (o_iloadN X12 hx d16_29 rfl (o_icmpNo X12 hx d16_30 (tlt (by decide)).2.1 (o_iload X12 hx d16_33 rfl (o_bipush X12 hx d16_35 18 rfl (o_icmpYes X12 hx d16_37 (feq (by decide)).2 90 (o_iloadN X12 hx d16_90 rfl (o_iloadN X12 hx d16_91 rfl (o_icmpYes X12 hx d16_92 (tlt (by decide)).1 98 (o_aloadN X12 hx d16_98 rfl rfl (o_iloadN X12 hx d16_99 rfl (o_iinc X12 hx d16_100 #[Lr dco, Lr ar, Li 6, Li 6, Lr ds, Lr tbd, Li 3, Li ((0 : Int32) ||| (v4 <<< ((18 : Int32) &&& 31))), Li 12, Li v4, Li 4] rfl rfl (o_ldB X12 hx hZ d16_103 rfl Va ⟨by decide, by decide⟩ (rfl : _ = Value.int r5) (o_sipush X12 hx d16_104 255 rfl (o_iand X12 hx d16_107 rfl ht_))))))))))))))))))))))))))))))))
  rw [own_r255 hc5] at k16
  have k17 := fun t_ ht_ => k16 t_ (o_istore X12 hx d16_108 #[Lr dco, Lr ar, Li 6, Li 6, Lr ds, Lr tbd, Li 3, Li ((0 : Int32) ||| (v4 <<< ((18 : Int32) &&& 31))), Li 12, Li r5, Li 4] rfl (o_aload X12 hx d16_110 rfl rfl (o_iload X12 hx d16_112 rfl (o_ldI X12 hx hZ d16_114 rfl od15 (own_i256 hc5) (own_tabD_at hc5) (o_dup X12 hx d16_115 rfl (o_istore X12 hx d16_116 #[Lr dco, Lr ar, Li 6, Li 6, Lr ds, Lr tbd, Li 3, Li ((0 : Int32) ||| (v4 <<< ((18 : Int32) &&& 31))), Li 12, Li v5, Li 4] rfl (o_ifYes X12 hx d16_118 ((if0 _ _).trans (flt (own_v0 hc5)).2.1) 214 (o_iload X12 hx d16_214 rfl (o_iload X12 hx d16_216 rfl (o_iload X12 hx d16_218 rfl (o_ishl X12 hx d16_220 (o_ior X12 hx d16_221 rfl (o_istore X12 hx d16_222 #[Lr dco, Lr ar, Li 6, Li 6, Lr ds, Lr tbd, Li 3, Li (((0 : Int32) ||| (v4 <<< ((18 : Int32) &&& 31))) ||| (v5 <<< ((12 : Int32) &&& 31))), Li 12, Li v5, Li 4] rfl (o_iinc X12 hx d16_224 #[Lr dco, Lr ar, Li 6, Li 6, Lr ds, Lr tbd, Li 3, Li (((0 : Int32) ||| (v4 <<< ((18 : Int32) &&& 31))) ||| (v5 <<< ((12 : Int32) &&& 31))), Li 6, Li v5, Li 4] rfl rfl (o_iload X12 hx d16_227 rfl (o_ifYes X12 hx d16_229 ((if0 _ _).trans (flt (by decide)).2.1) 278 (o_goto X12 hx d16_278 28 (o_iloadN X12 hx d16_28 rfl (o_iloadN X12 hx d16_29 rfl (o_icmpYes X12 hx d16_30 (flt (by decide)).2.1 281 (o_iload X12 hx d16_281 rfl (o_bipush X12 hx d16_283 6 rfl (o_icmpNo X12 hx d16_285 (teq (by decide)).2 ht_)))))))))))))))))))))))
  obtain ⟨bt3, hbt3⟩ : ∃ z : Int32, z = (((0 : Int32) ||| (v4 <<< ((18 : Int32) &&& 31))) ||| (v5 <<< ((12 : Int32) &&& 31))) := ⟨_, rfl⟩
  rw [← hbt3] at k17
  have k18 := fun t_ ht_ => k17 t_ (o_aload X12 hx d16_288 rfl rfl (o_iload X12 hx d16_290 rfl (o_iinc X12 hx d16_292 #[Lr dco, Lr ar, Li 6, Li 6, Lr ds, Lr tbd, Li 4, Li bt3, Li 6, Li v5, Li 4] rfl rfl (o_iload X12 hx d16_295 rfl (o_bipush X12 hx d16_297 16 rfl (o_ishr X12 hx d16_299 (o_i2b X12 hx d16_300 ht_)))))))
  obtain ⟨yy3, hyy3⟩ : ∃ z : Int32, z = ((bt3 >>> ((16 : Int32) &&& 31)).toInt8.toInt32) := ⟨_, rfl⟩
  rw [← hyy3] at k18
  have sb3 := own_T2_0 hq1 hc4 hc5 hbt3 hyy3
  obtain ⟨T19, h19, X19, e19, W19, Vb, k19⟩ := o_stB X12 hx hZ k18 rfl Vb 3 [.int yb0, .int yb1, .int yb2, .int (nar .byte yy3)] d16_301
  replace X00 := X00.wr W19 g_ds
  replace Va := Va.other W19 hne
  have Zs19 := Nat.le_trans Zs12 (Keep.of_wr W19).1
  replace KK := KK.wr W19 (Or.inl (by simp))
  have N19 := Fr.snoc X19 N12 g_ds
  have k20 := fun t_ ht_ => k19 t_ (o_goto X19 hx d16_302 358 (o_iloadN X19 hx d16_358 rfl (o_iloadN X19 hx d16_359 rfl (o_icmpYes X19 hx d16_360 (flt (by decide)).2.1 416 (o_iload X19 hx d16_416 rfl ht_)))))
  exact o_retI X19 hx k20 hlk hret d16_418 (by rw [e19]; exact ⟨yb0, yb1, yb2, (nar .byte yy3), rfl, N19, KK, Vb, sb0, sb1, sb2, sb3⟩)
theorem ef_72 (m : MethodId) (x0 x1 : Addr) : entryFrame m #[.ref x0, .ref x1] 4 = mkF m 0 #[Lr x0, Lr x1, Lu, Lu] [] := by first | (simp [entryFrame, mkF, argsToLocals, Value.category]; done) | rfl
def Q72 (Z : State) (dco ar eno iso utf tbd tbe : Addr) (kd ke : ClassId) (G1 : Int32) (fm : Value) (kb : ClassId) (B0 B1 B2 B3 B4 B5 v0 v1 v2 v3 v4 v5 v6 v7 r0 r1 r2 r3 r4 r5 r6 r7 : Int32) (h0 : Heap) (n0 : Nat) (v : Option Value) (h : Heap) (L : List Loc) : Prop := ∃ (ds : Addr) (kc : ClassId) (y0 y1 y2 y3 : Int32), v = some (.ref ds) ∧ Fr n0 L ∧ Keep h0 h [] ∧ Arv Z h ds kc .byte (4 : Int32) [.int y0, .int y1, .int y2, .int y3] (.int 0) ∧ h0.size ≤ ds ∧ n0 ≤ ds ∧ own_SB y0 B0 ∧ own_SB y1 B1 ∧ own_SB y2 B2 ∧ own_SB y3 B3
set_option maxRecDepth 65536 in
set_option maxHeartbeats 40000000 in
theorem rm72 (hw : own_W a0 Z) (dco ar eno iso utf tbd tbe : Addr) (kd ke : ClassId) (G1 : Int32) (fm : Value) (kb : ClassId) (B0 B1 B2 B3 B4 B5 v0 v1 v2 v3 v4 v5 v6 v7 r0 r1 r2 r3 r4 r5 r6 r7 : Int32) (h0 : Heap) (n0 : Nat) (Z0 : n0 ≤ h0.size) (hG : own_G Z dco eno iso utf tbd tbe kd ke G1 fm) (X00 : Old Z n0 h0) (Va : Arv Z h0 ar kb .byte (6 : Int32) [.int r0, .int r1, .int r2, .int r3, .int r4, .int r5] (.int 0)) (hD : own_D 4 B0 B1 B2 B3 B4 B5 v0 v1 v2 v3 v4 v5 v6 v7 r0 r1 r2 r3 r4 r5 r6 r7) :
    own_M l Z yy17 q17 4 (some (.array .byte)) ⟨2, 1, 4, 49⟩ #[.ref dco, .ref ar] h0 [] (Q72 Z dco ar eno iso utf tbd tbe kd ke G1 fm kb B0 B1 B2 B3 B4 B5 v0 v1 v2 v3 v4 v5 v6 v7 r0 r1 r2 r3 r4 r5 r6 r7 h0 n0) := by
  refine own_body (plainFor_of_name pn_2) ?_
  intro p e s m below meth c s₁ A hx hml hown hnm hlk hret hZ X0 e0 k0
  replace k0 := own_ent (ef_72 m dco ar) k0
  have N0 := Fr.nil n0
  have KK : Keep h0 h0 [] := Keep.refl h0 []
  obtain ⟨sD, sE, eD, eE, fDu, fDm, fEp, fEl, fEu, sI, sU, iu, sTd, sTe, aTd, aTe, sC, gC, sS, fmr⟩ := id hG
  obtain ⟨hq0, hq1, hc0, hc1, hc2, hc3, hc4, hc5, hc6, hc7, hz1, hz2, hz4, hz5⟩ := id hD
  have od1 := eD.ext X00.2
  have k2 := fun t_ ht_ => k0 t_ (o_aloadN X0 hx d17_0 rfl rfl (o_aloadN X0 hx d17_1 rfl rfl (o_iconst X0 hx d17_2 0 rfl (o_aloadN X0 hx d17_3 rfl rfl (o_len X0 hx hZ d17_4 e0 Va ht_)))))
  obtain ⟨_, T3, Lc3, X3, hQ3, k3⟩ := o_privateM X0 hx hZ k2 yy15 hown (hw 88 rfl) (hw 89 rfl) (hw 91 rfl) (hw 90 rfl) (hw 92 rfl) (rm70 hw dco ar eno iso utf tbd tbe kd ke G1 fm kb B0 B1 B2 B3 B4 B5 v0 v1 v2 v3 v4 v5 v6 v7 r0 r1 r2 r3 r4 r5 r6 r7 h0 n0 Z0 hG X00 Va hD) (hw 48 rfl) 0 od1 [.ref ar, .int 0, .int 6] [] (lenOf pd_8 rfl) hml e0 d17_5
  obtain ⟨rfl, Nq3, e3⟩ := hQ3
  have N3 := Fr.app N0 Nq3
  replace k3 := own_pushR k3
  obtain ⟨T4, h4, c4, X4, e4, E4, Ax4, Bx4, k4⟩ := o_newP X3 hx hZ k3 (hw 27 rfl) e3 (by decide) 4 (by decide) "[B" d17_8
  obtain ⟨b4, g4⟩ : ∃ z, z = h0.size := ⟨_, rfl⟩
  rw [← g4] at Ax4 Bx4 k4
  have ne_ar_b4 : ar ≠ b4 := Nat.ne_of_lt (Nat.lt_of_lt_of_le Va.lt (Nat.le_of_eq g4.symm))
  have g_b4 : n0 ≤ b4 := Nat.le_trans Z0 (Nat.le_of_eq g4.symm)
  have sz_b4 : h0.size ≤ b4 := Nat.le_trans KK.1 (Nat.le_of_eq g4.symm)
  replace X00 : Old Z n0 h4 := ⟨X00.1, Nat.le_trans X00.2.1 E4.1, fun x c r => E4.2 x c (X00.2.2 x c r)⟩
  replace Va := Va.ext E4
  have Zs4 := Nat.le_trans Z0 E4.1
  replace KK := KK.ext E4
  have Ex_b4 := Bx4
  have V_b4 : Arv Z h4 b4 c4 .byte 4 [.int 0, .int 0, .int 0, .int 0] (.int 0) := (Arv.new Ax4 (by decide)).pad (pad_rep [] (.int 0) 4)
  have od5 := eD.ext X00.2
  have k6 := fun t_ ht_ => k4 t_ (o_astoreN X4 hx d17_10 #[Lr dco, Lr ar, Lr b4, Lu] rfl rfl (o_aloadN X4 hx d17_11 rfl rfl (o_aloadN X4 hx d17_12 rfl rfl (o_iconst X4 hx d17_13 0 rfl (o_aloadN X4 hx d17_14 rfl rfl (o_len X4 hx hZ d17_15 e4 Va (o_aloadN X4 hx d17_16 rfl rfl ht_)))))))
  obtain ⟨_, T7, Lc7, X7, hQ7, k7⟩ := o_privateM X4 hx hZ k6 yy16 hown (hw 100 rfl) (hw 101 rfl) (hw 103 rfl) (hw 102 rfl) (hw 104 rfl) (rm71 hw dco ar b4 eno iso utf tbd tbe kd ke G1 fm kb c4 B0 B1 B2 B3 B4 B5 v0 v1 v2 v3 v4 v5 v6 v7 r0 r1 r2 r3 r4 r5 r6 r7 h4 n0 Zs4 hG X00 Va V_b4 ne_ar_b4 g_b4 hD) (hw 48 rfl) 0 od5 [.ref ar, .int 0, .int 6, .ref b4] [] (lenOf pd_9 rfl) hml e4 d17_17
  obtain ⟨yo0, yo1, yo2, yo3, rfl, Nq7, K1, V1, sb0, sb1, sb2, sb3⟩ := hQ7
  have N7 := Fr.app N3 Nq7
  replace k7 := own_pushR k7
  replace X00 := X00.keep K1 (by simpa using g_b4)
  replace Va := Va.keep K1 (by simpa using ne_ar_b4)
  replace Ex_b4 := Ex_b4.keep K1
  have Zs7 := Nat.le_trans Zs4 K1.1
  replace KK := KK.trans K1 (fun x q => by cases List.mem_singleton.mp q; exact Or.inr sz_b4)
  have k8 := fun t_ ht_ => k7 t_ (o_istoreN X7 hx d17_20 #[Lr dco, Lr ar, Lr b4, Li 4] rfl (o_iloadN X7 hx d17_21 rfl (o_aloadN X7 hx d17_22 rfl rfl (o_len X7 hx hZ d17_23 rfl V1 (o_icmpYes X7 hx d17_24 (teq (by decide)).1 33 (o_aloadN X7 hx d17_33 rfl rfl ht_))))))
  exact o_retA X7 hx k8 hlk hret rfl d17_34 (by exact ⟨b4, c4, yo0, yo1, yo2, yo3, rfl, N7, KK, V1, sz_b4, g_b4, sb0, sb1, sb2, sb3⟩)
theorem ef_73 (m : MethodId) (x0 x1 : Addr) : entryFrame m #[.ref x0, .ref x1] 2 = mkF m 0 #[Lr x0, Lr x1] [] := by first | (simp [entryFrame, mkF, argsToLocals, Value.category]; done) | rfl
def Q73 (Z : State) (dco a1 eno iso utf tbd tbe : Addr) (kd ke : ClassId) (G1 : Int32) (fm : Value) (ar : Addr) (kb : ClassId) (B0 B1 B2 B3 B4 B5 v0 v1 v2 v3 v4 v5 v6 v7 r0 r1 r2 r3 r4 r5 r6 r7 : Int32) (h0 : Heap) (n0 : Nat) (v : Option Value) (h : Heap) (L : List Loc) : Prop := ∃ (ds : Addr) (kc : ClassId) (y0 y1 y2 y3 : Int32), v = some (.ref ds) ∧ Fr n0 L ∧ Keep h0 h [] ∧ Arv Z h ds kc .byte (4 : Int32) [.int y0, .int y1, .int y2, .int y3] (.int 0) ∧ h0.size ≤ ds ∧ n0 ≤ ds ∧ own_SB y0 B0 ∧ own_SB y1 B1 ∧ own_SB y2 B2 ∧ own_SB y3 B3
set_option maxRecDepth 65536 in
set_option maxHeartbeats 40000000 in
theorem rm73 (hw : own_W a0 Z) (dco a1 eno iso utf tbd tbe : Addr) (kd ke : ClassId) (G1 : Int32) (fm : Value) (ar : Addr) (kb : ClassId) (B0 B1 B2 B3 B4 B5 v0 v1 v2 v3 v4 v5 v6 v7 r0 r1 r2 r3 r4 r5 r6 r7 : Int32) (h0 : Heap) (n0 : Nat) (Z0 : n0 ≤ h0.size) (hG : own_G Z dco eno iso utf tbd tbe kd ke G1 fm) (X00 : Old Z n0 h0) (Es : Exa Z h0 a1 "java/lang/String") (Fc : Fld Z h0 a1 "java/lang/String" "coder" "B" (.int 0)) (Fv : Fld Z h0 a1 "java/lang/String" "value" "[B" (.ref ar)) (Va : Arv Z h0 ar kb .byte (6 : Int32) [.int r0, .int r1, .int r2, .int r3, .int r4, .int r5] (.int 0)) (Ea : Exa Z h0 ar "[B") (hD : own_D 4 B0 B1 B2 B3 B4 B5 v0 v1 v2 v3 v4 v5 v6 v7 r0 r1 r2 r3 r4 r5 r6 r7) :
    own_M l Z yy18 q18 2 (some (.array .byte)) ⟨5, 2, 12, 76⟩ #[.ref dco, .ref a1] h0 [] (Q73 Z dco a1 eno iso utf tbd tbe kd ke G1 fm ar kb B0 B1 B2 B3 B4 B5 v0 v1 v2 v3 v4 v5 v6 v7 r0 r1 r2 r3 r4 r5 r6 r7 h0 n0) := by
  refine own_body (plainFor_of_name pn_2) ?_
  intro p e s m below meth c s₁ A hx hml hown hnm hlk hret hZ X0 e0 k0
  replace k0 := own_ent (ef_73 m dco a1) k0
  have N0 := Fr.nil n0
  have KK : Keep h0 h0 [] := Keep.refl h0 []
  obtain ⟨sD, sE, eD, eE, fDu, fDm, fEp, fEl, fEu, sI, sU, iu, sTd, sTe, aTd, aTe, sC, gC, sS, fmr⟩ := id hG
  obtain ⟨hq0, hq1, hc0, hc1, hc2, hc3, hc4, hc5, hc6, hc7, hz1, hz2, hz4, hz5⟩ := id hD
  have k1 := fun t_ ht_ => k0 t_ (o_aloadN X0 hx d18_0 rfl rfl (o_aloadN X0 hx d18_1 rfl rfl ht_))
  obtain ⟨T2, X2, e2, k2⟩ := o_getS X0 hx hZ k1 hown (host := "") (Or.inl (hw 50 rfl)) Via.refl e0 (sI.ext X00.2) d18_2
  obtain ⟨_, T3, Lc3, X3, hQ3, k3⟩ := o_virtualM X2 hx hZ k2 yy6 hown (hw 52 rfl) yy6 (hw 53 rfl) (hw 55 rfl) (hw 54 rfl) rfl (rm23 hw a1 iso dco eno utf tbd tbe kd ke G1 fm ar kb (6 : Int32) _ h0 n0 Z0 hG X00 Es Fc Fv Va Ea (by decide)) (hw 56 rfl) (hw 11 rfl) 1 Es [.ref iso] [.ref dco] (lenOf pd_10 rfl) hml e2 d18_5
  obtain ⟨cr, rfl, Nq3, K1, V1, E1, G1_⟩ := hQ3
  have N3 := Fr.app N0 Nq3
  replace k3 := own_pushR k3
  replace X00 := X00.keep K1 (by simp)
  replace Es := Es.keep K1
  replace Fc := Fc.keep K1 (by simp)
  replace Fv := Fv.keep K1 (by simp)
  replace Va := Va.keep K1 (by simp)
  replace Ea := Ea.keep K1
  have Zs3 := Nat.le_trans Z0 K1.1
  replace KK := KK.trans K1 (fun x q => nomatch q)
  have od4 := eD.ext X00.2
  obtain ⟨_, T5, Lc5, X5, hQ5, k5⟩ := o_virtualM X3 hx hZ k3 yy17 hown (hw 83 rfl) yy17 (hw 84 rfl) (hw 86 rfl) (hw 85 rfl) rfl (rm72 hw dco cr eno iso utf tbd tbe kd ke G1 fm kb B0 B1 B2 B3 B4 B5 v0 v1 v2 v3 v4 v5 v6 v7 r0 r1 r2 r3 r4 r5 r6 r7 T3.heap n0 Zs3 hG X00 V1 hD) (hw 87 rfl) (hw 48 rfl) 0 od4 [.ref cr] [] (lenOf pd_11 rfl) hml rfl d18_8
  obtain ⟨ds, kc, yo0, yo1, yo2, yo3, rfl, Nq5, K2, V2, G2, g_ds, sb0, sb1, sb2, sb3⟩ := hQ5
  have N5 := Fr.app N3 Nq5
  replace k5 := own_pushR k5
  have sz_ds : h0.size ≤ ds := Nat.le_trans KK.1 G2
  replace X00 := X00.keep K2 (by simp)
  replace Es := Es.keep K2
  replace Fc := Fc.keep K2 (by simp)
  replace Fv := Fv.keep K2 (by simp)
  replace Va := Va.keep K2 (by simp)
  replace Ea := Ea.keep K2
  replace V1 := V1.keep K2 (by simp)
  replace E1 := E1.keep K2
  have Zs5 := Nat.le_trans Zs3 K2.1
  replace KK := KK.trans K2 (fun x q => nomatch q)
  exact o_retA X5 hx k5 hlk hret rfl d18_11 (by exact ⟨ds, kc, yo0, yo1, yo2, yo3, rfl, N5, KK, V2, sz_ds, g_ds, sb0, sb1, sb2, sb3⟩)
theorem ef_75 (m : MethodId) (x0 x1 : Int32) : entryFrame m #[.int x0, .int x1] 3 = mkF m 0 #[Li x0, Li x1, Lu] [] := by first | (simp [entryFrame, mkF, argsToLocals, Value.category]; done) | rfl
def Q75 (Z : State)  (h0 : Heap) (n0 : Nat) (v : Option Value) (h : Heap) (L : List Loc) : Prop := v = some (.int (6 : Int32)) ∧ Fr n0 L ∧ h = h0
set_option maxRecDepth 65536 in
set_option maxHeartbeats 40000000 in
theorem rm75 (hw : own_W a0 Z)  (h0 : Heap) (n0 : Nat) (Z0 : n0 ≤ h0.size) :
    own_M l Z yy20 q21 3 (some .int) ⟨0, 0, 0, 0⟩ #[.int 4, .int 2] h0 [] (Q75 Z  h0 n0) := by
  refine own_body (Jvm.Free.JP.mathPlain rfl (by decide +kernel)) ?_
  intro p e s m below meth c s₁ A hx hml hown hnm hlk hret hZ X0 e0 k0
  replace k0 := own_ent (ef_75 m 4 2) k0
  have N0 := Fr.nil n0
  have k1 := fun t_ ht_ => k0 t_ (o_iloadN X0 hx d21_0 rfl (o_iloadN X0 hx d21_1 rfl (o_iadd X0 hx d21_2 (rfl : _ = (6 : Int32)) (o_istoreN X0 hx d21_3 #[Li 4, Li 2, Li 6] rfl (o_iloadN X0 hx d21_4 rfl (o_iloadN X0 hx d21_5 rfl (o_ixor X0 hx d21_6 rfl (o_iloadN X0 hx d21_7 rfl (o_iloadN X0 hx d21_8 rfl (o_ixor X0 hx d21_9 rfl (o_iand X0 hx d21_10 rfl (o_ifYes X0 hx d21_11 ((if0 _ _).trans (flt (by decide)).2.1) 24 (o_iloadN X0 hx d21_24 rfl ht_)))))))))))))
  exact o_retI X0 hx k1 hlk hret d21_25 (by rw [e0]; exact ⟨congrArg (fun z => some (Value.int z)) (show (6 : Int32) = (6 : Int32) from by decide), N0, rfl⟩)
theorem ef_74 (m : MethodId) (x0 : Addr) (x1 x2 : Int32) : entryFrame m #[.ref x0, .int x1, .int x2] 5 = mkF m 0 #[Lr x0, Li x1, Li x2, Lu, Lu] [] := by first | (simp [entryFrame, mkF, argsToLocals, Value.category]; done) | rfl
def Q74 (Z : State) (eno dco iso utf tbd tbe : Addr) (kd ke : ClassId) (G1 : Int32) (fm : Value) (h0 : Heap) (n0 : Nat) (v : Option Value) (h : Heap) (L : List Loc) : Prop := v = some (.int (6 : Int32)) ∧ Fr n0 L ∧ h = h0
set_option maxRecDepth 65536 in
set_option maxHeartbeats 40000000 in
theorem rm74 (hw : own_W a0 Z) (eno dco iso utf tbd tbe : Addr) (kd ke : ClassId) (G1 : Int32) (fm : Value) (h0 : Heap) (n0 : Nat) (Z0 : n0 ≤ h0.size) (hG : own_G Z dco eno iso utf tbd tbe kd ke G1 fm) (X00 : Old Z n0 h0) :
    own_MH l Z yy21 q19 5 (some .int) [(2, 79, 82, 33)] ⟨1, 0, 0, 15⟩ #[.ref eno, .int 4, .int 1] h0 [] (Q74 Z eno dco iso utf tbd tbe kd ke G1 fm h0 n0) := by
  refine own_bodyH (plainFor_of_name pn_3) ?_
  intro p e s m below meth c s₁ A hx hml hown hnm hlk hret hZ X0 e0 k0
  replace k0 := own_ent (ef_74 m eno 4 1) k0
  have N0 := Fr.nil n0
  obtain ⟨sD, sE, eD, eE, fDu, fDm, fEp, fEl, fEu, sI, sU, iu, sTd, sTe, aTd, aTe, sC, gC, sS, fmr⟩ := id hG
  have od1 := fEp.ext X00.2
  have k2 := fun t_ ht_ => k0 t_ (o_iconst X0 hx d19_0 0 rfl (o_istoreN X0 hx d19_1 #[Lr eno, Li 4, Li 1, Li 0, Lu] rfl (o_aloadN X0 hx d19_2 rfl rfl ht_)))
  obtain ⟨T3, X3, e3, k3⟩ := o_getF X0 hx hZ k2 hown (host := "") (Or.inl (hw 123 rfl)) Via.refl e0 od1 d19_3
  have k4 := fun t_ ht_ => k3 t_ (o_ifYes X3 hx d19_6 ((if0 _ _).trans (teq (by decide)).1) 24 (o_iloadN X3 hx d19_24 rfl (o_iconst X3 hx d19_25 3 rfl (o_irem X3 hx d19_26 (by decide) ht_))))
  rw [show ((4 : Int32) - ((4 : Int32) / (3 : Int32)) * (3 : Int32)) = (1 : Int32) from by decide] at k4
  have k5 := fun t_ ht_ => k4 t_ (o_istore X3 hx d19_27 #[Lr eno, Li 4, Li 1, Li 0, Li 1] rfl (o_iconst X3 hx d19_29 4 rfl (o_iloadN X3 hx d19_30 rfl (o_iconst X3 hx d19_31 3 rfl (o_idiv X3 hx d19_32 (by decide) ht_)))))
  rw [show ((4 : Int32) / (3 : Int32)) = (1 : Int32) from by decide] at k5
  obtain ⟨_, T6, Lc6, X6, hQ6, k6⟩ := o_callSM X3 hx hZ k5 yy19 hown (hw 125 rfl) (hw 126 rfl) (hw 127 rfl) (hw 128 rfl) (rm63 hw h0 n0 Z0) 0 [.int 4, .int 1] [] (lenOf pd_12 rfl) hml e3 d19_33
  obtain ⟨rfl, Nq6, e6⟩ := hQ6
  have N6 := Fr.app N0 Nq6
  replace k6 := own_pushR k6
  have k7 := fun t_ ht_ => k6 t_ (o_iload X6 hx d19_36 rfl (o_ifYes X6 hx d19_38 ((if0 _ _).trans (feq (by decide)).2) 45 (o_iload X6 hx d19_45 rfl (o_iconst X6 hx d19_47 1 rfl (o_iadd X6 hx d19_48 (rfl : _ = (2 : Int32)) ht_)))))
  obtain ⟨_, T8, Lc8, X8, hQ8, k8⟩ := o_callSM X6 hx hZ k7 yy20 hown (hw 129 rfl) (hw 130 rfl) (hw 127 rfl) (hw 131 rfl) (rm75 hw h0 n0 Z0) 0 [.int 4, .int 2] [] (lenOf pd_12 rfl) hml e6 d19_49
  obtain ⟨rfl, Nq8, e8⟩ := hQ8
  have N8 := Fr.app N6 Nq8
  replace k8 := own_pushR k8
  have od9 := fEl.ext X00.2
  have k10 := fun t_ ht_ => k8 t_ (o_istoreN X8 hx d19_52 #[Lr eno, Li 4, Li 1, Li 6, Li 1] rfl (o_aloadN X8 hx d19_53 rfl rfl ht_))
  obtain ⟨T11, X11, e11, k11⟩ := o_getF X8 hx hZ k10 hown (host := "") (Or.inl (hw 132 rfl)) Via.refl e8 od9 d19_54
  have k12 := fun t_ ht_ => k11 t_ (o_ifYes X11 hx d19_57 ((if0 _ _).trans (flt (by decide)).2.2.2) 79 (o_goto X11 hx d19_79 100 (o_iloadN X11 hx d19_100 rfl ht_)))
  exact o_retI X11 hx k12 hlk hret d19_101 (by rw [e11]; exact ⟨rfl, N8, rfl⟩)
theorem ef_76 (m : MethodId) (x0 x1 : Addr) (x2 x3 : Int32) (x4 : Addr) : entryFrame m #[.ref x0, .ref x1, .int x2, .int x3, .ref x4] 16 = mkF m 0 #[Lr x0, Lr x1, Li x2, Li x3, Lr x4, Lu, Lu, Lu, Lu, Lu, Lu, Lu, Lu, Lu, Lu, Lu] [] := by first | (simp [entryFrame, mkF, argsToLocals, Value.category]; done) | rfl
def Q76 (Z : State) (eno ar ds dco iso utf tbd tbe : Addr) (kd ke : ClassId) (G1 : Int32) (fm : Value) (kb kc : ClassId) (B0 B1 B2 B3 B4 B5 v0 v1 v2 v3 v4 v5 v6 v7 r0 r1 r2 r3 r4 r5 r6 r7 y0 y1 y2 y3 : Int32) (h0 : Heap) (n0 : Nat) (v : Option Value) (h : Heap) (L : List Loc) : Prop := v = some (.int (6 : Int32)) ∧ Fr n0 L ∧ Keep h0 h [ds] ∧ Arv Z h ds kc .byte (6 : Int32) [.int r0, .int r1, .int r2, .int r3, .int r4, .int r5] (.int 0)
set_option maxRecDepth 65536 in
set_option maxHeartbeats 40000000 in
theorem rm76 (hw : own_W a0 Z) (eno ar ds dco iso utf tbd tbe : Addr) (kd ke : ClassId) (G1 : Int32) (fm : Value) (kb kc : ClassId) (B0 B1 B2 B3 B4 B5 v0 v1 v2 v3 v4 v5 v6 v7 r0 r1 r2 r3 r4 r5 r6 r7 y0 y1 y2 y3 : Int32) (h0 : Heap) (n0 : Nat) (Z0 : n0 ≤ h0.size) (hG : own_G Z dco eno iso utf tbd tbe kd ke G1 fm) (X00 : Old Z n0 h0) (Va : Arv Z h0 ar kb .byte (4 : Int32) [.int y0, .int y1, .int y2, .int y3] (.int 0)) (Vd : Arv Z h0 ds kc .byte (6 : Int32) [.int (0 : Int32), .int (0 : Int32), .int (0 : Int32), .int (0 : Int32), .int (0 : Int32), .int (0 : Int32)] (.int 0)) (hne : ar ≠ ds) (g_ds : n0 ≤ ds) (hD : own_D 4 B0 B1 B2 B3 B4 B5 v0 v1 v2 v3 v4 v5 v6 v7 r0 r1 r2 r3 r4 r5 r6 r7) (hs0 : own_SB y0 B0) (hs1 : own_SB y1 B1) (hs2 : own_SB y2 B2) (hs3 : own_SB y3 B3) :
    own_M l Z yy22 q22 16 (some .int) ⟨1, 0, 0, 22⟩ #[.ref eno, .ref ar, .int 0, .int 4, .ref ds] h0 [] (Q76 Z eno ar ds dco iso utf tbd tbe kd ke G1 fm kb kc B0 B1 B2 B3 B4 B5 v0 v1 v2 v3 v4 v5 v6 v7 r0 r1 r2 r3 r4 r5 r6 r7 y0 y1 y2 y3 h0 n0) := by
  refine own_body (plainFor_of_name pn_3) ?_
  intro p e s m below meth c s₁ A hx hml hown hnm hlk hret hZ X0 e0 k0
  replace k0 := own_ent (ef_76 m eno ar 0 4 ds) k0
  have N0 := Fr.nil n0
  have KK : Keep h0 h0 [ds] := Keep.refl h0 [ds]
  obtain ⟨sD, sE, eD, eE, fDu, fDm, fEp, fEl, fEu, sI, sU, iu, sTd, sTe, aTd, aTe, sC, gC, sS, fmr⟩ := id hG
  obtain ⟨hq0, hq1, hc0, hc1, hc2, hc3, hc4, hc5, hc6, hc7, hz1, hz2, hz4, hz5⟩ := id hD
  have od1 := fEu.ext X00.2
  have k2 := fun t_ ht_ => k0 t_ (o_aloadN X0 hx d22_0 rfl rfl ht_)
  obtain ⟨T3, X3, e3, k3⟩ := o_getF X0 hx hZ k2 hown (host := "") (Or.inl (hw 139 rfl)) Via.refl e0 od1 d22_1
  have k4 := fun t_ ht_ => k3 t_ (o_ifNo X3 hx d22_4 ((if0 _ _).trans (feq (by decide)).1) ht_)
  obtain ⟨T5, X5, e5, k5⟩ := o_getS X3 hx hZ k4 hown (host := "") (Or.inl (hw 141 rfl)) Via.refl e3 (sTe.ext X00.2) d22_7
  have k6 := fun t_ ht_ => k5 t_ (o_goto X5 hx d22_10 16 (o_astore X5 hx d22_16 #[Lr eno, Lr ar, Li 0, Li 4, Lr ds, Lr tbe, Lu, Lu, Lu, Lu, Lu, Lu, Lu, Lu, Lu, Lu] rfl rfl (o_iloadN X5 hx d22_18 rfl (o_istore X5 hx d22_19 #[Lr eno, Lr ar, Li 0, Li 4, Lr ds, Lr tbe, Li 0, Lu, Lu, Lu, Lu, Lu, Lu, Lu, Lu, Lu] rfl (o_iloadN X5 hx d22_21 rfl (o_iloadN X5 hx d22_22 rfl (o_isub X5 hx d22_23 (rfl : _ = (4 : Int32)) (o_iconst X5 hx d22_24 3 rfl (o_idiv X5 hx d22_25 (by decide) ht_)))))))))
  rw [show ((4 : Int32) / (3 : Int32)) = (1 : Int32) from by decide] at k6
  have od7 := fEl.ext X00.2
  have k8 := fun t_ ht_ => k6 t_ (o_iconst X5 hx d22_26 3 rfl (o_imul X5 hx d22_27 (rfl : _ = (3 : Int32)) (o_istore X5 hx d22_28 #[Lr eno, Lr ar, Li 0, Li 4, Lr ds, Lr tbe, Li 0, Li 3, Lu, Lu, Lu, Lu, Lu, Lu, Lu, Lu] rfl (o_iloadN X5 hx d22_30 rfl (o_iload X5 hx d22_31 rfl (o_iadd X5 hx d22_33 (rfl : _ = (3 : Int32)) (o_istore X5 hx d22_34 #[Lr eno, Lr ar, Li 0, Li 4, Lr ds, Lr tbe, Li 0, Li 3, Li 3, Lu, Lu, Lu, Lu, Lu, Lu, Lu] rfl (o_aloadN X5 hx d22_36 rfl rfl ht_))))))))
  obtain ⟨T9, X9, e9, k9⟩ := o_getF X5 hx hZ k8 hown (host := "") (Or.inl (hw 132 rfl)) Via.refl e5 od7 d22_37
  have k10 := fun t_ ht_ => k9 t_ (o_ifYes X9 hx d22_40 ((if0 _ _).trans (flt (by decide)).2.2.2) 66 (o_iconst X9 hx d22_66 0 rfl (o_istore X9 hx d22_67 #[Lr eno, Lr ar, Li 0, Li 4, Lr ds, Lr tbe, Li 0, Li 3, Li 3, Li 0, Lu, Lu, Lu, Lu, Lu, Lu] rfl (o_iload X9 hx d22_69 rfl (o_iload X9 hx d22_71 rfl (o_icmpNo X9 hx d22_73 (tlt (by decide)).2.1 (o_iload X9 hx d22_76 rfl (o_iload X9 hx d22_78 rfl (o_iadd X9 hx d22_80 (rfl : _ = (3 : Int32)) (o_iload X9 hx d22_81 rfl ht_))))))))))
  obtain ⟨_, T11, Lc11, X11, hQ11, k11⟩ := o_callSM X9 hx hZ k10 yy26 hown (hw 173 rfl) (hw 174 rfl) (hw 127 rfl) (hw 175 rfl) (rm66 hw h0 n0 Z0) 0 [.int 3, .int 3] [] (lenOf pd_12 rfl) hml e9 d22_83
  obtain ⟨rfl, Nq11, e11⟩ := hQ11
  have N11 := Fr.app N0 Nq11
  replace k11 := own_pushR k11
  have k12 := fun t_ ht_ => k11 t_ (o_istore X11 hx d22_86 #[Lr eno, Lr ar, Li 0, Li 4, Lr ds, Lr tbe, Li 0, Li 3, Li 3, Li 0, Li 3, Lu, Lu, Lu, Lu, Lu] rfl (o_aloadN X11 hx d22_88 rfl rfl (o_aloadN X11 hx d22_89 rfl rfl (o_iload X11 hx d22_90 rfl (o_iload X11 hx d22_92 rfl (o_aload X11 hx d22_94 rfl rfl (o_iload X11 hx d22_96 rfl (o_aloadN X11 hx d22_98 rfl rfl ht_))))))))
  obtain ⟨T13, X13, e13, k13⟩ := o_getF X11 hx hZ k12 hown (host := "") (Or.inl (hw 139 rfl)) Via.refl e11 od1 d22_99
  have od14 := eE.ext X00.2
  obtain ⟨_, T15, Lc15, X15, hQ15, k15⟩ := o_privateM X13 hx hZ k13 yy8 hown (hw 176 rfl) (hw 177 rfl) (hw 179 rfl) (hw 178 rfl) (hw 180 rfl) (rm28 hw eno ar ds dco iso utf tbd tbe kd ke G1 fm kb kc B0 B1 B2 B3 B4 B5 v0 v1 v2 v3 v4 v5 v6 v7 r0 r1 r2 r3 r4 r5 r6 r7 y0 y1 y2 y3 h0 n0 Z0 hG X00 Va Vd hne g_ds hD hs0 hs1 hs2 hs3) (hw 111 rfl) 0 od14 [.ref ar, .int 0, .int 3, .ref ds, .int 0, .int 1] [] (lenOf pd_18 rfl) hml e13 d22_102
  obtain ⟨rfl, Nq15, Kb, Vb⟩ := hQ15
  have N15 := Fr.app N11 Nq15
  replace k15 := own_pushV k15
  replace X00 := X00.keep Kb (by simpa using g_ds)
  replace Va := Va.keep Kb (by simpa using hne)
  have Zs15 := Nat.le_trans Z0 Kb.1
  replace KK := KK.trans Kb (fun x q => Or.inl q)
  have k16 := fun t_ ht_ => k15 t_ (o_iload X15 hx d22_105 rfl (o_iload X15 hx d22_107 rfl (o_isub X15 hx d22_109 (rfl : _ = (3 : Int32)) (o_iconst X15 hx d22_110 3 rfl (o_idiv X15 hx d22_111 (by decide) ht_)))))
  rw [show ((3 : Int32) / (3 : Int32)) = (1 : Int32) from by decide] at k16
  have od17 := fEl.ext X00.2
  have k18 := fun t_ ht_ => k16 t_ (o_iconst X15 hx d22_112 4 rfl (o_imul X15 hx d22_113 (rfl : _ = (4 : Int32)) (o_istore X15 hx d22_114 #[Lr eno, Lr ar, Li 0, Li 4, Lr ds, Lr tbe, Li 0, Li 3, Li 3, Li 0, Li 3, Li 4, Lu, Lu, Lu, Lu] rfl (o_iload X15 hx d22_116 rfl (o_iload X15 hx d22_118 rfl (o_iadd X15 hx d22_120 (rfl : _ = (4 : Int32)) (o_istore X15 hx d22_121 #[Lr eno, Lr ar, Li 0, Li 4, Lr ds, Lr tbe, Li 0, Li 3, Li 3, Li 4, Li 3, Li 4, Lu, Lu, Lu, Lu] rfl (o_iload X15 hx d22_123 rfl (o_istore X15 hx d22_125 #[Lr eno, Lr ar, Li 0, Li 4, Lr ds, Lr tbe, Li 3, Li 3, Li 3, Li 4, Li 3, Li 4, Lu, Lu, Lu, Lu] rfl (o_iload X15 hx d22_127 rfl (o_aloadN X15 hx d22_129 rfl rfl ht_)))))))))))
  obtain ⟨T19, X19, e19, k19⟩ := o_getF X15 hx hZ k18 hown (host := "") (Or.inl (hw 132 rfl)) Via.refl rfl od17 d22_130
  have k20 := fun t_ ht_ => k19 t_ (o_icmpYes X19 hx d22_133 (feq (by decide)).2 186 (o_goto X19 hx d22_186 69 (o_iload X19 hx d22_69 rfl (o_iload X19 hx d22_71 rfl (o_icmpYes X19 hx d22_73 (flt (by decide)).2.1 189 (o_iload X19 hx d22_189 rfl (o_iloadN X19 hx d22_191 rfl (o_icmpNo X19 hx d22_192 (tlt (by decide)).2.1 (o_aloadN X19 hx d22_195 rfl rfl (o_iload X19 hx d22_196 rfl (o_iinc X19 hx d22_198 #[Lr eno, Lr ar, Li 0, Li 4, Lr ds, Lr tbe, Li 4, Li 3, Li 3, Li 4, Li 3, Li 4, Lu, Lu, Lu, Lu] rfl rfl (o_ldB X19 hx hZ d22_201 e19 Va ⟨by decide, by decide⟩ (rfl : _ = Value.int y3) (o_sipush X19 hx d22_202 255 rfl (o_iand X19 hx d22_205 rfl ht_))))))))))))))
  rw [own_sb255 hs3] at k20
  have k21 := fun t_ ht_ => k20 t_ (o_istore X19 hx d22_206 #[Lr eno, Lr ar, Li 0, Li 4, Lr ds, Lr tbe, Li 4, Li 3, Li 3, Li 4, Li B3, Li 4, Lu, Lu, Lu, Lu] rfl (o_aload X19 hx d22_208 rfl rfl (o_iload X19 hx d22_210 rfl (o_iinc X19 hx d22_212 #[Lr eno, Lr ar, Li 0, Li 4, Lr ds, Lr tbe, Li 4, Li 3, Li 3, Li 5, Li B3, Li 4, Lu, Lu, Lu, Lu] rfl rfl (o_aload X19 hx d22_215 rfl rfl (o_iload X19 hx d22_217 rfl (o_iconst X19 hx d22_219 2 rfl (o_ishr X19 hx d22_220 ht_))))))))
  obtain ⟨qx4_221, hqx4_221⟩ : ∃ z : Int32, z = (B3 >>> ((2 : Int32) &&& 31)) := ⟨_, rfl⟩
  rw [← hqx4_221] at k21
  have od22 := aTe.ext X00.2
  have k23 := fun t_ ht_ => k21 t_ (o_ldC X19 hx hZ d22_221 e19 od22 (own_i64 hc4 (own_t0 hq1 hqx4_221)) (own_tabE_at hc4 (own_t0 hq1 hqx4_221)) (o_i2b X19 hx d22_222 ht_))
  obtain ⟨T24, h24, X24, e24, W24, Vb, k24⟩ := o_stB X19 hx hZ k23 e19 Vb 4 [.int r0, .int r1, .int r2, .int r3, .int (nar .byte (r4.toInt8.toInt32)), .int 0] d22_223
  replace X00 := X00.wr W24 g_ds
  replace Va := Va.other W24 hne
  have Zs24 := Nat.le_trans Zs15 (Keep.of_wr W24).1
  replace KK := KK.wr W24 (Or.inl (by simp))
  have N24 := Fr.snoc X24 N15 g_ds
  rw [own_rnb hc4] at Vb
  have k25 := fun t_ ht_ => k24 t_ (o_iload X24 hx d22_224 rfl (o_iloadN X24 hx d22_226 rfl (o_icmpNo X24 hx d22_227 (teq (by decide)).2 (o_aload X24 hx d22_230 rfl rfl (o_iload X24 hx d22_232 rfl (o_iinc X24 hx d22_234 #[Lr eno, Lr ar, Li 0, Li 4, Lr ds, Lr tbe, Li 4, Li 3, Li 3, Li 6, Li B3, Li 4, Lu, Lu, Lu, Lu] rfl rfl (o_aload X24 hx d22_237 rfl rfl (o_iload X24 hx d22_239 rfl (o_iconst X24 hx d22_241 4 rfl (o_ishl X24 hx d22_242 (o_bipush X24 hx d22_243 63 rfl (o_iand X24 hx d22_245 rfl ht_))))))))))))
  obtain ⟨qx5_246, hqx5_246⟩ : ∃ z : Int32, z = ((B3 <<< ((4 : Int32) &&& 31)) &&& (63 : Int32)) := ⟨_, rfl⟩
  rw [← hqx5_246] at k25
  have od26 := aTe.ext X00.2
  have k27 := fun t_ ht_ => k25 t_ (o_ldC X24 hx hZ d22_246 e24 od26 (own_i64 hc5 (own_t1 hq1 (hz4 (by decide)) hqx5_246)) (own_tabE_at hc5 (own_t1 hq1 (hz4 (by decide)) hqx5_246)) (o_i2b X24 hx d22_247 ht_))
  obtain ⟨T28, h28, X28, e28, W28, Vb, k28⟩ := o_stB X24 hx hZ k27 e24 Vb 5 [.int r0, .int r1, .int r2, .int r3, .int r4, .int (nar .byte (r5.toInt8.toInt32))] d22_248
  replace X00 := X00.wr W28 g_ds
  replace Va := Va.other W28 hne
  have Zs28 := Nat.le_trans Zs24 (Keep.of_wr W28).1
  replace KK := KK.wr W28 (Or.inl (by simp))
  have N28 := Fr.snoc X28 N24 g_ds
  rw [own_rnb hc5] at Vb
  have od29 := fEp.ext X00.2
  have k30 := fun t_ ht_ => k28 t_ (o_aloadN X28 hx d22_249 rfl rfl ht_)
  obtain ⟨T31, X31, e31, k31⟩ := o_getF X28 hx hZ k30 hown (host := "") (Or.inl (hw 123 rfl)) Via.refl e28 od29 d22_250
  have k32 := fun t_ ht_ => k31 t_ (o_ifYes X31 hx d22_253 ((if0 _ _).trans (teq (by decide)).1) 352 (o_iload X31 hx d22_352 rfl ht_))
  exact o_retI X31 hx k32 hlk hret d22_354 (by rw [e31]; exact ⟨rfl, N28, KK, Vb⟩)
theorem ef_77 (m : MethodId) (x0 x1 : Addr) : entryFrame m #[.ref x0, .ref x1] 5 = mkF m 0 #[Lr x0, Lr x1, Lu, Lu, Lu] [] := by first | (simp [entryFrame, mkF, argsToLocals, Value.category]; done) | rfl
def Q77 (Z : State) (eno ar dco iso utf tbd tbe : Addr) (kd ke : ClassId) (G1 : Int32) (fm : Value) (kb : ClassId) (B0 B1 B2 B3 B4 B5 v0 v1 v2 v3 v4 v5 v6 v7 r0 r1 r2 r3 r4 r5 r6 r7 y0 y1 y2 y3 : Int32) (h0 : Heap) (n0 : Nat) (v : Option Value) (h : Heap) (L : List Loc) : Prop := ∃ (ds : Addr) (kc : ClassId), v = some (.ref ds) ∧ Fr n0 L ∧ Keep h0 h [] ∧ Arv Z h ds kc .byte (6 : Int32) [.int r0, .int r1, .int r2, .int r3, .int r4, .int r5] (.int 0) ∧ Exa Z h ds "[B" ∧ h0.size ≤ ds
set_option maxRecDepth 65536 in
set_option maxHeartbeats 40000000 in
theorem rm77 (hw : own_W a0 Z) (eno ar dco iso utf tbd tbe : Addr) (kd ke : ClassId) (G1 : Int32) (fm : Value) (kb : ClassId) (B0 B1 B2 B3 B4 B5 v0 v1 v2 v3 v4 v5 v6 v7 r0 r1 r2 r3 r4 r5 r6 r7 y0 y1 y2 y3 : Int32) (h0 : Heap) (n0 : Nat) (Z0 : n0 ≤ h0.size) (hG : own_G Z dco eno iso utf tbd tbe kd ke G1 fm) (X00 : Old Z n0 h0) (Va : Arv Z h0 ar kb .byte (4 : Int32) [.int y0, .int y1, .int y2, .int y3] (.int 0)) (hD : own_D 4 B0 B1 B2 B3 B4 B5 v0 v1 v2 v3 v4 v5 v6 v7 r0 r1 r2 r3 r4 r5 r6 r7) (hs0 : own_SB y0 B0) (hs1 : own_SB y1 B1) (hs2 : own_SB y2 B2) (hs3 : own_SB y3 B3) :
    own_M l Z yy23 q23 5 (some (.array .byte)) ⟨2, 1, 6, 49⟩ #[.ref eno, .ref ar] h0 [] (Q77 Z eno ar dco iso utf tbd tbe kd ke G1 fm kb B0 B1 B2 B3 B4 B5 v0 v1 v2 v3 v4 v5 v6 v7 r0 r1 r2 r3 r4 r5 r6 r7 y0 y1 y2 y3 h0 n0) := by
  refine own_body (plainFor_of_name pn_3) ?_
  intro p e s m below meth c s₁ A hx hml hown hnm hlk hret hZ X0 e0 k0
  replace k0 := own_ent (ef_77 m eno ar) k0
  have N0 := Fr.nil n0
  have KK : Keep h0 h0 [] := Keep.refl h0 []
  obtain ⟨sD, sE, eD, eE, fDu, fDm, fEp, fEl, fEu, sI, sU, iu, sTd, sTe, aTd, aTe, sC, gC, sS, fmr⟩ := id hG
  obtain ⟨hq0, hq1, hc0, hc1, hc2, hc3, hc4, hc5, hc6, hc7, hz1, hz2, hz4, hz5⟩ := id hD
  have od1 := eE.ext X00.2
  have k2 := fun t_ ht_ => k0 t_ (o_aloadN X0 hx d23_0 rfl rfl (o_aloadN X0 hx d23_1 rfl rfl (o_len X0 hx hZ d23_2 e0 Va (o_iconst X0 hx d23_3 1 rfl ht_))))
  obtain ⟨_, T3, Lc3, X3, hQ3, k3⟩ := o_privateH X0 hx hZ k2 yy21 hown (hw 118 rfl) (hw 119 rfl) (hw 121 rfl) (hw 120 rfl) (hw 122 rfl) (backOfWith (W := 0) (rm74 hw eno dco iso utf tbd tbe kd ke G1 fm h0 n0 Z0 hG X00) hZ (hw 122 rfl) (hw 111 rfl) (by decide) (by decide)) od1 [.int 4, .int 1] [] (lenOf pd_13 rfl) hml e0 d23_4
  obtain ⟨rfl, Nq3, e3⟩ := hQ3
  have N3 := Fr.app N0 Nq3
  replace k3 := own_pushR k3
  have k4 := fun t_ ht_ => k3 t_ (o_istoreN X3 hx d23_7 #[Lr eno, Lr ar, Li 6, Lu, Lu] rfl (o_iloadN X3 hx d23_8 rfl ht_))
  obtain ⟨T5, h5, c5, X5, e5, E5, Ax5, Bx5, k5⟩ := o_newP X3 hx hZ k4 (hw 27 rfl) e3 (by decide) 6 (by decide) "[B" d23_9
  obtain ⟨b5, g5⟩ : ∃ z, z = h0.size := ⟨_, rfl⟩
  rw [← g5] at Ax5 Bx5 k5
  have ne_ar_b5 : ar ≠ b5 := Nat.ne_of_lt (Nat.lt_of_lt_of_le Va.lt (Nat.le_of_eq g5.symm))
  have g_b5 : n0 ≤ b5 := Nat.le_trans Z0 (Nat.le_of_eq g5.symm)
  have sz_b5 : h0.size ≤ b5 := Nat.le_trans KK.1 (Nat.le_of_eq g5.symm)
  replace X00 : Old Z n0 h5 := ⟨X00.1, Nat.le_trans X00.2.1 E5.1, fun x c r => E5.2 x c (X00.2.2 x c r)⟩
  replace Va := Va.ext E5
  have Zs5 := Nat.le_trans Z0 E5.1
  replace KK := KK.ext E5
  have Ex_b5 := Bx5
  have V_b5 : Arv Z h5 b5 c5 .byte 6 [.int 0, .int 0, .int 0, .int 0, .int 0, .int 0] (.int 0) := (Arv.new Ax5 (by decide)).pad (pad_rep [] (.int 0) 6)
  have od6 := eE.ext X00.2
  have k7 := fun t_ ht_ => k5 t_ (o_astoreN X5 hx d23_11 #[Lr eno, Lr ar, Li 6, Lr b5, Lu] rfl rfl (o_aloadN X5 hx d23_12 rfl rfl (o_aloadN X5 hx d23_13 rfl rfl (o_iconst X5 hx d23_14 0 rfl (o_aloadN X5 hx d23_15 rfl rfl (o_len X5 hx hZ d23_16 e5 Va (o_aloadN X5 hx d23_17 rfl rfl ht_)))))))
  obtain ⟨_, T8, Lc8, X8, hQ8, k8⟩ := o_privateM X5 hx hZ k7 yy22 hown (hw 134 rfl) (hw 135 rfl) (hw 137 rfl) (hw 136 rfl) (hw 138 rfl) (rm76 hw eno ar b5 dco iso utf tbd tbe kd ke G1 fm kb c5 B0 B1 B2 B3 B4 B5 v0 v1 v2 v3 v4 v5 v6 v7 r0 r1 r2 r3 r4 r5 r6 r7 y0 y1 y2 y3 h5 n0 Zs5 hG X00 Va V_b5 ne_ar_b5 g_b5 hD hs0 hs1 hs2 hs3) (hw 111 rfl) 0 od6 [.ref ar, .int 0, .int 4, .ref b5] [] (lenOf pd_9 rfl) hml e5 d23_18
  obtain ⟨rfl, Nq8, K1, V1⟩ := hQ8
  have N8 := Fr.app N3 Nq8
  replace k8 := own_pushR k8
  replace X00 := X00.keep K1 (by simpa using g_b5)
  replace Va := Va.keep K1 (by simpa using ne_ar_b5)
  replace Ex_b5 := Ex_b5.keep K1
  have Zs8 := Nat.le_trans Zs5 K1.1
  replace KK := KK.trans K1 (fun x q => by cases List.mem_singleton.mp q; exact Or.inr sz_b5)
  have k9 := fun t_ ht_ => k8 t_ (o_istore X8 hx d23_21 #[Lr eno, Lr ar, Li 6, Lr b5, Li 6] rfl (o_iload X8 hx d23_23 rfl (o_aloadN X8 hx d23_25 rfl rfl (o_len X8 hx hZ d23_26 rfl V1 (o_icmpYes X8 hx d23_27 (teq (by decide)).1 37 (o_aloadN X8 hx d23_37 rfl rfl ht_))))))
  exact o_retA X8 hx k9 hlk hret rfl d23_38 (by exact ⟨b5, c5, rfl, N8, KK, V1, Ex_b5, sz_b5⟩)
theorem ef_78 (m : MethodId) (x0 x1 : Addr) : entryFrame m #[.ref x0, .ref x1] 3 = mkF m 0 #[Lr x0, Lr x1, Lu] [] := by first | (simp [entryFrame, mkF, argsToLocals, Value.category]; done) | rfl
def Q78 (Z : State) (eno ar dco iso utf tbd tbe : Addr) (kd ke : ClassId) (G1 : Int32) (fm : Value) (kb : ClassId) (B0 B1 B2 B3 B4 B5 v0 v1 v2 v3 v4 v5 v6 v7 r0 r1 r2 r3 r4 r5 r6 r7 y0 y1 y2 y3 : Int32) (h0 : Heap) (n0 : Nat) (v : Option Value) (h : Heap) (L : List Loc) : Prop := ∃ (so cr : Addr) (kc : ClassId), v = some (.ref so) ∧ Fr n0 L ∧ Keep h0 h [] ∧ Exa Z h so "java/lang/String" ∧ Fld Z h so "java/lang/String" "coder" "B" (.int 0) ∧ Fld Z h so "java/lang/String" "value" "[B" (.ref cr) ∧ Arv Z h cr kc .byte (6 : Int32) [.int r0, .int r1, .int r2, .int r3, .int r4, .int r5] (.int 0) ∧ h0.size ≤ so
set_option maxRecDepth 65536 in
set_option maxHeartbeats 40000000 in
theorem rm78 (hw : own_W a0 Z) (eno ar dco iso utf tbd tbe : Addr) (kd ke : ClassId) (G1 : Int32) (fm : Value) (kb : ClassId) (B0 B1 B2 B3 B4 B5 v0 v1 v2 v3 v4 v5 v6 v7 r0 r1 r2 r3 r4 r5 r6 r7 y0 y1 y2 y3 : Int32) (h0 : Heap) (n0 : Nat) (Z0 : n0 ≤ h0.size) (hG : own_G Z dco eno iso utf tbd tbe kd ke G1 fm) (X00 : Old Z n0 h0) (Va : Arv Z h0 ar kb .byte (4 : Int32) [.int y0, .int y1, .int y2, .int y3] (.int 0)) (hD : own_D 4 B0 B1 B2 B3 B4 B5 v0 v1 v2 v3 v4 v5 v6 v7 r0 r1 r2 r3 r4 r5 r6 r7) (hs0 : own_SB y0 B0) (hs1 : own_SB y1 B1) (hs2 : own_SB y2 B2) (hs3 : own_SB y3 B3) :
    own_M l Z yy24 q24 3 (some (.object "java/lang/String")) ⟨3, 3, 18, 65⟩ #[.ref eno, .ref ar] h0 [] (Q78 Z eno ar dco iso utf tbd tbe kd ke G1 fm kb B0 B1 B2 B3 B4 B5 v0 v1 v2 v3 v4 v5 v6 v7 r0 r1 r2 r3 r4 r5 r6 r7 y0 y1 y2 y3 h0 n0) := by
  refine own_body (plainFor_of_name pn_3) ?_
  intro p e s m below meth c s₁ A hx hml hown hnm hlk hret hZ X0 e0 k0
  replace k0 := own_ent (ef_78 m eno ar) k0
  have N0 := Fr.nil n0
  have KK : Keep h0 h0 [] := Keep.refl h0 []
  obtain ⟨sD, sE, eD, eE, fDu, fDm, fEp, fEl, fEu, sI, sU, iu, sTd, sTe, aTd, aTe, sC, gC, sS, fmr⟩ := id hG
  obtain ⟨hq0, hq1, hc0, hc1, hc2, hc3, hc4, hc5, hc6, hc7, hz1, hz2, hz4, hz5⟩ := id hD
  have od1 := eE.ext X00.2
  have k2 := fun t_ ht_ => k0 t_ (o_aloadN X0 hx d24_0 rfl rfl (o_aloadN X0 hx d24_1 rfl rfl ht_))
  obtain ⟨_, T3, Lc3, X3, hQ3, k3⟩ := o_virtualM X0 hx hZ k2 yy23 hown (hw 113 rfl) yy23 (hw 114 rfl) (hw 116 rfl) (hw 115 rfl) rfl (rm77 hw eno ar dco iso utf tbd tbe kd ke G1 fm kb B0 B1 B2 B3 B4 B5 v0 v1 v2 v3 v4 v5 v6 v7 r0 r1 r2 r3 r4 r5 r6 r7 y0 y1 y2 y3 h0 n0 Z0 hG X00 Va hD hs0 hs1 hs2 hs3) (hw 117 rfl) (hw 111 rfl) 0 od1 [.ref ar] [] (lenOf pd_11 rfl) hml e0 d24_2
  obtain ⟨ds, kc, rfl, Nq3, K1, V1, E1, G1_⟩ := hQ3
  have N3 := Fr.app N0 Nq3
  replace k3 := own_pushR k3
  replace X00 := X00.keep K1 (by simp)
  replace Va := Va.keep K1 (by simp)
  have Zs3 := Nat.le_trans Z0 K1.1
  replace KK := KK.trans K1 (fun x q => nomatch q)
  have k4 := fun t_ ht_ => k3 t_ (o_astoreN X3 hx d24_5 #[Lr eno, Lr ar, Lr ds] rfl rfl ht_)
  obtain ⟨T5, h5, X5, e5, E5, A5, D5, k5⟩ := o_newO X3 hx hZ k4 hown (hw 142 rfl) (hw 10 rfl) (hw 11 rfl) rfl d24_6
  obtain ⟨b5, g5⟩ : ∃ z, z = T3.heap.size := ⟨_, rfl⟩
  rw [← g5] at A5 D5 k5
  have ne_ar_b5 : ar ≠ b5 := Nat.ne_of_lt (Nat.lt_of_lt_of_le Va.lt (Nat.le_of_eq g5.symm))
  have ne_ds_b5 : ds ≠ b5 := Nat.ne_of_lt (Nat.lt_of_lt_of_le V1.lt (Nat.le_of_eq g5.symm))
  have g_b5 : n0 ≤ b5 := Nat.le_trans Zs3 (Nat.le_of_eq g5.symm)
  have sz_b5 : h0.size ≤ b5 := Nat.le_trans KK.1 (Nat.le_of_eq g5.symm)
  replace X00 : Old Z n0 h5 := ⟨X00.1, Nat.le_trans X00.2.1 E5.1, fun x c r => E5.2 x c (X00.2.2 x c r)⟩
  replace Va := Va.ext E5
  replace V1 := V1.ext E5
  replace E1 := E1.ext E5
  have Zs5 := Nat.le_trans Zs3 E5.1
  replace KK := KK.ext E5
  have Ex_b5 := A5
  have F_coder_b5 : Fld Z h5 b5 "java/lang/String" "coder" "B" (.int 0) := D5 (Or.inr (hw 35 rfl)) (ty := .byte) (by decide)
  have F_value_b5 : Fld Z h5 b5 "java/lang/String" "value" "[B" (.null) := D5 (Or.inr (hw 37 rfl)) (ty := (.array .byte)) (by decide)
  have k6 := fun t_ ht_ => k5 t_ (o_dup X5 hx d24_9 rfl (o_aloadN X5 hx d24_10 rfl rfl (o_iconst X5 hx d24_11 0 rfl (o_iconst X5 hx d24_12 0 rfl (o_aloadN X5 hx d24_13 rfl rfl (o_len X5 hx hZ d24_14 e5 V1 ht_))))))
  obtain ⟨_, T7, Lc7, X7, hQ7, k7⟩ := o_specialM X5 hx hZ k6 yy12 rfl hown (hw 143 rfl) (hw 144 rfl) (hw 145 rfl) (rm34 hw b5 ds (6 : Int32) dco eno iso utf tbd tbe kd ke G1 fm kc _ h5 n0 Zs5 hG X00 Ex_b5 F_value_b5 F_coder_b5 V1 E1 (Ne.symm ne_ds_b5) g_b5 own_ln6) (hw 11 rfl) 1 b5 [.ref ds, .int 0, .int 0, .int 6] [.ref b5] (lenOf pd_14 rfl) hml e5 d24_15
  obtain ⟨cr, rfl, Nq7, K2, E2, Fc, Fv, V2, E3, G2⟩ := hQ7
  have N7 := Fr.app N3 Nq7
  replace k7 := own_pushV k7
  have sz_cr : h0.size ≤ cr := Nat.le_trans KK.1 G2
  replace X00 := X00.keep K2 (by simpa using g_b5)
  replace Va := Va.keep K2 (by simpa using ne_ar_b5)
  replace V1 := V1.keep K2 (by simpa using ne_ds_b5)
  replace E1 := E1.keep K2
  replace Ex_b5 := Ex_b5.keep K2
  have Zs7 := Nat.le_trans Zs5 K2.1
  replace KK := KK.trans K2 (fun x q => by cases List.mem_singleton.mp q; exact Or.inr sz_b5)
  exact o_retA X7 hx k7 hlk hret rfl d24_18 (by exact ⟨b5, cr, kc, rfl, N7, KK, E2, Fc, Fv, V2, sz_b5⟩)
theorem ef_79 (m : MethodId) (x0 : Addr) : entryFrame m #[.ref x0] 2 = mkF m 0 #[Lr x0, Lu] [] := by first | (simp [entryFrame, mkF, argsToLocals, Value.category]; done) | rfl
def Q79 (Z : State) (a1 dco eno iso utf tbd tbe : Addr) (kd ke : ClassId) (G1 : Int32) (fm : Value) (ar : Addr) (kb : ClassId) (B0 B1 B2 B3 B4 B5 v0 v1 v2 v3 v4 v5 v6 v7 r0 r1 r2 r3 r4 r5 r6 r7 : Int32) (h0 : Heap) (n0 : Nat) (v : Option Value) (h : Heap) (L : List Loc) : Prop := ∃ (ds : Addr) (kc : ClassId) (y0 y1 y2 y3 : Int32), v = some (.ref ds) ∧ Fr n0 L ∧ Keep h0 h [] ∧ Arv Z h ds kc .byte (4 : Int32) [.int y0, .int y1, .int y2, .int y3] (.int 0) ∧ h0.size ≤ ds ∧ own_SB y0 B0 ∧ own_SB y1 B1 ∧ own_SB y2 B2 ∧ own_SB y3 B3
set_option maxRecDepth 65536 in
set_option maxHeartbeats 40000000 in
theorem rm79 (hw : own_W a0 Z) (a1 dco eno iso utf tbd tbe : Addr) (kd ke : ClassId) (G1 : Int32) (fm : Value) (ar : Addr) (kb : ClassId) (B0 B1 B2 B3 B4 B5 v0 v1 v2 v3 v4 v5 v6 v7 r0 r1 r2 r3 r4 r5 r6 r7 : Int32) (h0 : Heap) (n0 : Nat) (Z0 : n0 ≤ h0.size) (hG : own_G Z dco eno iso utf tbd tbe kd ke G1 fm) (X00 : Old Z n0 h0) (Es : Exa Z h0 a1 "java/lang/String") (Fc : Fld Z h0 a1 "java/lang/String" "coder" "B" (.int 0)) (Fv : Fld Z h0 a1 "java/lang/String" "value" "[B" (.ref ar)) (Va : Arv Z h0 ar kb .byte (6 : Int32) [.int r0, .int r1, .int r2, .int r3, .int r4, .int r5] (.int 0)) (Ea : Exa Z h0 ar "[B") (hD : own_D 4 B0 B1 B2 B3 B4 B5 v0 v1 v2 v3 v4 v5 v6 v7 r0 r1 r2 r3 r4 r5 r6 r7) :
    own_M l Z yy25 q25 2 (some (.array .byte)) ⟨6, 5, 30, 89⟩ #[.ref a1] h0 [] (Q79 Z a1 dco eno iso utf tbd tbe kd ke G1 fm ar kb B0 B1 B2 B3 B4 B5 v0 v1 v2 v3 v4 v5 v6 v7 r0 r1 r2 r3 r4 r5 r6 r7 h0 n0) := by
  refine own_body (plainFor_of_name pn_7) ?_
  intro p e s m below meth c s₁ A hx hml hown hnm hlk hret hZ X0 e0 k0
  replace k0 := own_ent (ef_79 m a1) k0
  have N0 := Fr.nil n0
  have KK : Keep h0 h0 [] := Keep.refl h0 []
  obtain ⟨sD, sE, eD, eE, fDu, fDm, fEp, fEl, fEu, sI, sU, iu, sTd, sTe, aTd, aTe, sC, gC, sS, fmr⟩ := id hG
  obtain ⟨hq0, hq1, hc0, hc1, hc2, hc3, hc4, hc5, hc6, hc7, hz1, hz2, hz4, hz5⟩ := id hD
  obtain ⟨T1, X1, e1, k1⟩ := o_getS X0 hx hZ k0 hown (host := "") (Or.inl (hw 42 rfl)) Via.refl e0 (sD.ext X00.2) d25_0
  have od2 := eD.ext X00.2
  have k3 := fun t_ ht_ => k1 t_ (o_aloadN X1 hx d25_3 rfl rfl ht_)
  obtain ⟨_, T4, Lc4, X4, hQ4, k4⟩ := o_virtualM X1 hx hZ k3 yy18 hown (hw 44 rfl) yy18 (hw 45 rfl) (hw 47 rfl) (hw 46 rfl) rfl (rm73 hw dco a1 eno iso utf tbd tbe kd ke G1 fm ar kb B0 B1 B2 B3 B4 B5 v0 v1 v2 v3 v4 v5 v6 v7 r0 r1 r2 r3 r4 r5 r6 r7 h0 n0 Z0 hG X00 Es Fc Fv Va Ea hD) (hw 49 rfl) (hw 48 rfl) 0 od2 [.ref a1] [] (lenOf pd_15 rfl) hml e1 d25_4
  obtain ⟨ds, kc, yo0, yo1, yo2, yo3, rfl, Nq4, K1, V1, G1_, g_ds, sb0, sb1, sb2, sb3⟩ := hQ4
  have N4 := Fr.app N0 Nq4
  replace k4 := own_pushR k4
  have sz_ds : h0.size ≤ ds := Nat.le_trans KK.1 G1_
  replace X00 := X00.keep K1 (by simp)
  replace Es := Es.keep K1
  replace Fc := Fc.keep K1 (by simp)
  replace Fv := Fv.keep K1 (by simp)
  replace Va := Va.keep K1 (by simp)
  replace Ea := Ea.keep K1
  have Zs4 := Nat.le_trans Z0 K1.1
  replace KK := KK.trans K1 (fun x q => nomatch q)
  have k5 := fun t_ ht_ => k4 t_ (o_astoreN X4 hx d25_7 #[Lr a1, Lr ds] rfl rfl ht_)
  obtain ⟨T6, X6, e6, k6⟩ := o_getS X4 hx hZ k5 hown (host := "") (Or.inl (hw 105 rfl)) Via.refl rfl (sE.ext X00.2) d25_8
  have od7 := eE.ext X00.2
  have k8 := fun t_ ht_ => k6 t_ (o_aloadN X6 hx d25_11 rfl rfl ht_)
  obtain ⟨_, T9, Lc9, X9, hQ9, k9⟩ := o_virtualM X6 hx hZ k8 yy24 hown (hw 107 rfl) yy24 (hw 108 rfl) (hw 110 rfl) (hw 109 rfl) rfl (rm78 hw eno ds dco iso utf tbd tbe kd ke G1 fm kc B0 B1 B2 B3 B4 B5 v0 v1 v2 v3 v4 v5 v6 v7 r0 r1 r2 r3 r4 r5 r6 r7 yo0 yo1 yo2 yo3 T4.heap n0 Zs4 hG X00 V1 hD sb0 sb1 sb2 sb3) (hw 112 rfl) (hw 111 rfl) 0 od7 [.ref ds] [] (lenOf pd_16 rfl) hml e6 d25_12
  obtain ⟨so, cr, kc2, rfl, Nq9, K2, E2, Fc2, Fv2, V2, G2⟩ := hQ9
  have N9 := Fr.app N4 Nq9
  replace k9 := own_pushR k9
  have ne_so : so ≠ a1 := Ne.symm (Nat.ne_of_lt (Nat.lt_of_lt_of_le Es.lt G2))
  replace X00 := X00.keep K2 (by simp)
  replace Es := Es.keep K2
  replace Fc := Fc.keep K2 (by simp)
  replace Fv := Fv.keep K2 (by simp)
  replace Va := Va.keep K2 (by simp)
  replace Ea := Ea.keep K2
  replace V1 := V1.keep K2 (by simp)
  have Zs9 := Nat.le_trans Zs4 K2.1
  replace KK := KK.trans K2 (fun x q => nomatch q)
  have k10 := fun t_ ht_ => k9 t_ (o_aloadN X9 hx d25_15 rfl rfl ht_)
  obtain ⟨_, T11, Lc11, X11, hQ11, k11⟩ := o_virtualM X9 hx hZ k10 yy14 hown (hw 160 rfl) yy14 (hw 161 rfl) (hw 163 rfl) (hw 162 rfl) rfl (rm36 hw so a1 dco eno iso utf tbd tbe kd ke G1 fm cr ar kc2 kb (6 : Int32) [r0, r1, r2, r3, r4, r5] T9.heap n0 Zs9 hG X00 E2 Fc2 Fv2 Es Fc Fv V2 Va ne_so) (hw 164 rfl) (hw 11 rfl) 0 E2 [.ref a1] [] (lenOf pd_17 rfl) hml rfl d25_16
  obtain ⟨rfl, Nq11, e11⟩ := hQ11
  have N11 := Fr.app N9 Nq11
  replace k11 := own_pushR k11
  have k12 := fun t_ ht_ => k11 t_ (o_ifYes X11 hx d25_19 ((if0 _ _).trans (feq (by decide)).2) 32 (o_aloadN X11 hx d25_32 rfl rfl ht_))
  exact o_retA X11 hx k12 hlk hret rfl d25_33 (by rw [e11]; exact ⟨ds, kc, yo0, yo1, yo2, yo3, rfl, N11, KK, V1, sz_ds, sb0, sb1, sb2, sb3⟩)
theorem ef_80 (m : MethodId) (x0 x1 : Addr) (x2 x3 : Int32) : entryFrame m #[.ref x0, .ref x1, .int x2, .int x3] 9 = mkF m 0 #[Lr x0, Lr x1, Li x2, Li x3, Lu, Lu, Lu, Lu, Lu] [] := by first | (simp [entryFrame, mkF, argsToLocals, Value.category]; done) | rfl
def Q80 (Z : State) (dco ar eno iso utf tbd tbe : Addr) (kd ke : ClassId) (G1 : Int32) (fm : Value) (kb : ClassId) (B0 B1 B2 B3 B4 B5 v0 v1 v2 v3 v4 v5 v6 v7 r0 r1 r2 r3 r4 r5 r6 r7 : Int32) (h0 : Heap) (n0 : Nat) (v : Option Value) (h : Heap) (L : List Loc) : Prop := v = some (.int (5 : Int32)) ∧ Fr n0 L ∧ h = h0
set_option maxRecDepth 65536 in
set_option maxHeartbeats 40000000 in
theorem rm80 (hw : own_W a0 Z) (dco ar eno iso utf tbd tbe : Addr) (kd ke : ClassId) (G1 : Int32) (fm : Value) (kb : ClassId) (B0 B1 B2 B3 B4 B5 v0 v1 v2 v3 v4 v5 v6 v7 r0 r1 r2 r3 r4 r5 r6 r7 : Int32) (h0 : Heap) (n0 : Nat) (Z0 : n0 ≤ h0.size) (hG : own_G Z dco eno iso utf tbd tbe kd ke G1 fm) (X00 : Old Z n0 h0) (Va : Arv Z h0 ar kb .byte (7 : Int32) [.int r0, .int r1, .int r2, .int r3, .int r4, .int r5, .int r6] (.int 0)) (hD : own_D 5 B0 B1 B2 B3 B4 B5 v0 v1 v2 v3 v4 v5 v6 v7 r0 r1 r2 r3 r4 r5 r6 r7) :
    own_M l Z yy15 q15 9 (some .int) ⟨0, 0, 0, 0⟩ #[.ref dco, .ref ar, .int 0, .int 7] h0 [] (Q80 Z dco ar eno iso utf tbd tbe kd ke G1 fm kb B0 B1 B2 B3 B4 B5 v0 v1 v2 v3 v4 v5 v6 v7 r0 r1 r2 r3 r4 r5 r6 r7 h0 n0) := by
  refine own_body (plainFor_of_name pn_2) ?_
  intro p e s m below meth c s₁ A hx hml hown hnm hlk hret hZ X0 e0 k0
  replace k0 := own_ent (ef_80 m dco ar 0 7) k0
  have N0 := Fr.nil n0
  obtain ⟨sD, sE, eD, eE, fDu, fDm, fEp, fEl, fEu, sI, sU, iu, sTd, sTe, aTd, aTe, sC, gC, sS, fmr⟩ := id hG
  obtain ⟨hq0, hq1, hc0, hc1, hc2, hc3, hc4, hc5, hc6, hc7, hz1, hz2, hz4, hz5⟩ := id hD
  have od1 := fDu.ext X00.2
  have k2 := fun t_ ht_ => k0 t_ (o_aloadN X0 hx d15_0 rfl rfl ht_)
  obtain ⟨T3, X3, e3, k3⟩ := o_getF X0 hx hZ k2 hown (host := "") (Or.inl (hw 93 rfl)) Via.refl e0 od1 d15_1
  have k4 := fun t_ ht_ => k3 t_ (o_ifNo X3 hx d15_4 ((if0 _ _).trans (feq (by decide)).1) ht_)
  obtain ⟨T5, X5, e5, k5⟩ := o_getS X3 hx hZ k4 hown (host := "") (Or.inl (hw 95 rfl)) Via.refl e3 (sTd.ext X00.2) d15_7
  have od6 := fDm.ext X00.2
  have k7 := fun t_ ht_ => k5 t_ (o_goto X5 hx d15_10 16 (o_astore X5 hx d15_16 #[Lr dco, Lr ar, Li 0, Li 7, Lr tbd, Lu, Lu, Lu, Lu] rfl rfl (o_iconst X5 hx d15_18 0 rfl (o_istore X5 hx d15_19 #[Lr dco, Lr ar, Li 0, Li 7, Lr tbd, Li 0, Lu, Lu, Lu] rfl (o_iloadN X5 hx d15_21 rfl (o_iloadN X5 hx d15_22 rfl (o_isub X5 hx d15_23 (rfl : _ = (7 : Int32)) (o_istore X5 hx d15_24 #[Lr dco, Lr ar, Li 0, Li 7, Lr tbd, Li 0, Li 7, Lu, Lu] rfl (o_iload X5 hx d15_26 rfl (o_ifYes X5 hx d15_28 ((if0 _ _).trans (feq (by decide)).2) 33 (o_iload X5 hx d15_33 rfl (o_iconst X5 hx d15_35 2 rfl (o_icmpYes X5 hx d15_36 (flt (by decide)).2.1 66 (o_aloadN X5 hx d15_66 rfl rfl ht_))))))))))))))
  obtain ⟨T8, X8, e8, k8⟩ := o_getF X5 hx hZ k7 hown (host := "") (Or.inl (hw 96 rfl)) Via.refl e5 od6 d15_67
  have k9 := fun t_ ht_ => k8 t_ (o_ifYes X8 hx d15_70 ((if0 _ _).trans (teq (by decide)).1) 141 (o_aloadN X8 hx d15_141 rfl rfl (o_iloadN X8 hx d15_142 rfl (o_iconst X8 hx d15_143 1 rfl (o_isub X8 hx d15_144 (rfl : _ = (6 : Int32)) (o_ldB X8 hx hZ d15_145 e8 Va ⟨by decide, by decide⟩ (rfl : _ = Value.int r6) (o_bipush X8 hx d15_146 61 rfl (o_icmpYes X8 hx d15_148 (feq (own_r61 hc6)).2 167 (o_iload X8 hx d15_167 rfl (o_ifNo X8 hx d15_169 ((if0 _ _).trans (teq (by decide)).2) (o_iload X8 hx d15_172 rfl (o_iconst X8 hx d15_174 3 rfl (o_iand X8 hx d15_175 (rfl : _ = (3 : Int32)) (o_ifNo X8 hx d15_176 ((if0 _ _).trans (feq (by decide)).1) (o_iconst X8 hx d15_179 4 rfl (o_iload X8 hx d15_180 rfl (o_iconst X8 hx d15_182 3 rfl (o_iand X8 hx d15_183 (rfl : _ = (3 : Int32)) (o_isub X8 hx d15_184 (rfl : _ = (1 : Int32)) (o_istore X8 hx d15_185 #[Lr dco, Lr ar, Li 0, Li 7, Lr tbd, Li 1, Li 7, Lu, Lu] rfl (o_iconst X8 hx d15_187 3 rfl (o_iload X8 hx d15_188 rfl (o_i2l X8 hx d15_190 (o_ldc2Long X8 hx d15_191 hown (mvT hZ (hw 98 rfl)) (o_ladd X8 hx d15_194 rfl (o_ldc2Long X8 hx d15_195 hown (mvT hZ (hw 99 rfl)) (o_ldiv X8 hx d15_198 (by decide) (o_l2i X8 hx d15_199 (o_imul X8 hx d15_200 rfl (o_iload X8 hx d15_201 rfl (o_isub X8 hx d15_203 rfl ht_)))))))))))))))))))))))))))))))
  exact o_retI X8 hx k9 hlk hret d15_204 (by rw [e8]; exact ⟨congrArg (fun z => some (Value.int z)) (show (((3 : Int32) * (((((7 : Int32).toInt64) + (3 : Int64)) / (4 : Int64)).toInt32)) - (1 : Int32)) = (5 : Int32) from by decide), N0, rfl⟩)
theorem ef_81 (m : MethodId) (x0 x1 : Addr) (x2 x3 : Int32) (x4 : Addr) : entryFrame m #[.ref x0, .ref x1, .int x2, .int x3, .ref x4] 11 = mkF m 0 #[Lr x0, Lr x1, Li x2, Li x3, Lr x4, Lu, Lu, Lu, Lu, Lu, Lu] [] := by first | (simp [entryFrame, mkF, argsToLocals, Value.category]; done) | rfl
def Q81 (Z : State) (dco ar ds eno iso utf tbd tbe : Addr) (kd ke : ClassId) (G1 : Int32) (fm : Value) (kb kc : ClassId) (B0 B1 B2 B3 B4 B5 v0 v1 v2 v3 v4 v5 v6 v7 r0 r1 r2 r3 r4 r5 r6 r7 : Int32) (h0 : Heap) (n0 : Nat) (v : Option Value) (h : Heap) (L : List Loc) : Prop := ∃ (y0 y1 y2 y3 y4 : Int32), v = some (.int (5 : Int32)) ∧ Fr n0 L ∧ Keep h0 h [ds] ∧ Arv Z h ds kc .byte (5 : Int32) [.int y0, .int y1, .int y2, .int y3, .int y4] (.int 0) ∧ own_SB y0 B0 ∧ own_SB y1 B1 ∧ own_SB y2 B2 ∧ own_SB y3 B3 ∧ own_SB y4 B4
set_option maxRecDepth 65536 in
set_option maxHeartbeats 40000000 in
theorem rm81 (hw : own_W a0 Z) (dco ar ds eno iso utf tbd tbe : Addr) (kd ke : ClassId) (G1 : Int32) (fm : Value) (kb kc : ClassId) (B0 B1 B2 B3 B4 B5 v0 v1 v2 v3 v4 v5 v6 v7 r0 r1 r2 r3 r4 r5 r6 r7 : Int32) (h0 : Heap) (n0 : Nat) (Z0 : n0 ≤ h0.size) (hG : own_G Z dco eno iso utf tbd tbe kd ke G1 fm) (X00 : Old Z n0 h0) (Va : Arv Z h0 ar kb .byte (7 : Int32) [.int r0, .int r1, .int r2, .int r3, .int r4, .int r5, .int r6] (.int 0)) (Vd : Arv Z h0 ds kc .byte (5 : Int32) [.int (0 : Int32), .int (0 : Int32), .int (0 : Int32), .int (0 : Int32), .int (0 : Int32)] (.int 0)) (hne : ar ≠ ds) (g_ds : n0 ≤ ds) (hD : own_D 5 B0 B1 B2 B3 B4 B5 v0 v1 v2 v3 v4 v5 v6 v7 r0 r1 r2 r3 r4 r5 r6 r7) :
    own_M l Z yy16 q16 11 (some .int) ⟨1, 0, 0, 27⟩ #[.ref dco, .ref ar, .int 0, .int 7, .ref ds] h0 [] (Q81 Z dco ar ds eno iso utf tbd tbe kd ke G1 fm kb kc B0 B1 B2 B3 B4 B5 v0 v1 v2 v3 v4 v5 v6 v7 r0 r1 r2 r3 r4 r5 r6 r7 h0 n0) := by
  refine own_body (plainFor_of_name pn_2) ?_
  intro p e s m below meth c s₁ A hx hml hown hnm hlk hret hZ X0 e0 k0
  replace k0 := own_ent (ef_81 m dco ar 0 7 ds) k0
  have N0 := Fr.nil n0
  have KK : Keep h0 h0 [ds] := Keep.refl h0 [ds]
  obtain ⟨sD, sE, eD, eE, fDu, fDm, fEp, fEl, fEu, sI, sU, iu, sTd, sTe, aTd, aTe, sC, gC, sS, fmr⟩ := id hG
  obtain ⟨hq0, hq1, hc0, hc1, hc2, hc3, hc4, hc5, hc6, hc7, hz1, hz2, hz4, hz5⟩ := id hD
  have od1 := fDu.ext X00.2
  have k2 := fun t_ ht_ => k0 t_ (o_aloadN X0 hx d16_0 rfl rfl ht_)
  obtain ⟨T3, X3, e3, k3⟩ := o_getF X0 hx hZ k2 hown (host := "") (Or.inl (hw 93 rfl)) Via.refl e0 od1 d16_1
  have k4 := fun t_ ht_ => k3 t_ (o_ifNo X3 hx d16_4 ((if0 _ _).trans (feq (by decide)).1) ht_)
  obtain ⟨T5, X5, e5, k5⟩ := o_getS X3 hx hZ k4 hown (host := "") (Or.inl (hw 95 rfl)) Via.refl e3 (sTd.ext X00.2) d16_7
  have k6 := fun t_ ht_ => k5 t_ (o_goto X5 hx d16_10 16 (o_astore X5 hx d16_16 #[Lr dco, Lr ar, Li 0, Li 7, Lr ds, Lr tbd, Lu, Lu, Lu, Lu, Lu] rfl rfl (o_iconst X5 hx d16_18 0 rfl (o_istore X5 hx d16_19 #[Lr dco, Lr ar, Li 0, Li 7, Lr ds, Lr tbd, Li 0, Lu, Lu, Lu, Lu] rfl (o_iconst X5 hx d16_21 0 rfl (o_istore X5 hx d16_22 #[Lr dco, Lr ar, Li 0, Li 7, Lr ds, Lr tbd, Li 0, Li 0, Lu, Lu, Lu] rfl (o_bipush X5 hx d16_24 18 rfl (o_istore X5 hx d16_26 #[Lr dco, Lr ar, Li 0, Li 7, Lr ds, Lr tbd, Li 0, Li 0, Li 18, Lu, Lu] rfl (o_iloadN X5 hx d16_28 rfl (o_iloadN X5 hx d16_29 rfl (o_icmpNo X5 hx d16_30 (tlt (by decide)).2.1 (o_iload X5 hx d16_33 rfl (o_bipush X5 hx d16_35 18 rfl (o_icmpNo X5 hx d16_37 (teq (by decide)).2 (o_iloadN X5 hx d16_40 rfl (o_iloadN X5 hx d16_41 rfl (o_iconst X5 hx d16_42 4 rfl (o_isub X5 hx d16_43 (rfl : _ = (3 : Int32)) (o_icmpNo X5 hx d16_44 (tlt (by decide)).2.1 (o_aloadN X5 hx d16_47 rfl rfl (o_aloadN X5 hx d16_48 rfl rfl (o_iloadN X5 hx d16_49 rfl (o_iloadN X5 hx d16_50 rfl (o_aload X5 hx d16_51 rfl rfl (o_iload X5 hx d16_53 rfl (o_aloadN X5 hx d16_55 rfl rfl ht_))))))))))))))))))))))))))
  obtain ⟨T7, X7, e7, k7⟩ := o_getF X5 hx hZ k6 hown (host := "") (Or.inl (hw 93 rfl)) Via.refl e5 od1 d16_56
  have od8 := fDm.ext X00.2
  have k9 := fun t_ ht_ => k7 t_ (o_aloadN X7 hx d16_59 rfl rfl ht_)
  obtain ⟨T10, X10, e10, k10⟩ := o_getF X7 hx hZ k9 hown (host := "") (Or.inl (hw 96 rfl)) Via.refl e7 od8 d16_60
  have od11 := eD.ext X00.2
  obtain ⟨_, T12, Lc12, X12, hQ12, k12⟩ := o_privateM X10 hx hZ k10 yy7 hown (hw 181 rfl) (hw 182 rfl) (hw 184 rfl) (hw 183 rfl) (hw 185 rfl) (rm25 hw dco ar ds eno iso utf tbd tbe kd ke G1 fm kb kc B0 B1 B2 B3 B4 B5 v0 v1 v2 v3 v4 v5 v6 v7 r0 r1 r2 r3 r4 r5 r6 r7 h0 n0 Z0 hG X00 Va Vd hne g_ds hD) (hw 48 rfl) 0 od11 [.ref ar, .int 0, .int 7, .ref ds, .int 0, .int 1, .int 0] [] (lenOf pd_19 rfl) hml e10 d16_63
  obtain ⟨yb0, yb1, yb2, rfl, Nq12, Kb, Vb, sb0, sb1, sb2⟩ := hQ12
  have N12 := Fr.app N0 Nq12
  replace k12 := own_pushR k12
  replace X00 := X00.keep Kb (by simpa using g_ds)
  replace Va := Va.keep Kb (by simpa using hne)
  have Zs12 := Nat.le_trans Z0 Kb.1
  replace KK := KK.trans Kb (fun x q => Or.inl q)
  have k13 := fun t_ ht_ => k12 t_ (o_istore X12 hx d16_66 #[Lr dco, Lr ar, Li 0, Li 7, Lr ds, Lr tbd, Li 0, Li 0, Li 18, Li 3, Lu] rfl (o_iload X12 hx d16_68 rfl (o_iconst X12 hx d16_70 2 rfl (o_iadd X12 hx d16_71 (rfl : _ = (5 : Int32)) (o_iconst X12 hx d16_72 3 rfl (o_idiv X12 hx d16_73 (by decide) ht_))))))
  rw [show ((5 : Int32) / (3 : Int32)) = (1 : Int32) from by decide] at k13
  have k14 := fun t_ ht_ => k13 t_ (o_iconst X12 hx d16_74 4 rfl (o_imul X12 hx d16_75 (rfl : _ = (4 : Int32)) (o_istore X12 hx d16_76 #[Lr dco, Lr ar, Li 0, Li 7, Lr ds, Lr tbd, Li 0, Li 0, Li 18, Li 3, Li 4] rfl (o_iloadN X12 hx d16_78 rfl (o_iload X12 hx d16_79 rfl (o_iadd X12 hx d16_81 (rfl : _ = (4 : Int32)) (o_istoreN X12 hx d16_82 #[Lr dco, Lr ar, Li 4, Li 7, Lr ds, Lr tbd, Li 0, Li 0, Li 18, Li 3, Li 4] rfl (o_iload X12 hx d16_83 rfl (o_iload X12 hx d16_85 rfl (o_iadd X12 hx d16_87 (rfl : _ = (3 : Int32)) (o_istore X12 hx d16_88 #[Lr dco, Lr ar, Li 4, Li 7, Lr ds, Lr tbd, Li 3, Li 0, Li 18, Li 3, Li 4] rfl (o_iloadN X12 hx d16_90 rfl (o_iloadN X12 hx d16_91 rfl (o_icmpYes X12 hx d16_92 (tlt (by decide)).1 98 (o_aloadN X12 hx d16_98 rfl rfl (o_iloadN X12 hx d16_99 rfl (o_iinc X12 hx d16_100 #[Lr dco, Lr ar, Li 5, Li 7, Lr ds, Lr tbd, Li 3, Li 0, Li 18, Li 3, Li 4] rfl rfl (o_ldB X12 hx hZ d16_103 rfl Va ⟨by decide, by decide⟩ (rfl : _ = Value.int r4) (o_sipush X12 hx d16_104 255 rfl (o_iand X12 hx d16_107 rfl ht_))))))))))))))))))))
  rw [own_r255 hc4] at k14
  have od15 := aTd.ext X00.2
  have k16 := fun t_ ht_ => k14 t_ (o_istore X12 hx d16_108 #[Lr dco, Lr ar, Li 5, Li 7, Lr ds, Lr tbd, Li 3, Li 0, Li 18, Li r4, Li 4] rfl (o_aload X12 hx d16_110 rfl rfl (o_iload X12 hx d16_112 rfl (o_ldI X12 hx hZ d16_114 rfl od15 (own_i256 hc4) (own_tabD_at hc4) (o_dup X12 hx d16_115 rfl (o_istore X12 hx d16_116 #[Lr dco, Lr ar, Li 5, Li 7, Lr ds, Lr tbd, Li 3, Li 0, Li 18, Li v4, Li 4] rfl (o_ifYes X12 hx d16_118 ((if0 _ _).trans (flt (own_v0 hc4)).2.1) 214 (o_iload X12 hx d16_214 rfl (o_iload X12 hx d16_216 rfl (o_iload X12 hx d16_218 rfl (o_ishl X12 hx d16_220 (o_ior X12 hx d16_221 rfl (o_istore X12 hx d16_222 #[Lr dco, Lr ar, Li 5, Li 7, Lr ds, Lr tbd, Li 3, Li ((0 : Int32) ||| (v4 <<< ((18 : Int32) &&& 31))), Li 18, Li v4, Li 4] rfl (o_iinc X12 hx d16_224 #[Lr dco, Lr ar, Li 5, Li 7, Lr ds, Lr tbd, Li 3, Li ((0 : Int32) ||| (v4 <<< ((18 : Int32) &&& 31))), Li 12, Li v4, Li 4] rfl rfl (o_iload X12 hx d16_227 rfl (o_ifYes X12 hx d16_229 ((if0 _ _).trans (flt (by decide)).2.1) 278 (o_goto X12 hx d16_278 28 (o_iloadN X12 hx d16_28 rfl (o_iloadN X12 hx d16_29 rfl (o_icmpNo X12 hx d16_30 (tlt (by decide)).2.1 (o_iload X12 hx d16_33 rfl (o_bipush X12 hx d16_35 18 rfl (o_icmpYes X12 hx d16_37 (feq (by decide)).2 90 (o_iloadN X12 hx d16_90 rfl (o_iloadN X12 hx d16_91 rfl (o_icmpYes X12 hx d16_92 (tlt (by decide)).1 98 (o_aloadN X12 hx d16_98 rfl rfl (o_iloadN X12 hx d16_99 rfl (o_iinc X12 hx d16_100 #[Lr dco, Lr ar, Li 6, Li 7, Lr ds, Lr tbd, Li 3, Li ((0 : Int32) ||| (v4 <<< ((18 : Int32) &&& 31))), Li 12, Li v4, Li 4] rfl rfl (o_ldB X12 hx hZ d16_103 rfl Va ⟨by decide, by decide⟩ (rfl : _ = Value.int r5) (o_sipush X12 hx d16_104 255 rfl (o_iand X12 hx d16_107 rfl ht_))))))))))))))))))))))))))))))))
  rw [own_r255 hc5] at k16
  have k17 := fun t_ ht_ => k16 t_ (o_istore X12 hx d16_108 #[Lr dco, Lr ar, Li 6, Li 7, Lr ds, Lr tbd, Li 3, Li ((0 : Int32) ||| (v4 <<< ((18 : Int32) &&& 31))), Li 12, Li r5, Li 4] rfl (o_aload X12 hx d16_110 rfl rfl (o_iload X12 hx d16_112 rfl (o_ldI X12 hx hZ d16_114 rfl od15 (own_i256 hc5) (own_tabD_at hc5) (o_dup X12 hx d16_115 rfl (o_istore X12 hx d16_116 #[Lr dco, Lr ar, Li 6, Li 7, Lr ds, Lr tbd, Li 3, Li ((0 : Int32) ||| (v4 <<< ((18 : Int32) &&& 31))), Li 12, Li v5, Li 4] rfl (o_ifYes X12 hx d16_118 ((if0 _ _).trans (flt (own_v0 hc5)).2.1) 214 (o_iload X12 hx d16_214 rfl (o_iload X12 hx d16_216 rfl (o_iload X12 hx d16_218 rfl (o_ishl X12 hx d16_220 (o_ior X12 hx d16_221 rfl (o_istore X12 hx d16_222 #[Lr dco, Lr ar, Li 6, Li 7, Lr ds, Lr tbd, Li 3, Li (((0 : Int32) ||| (v4 <<< ((18 : Int32) &&& 31))) ||| (v5 <<< ((12 : Int32) &&& 31))), Li 12, Li v5, Li 4] rfl (o_iinc X12 hx d16_224 #[Lr dco, Lr ar, Li 6, Li 7, Lr ds, Lr tbd, Li 3, Li (((0 : Int32) ||| (v4 <<< ((18 : Int32) &&& 31))) ||| (v5 <<< ((12 : Int32) &&& 31))), Li 6, Li v5, Li 4] rfl rfl (o_iload X12 hx d16_227 rfl (o_ifYes X12 hx d16_229 ((if0 _ _).trans (flt (by decide)).2.1) 278 (o_goto X12 hx d16_278 28 (o_iloadN X12 hx d16_28 rfl (o_iloadN X12 hx d16_29 rfl (o_icmpNo X12 hx d16_30 (tlt (by decide)).2.1 (o_iload X12 hx d16_33 rfl (o_bipush X12 hx d16_35 18 rfl (o_icmpYes X12 hx d16_37 (feq (by decide)).2 90 (o_iloadN X12 hx d16_90 rfl (o_iloadN X12 hx d16_91 rfl (o_icmpYes X12 hx d16_92 (tlt (by decide)).1 98 (o_aloadN X12 hx d16_98 rfl rfl (o_iloadN X12 hx d16_99 rfl (o_iinc X12 hx d16_100 #[Lr dco, Lr ar, Li 7, Li 7, Lr ds, Lr tbd, Li 3, Li (((0 : Int32) ||| (v4 <<< ((18 : Int32) &&& 31))) ||| (v5 <<< ((12 : Int32) &&& 31))), Li 6, Li v5, Li 4] rfl rfl (o_ldB X12 hx hZ d16_103 rfl Va ⟨by decide, by decide⟩ (rfl : _ = Value.int r6) (o_sipush X12 hx d16_104 255 rfl (o_iand X12 hx d16_107 rfl ht_))))))))))))))))))))))))))))))))
  rw [own_r255 hc6] at k17
  have k18 := fun t_ ht_ => k17 t_ (o_istore X12 hx d16_108 #[Lr dco, Lr ar, Li 7, Li 7, Lr ds, Lr tbd, Li 3, Li (((0 : Int32) ||| (v4 <<< ((18 : Int32) &&& 31))) ||| (v5 <<< ((12 : Int32) &&& 31))), Li 6, Li r6, Li 4] rfl (o_aload X12 hx d16_110 rfl rfl (o_iload X12 hx d16_112 rfl (o_ldI X12 hx hZ d16_114 rfl od15 (own_i256 hc6) (own_tabD_at hc6) (o_dup X12 hx d16_115 rfl (o_istore X12 hx d16_116 #[Lr dco, Lr ar, Li 7, Li 7, Lr ds, Lr tbd, Li 3, Li (((0 : Int32) ||| (v4 <<< ((18 : Int32) &&& 31))) ||| (v5 <<< ((12 : Int32) &&& 31))), Li 6, Li v6, Li 4] rfl (o_ifYes X12 hx d16_118 ((if0 _ _).trans (flt (own_v0 hc6)).2.1) 214 (o_iload X12 hx d16_214 rfl (o_iload X12 hx d16_216 rfl (o_iload X12 hx d16_218 rfl (o_ishl X12 hx d16_220 (o_ior X12 hx d16_221 rfl (o_istore X12 hx d16_222 #[Lr dco, Lr ar, Li 7, Li 7, Lr ds, Lr tbd, Li 3, Li ((((0 : Int32) ||| (v4 <<< ((18 : Int32) &&& 31))) ||| (v5 <<< ((12 : Int32) &&& 31))) ||| (v6 <<< ((6 : Int32) &&& 31))), Li 6, Li v6, Li 4] rfl (o_iinc X12 hx d16_224 #[Lr dco, Lr ar, Li 7, Li 7, Lr ds, Lr tbd, Li 3, Li ((((0 : Int32) ||| (v4 <<< ((18 : Int32) &&& 31))) ||| (v5 <<< ((12 : Int32) &&& 31))) ||| (v6 <<< ((6 : Int32) &&& 31))), Li 0, Li v6, Li 4] rfl rfl (o_iload X12 hx d16_227 rfl (o_ifYes X12 hx d16_229 ((if0 _ _).trans (flt (by decide)).2.1) 278 (o_goto X12 hx d16_278 28 (o_iloadN X12 hx d16_28 rfl (o_iloadN X12 hx d16_29 rfl (o_icmpYes X12 hx d16_30 (flt (by decide)).2.1 281 (o_iload X12 hx d16_281 rfl (o_bipush X12 hx d16_283 6 rfl (o_icmpYes X12 hx d16_285 (feq (by decide)).2 305 (o_iload X12 hx d16_305 rfl (o_ifNo X12 hx d16_307 ((if0 _ _).trans (teq (by decide)).2) ht_)))))))))))))))))))))))))
  obtain ⟨bt3, hbt3⟩ : ∃ z : Int32, z = ((((0 : Int32) ||| (v4 <<< ((18 : Int32) &&& 31))) ||| (v5 <<< ((12 : Int32) &&& 31))) ||| (v6 <<< ((6 : Int32) &&& 31))) := ⟨_, rfl⟩
  rw [← hbt3] at k18
  have k19 := fun t_ ht_ => k18 t_ (o_aload X12 hx d16_310 rfl rfl (o_iload X12 hx d16_312 rfl (o_iinc X12 hx d16_314 #[Lr dco, Lr ar, Li 7, Li 7, Lr ds, Lr tbd, Li 4, Li bt3, Li 0, Li v6, Li 4] rfl rfl (o_iload X12 hx d16_317 rfl (o_bipush X12 hx d16_319 16 rfl (o_ishr X12 hx d16_321 (o_i2b X12 hx d16_322 ht_)))))))
  obtain ⟨yy3, hyy3⟩ : ∃ z : Int32, z = ((bt3 >>> ((16 : Int32) &&& 31)).toInt8.toInt32) := ⟨_, rfl⟩
  rw [← hyy3] at k19
  have sb3 := own_T3_0 hq1 hc4 hc5 hc6 hbt3 hyy3
  obtain ⟨T20, h20, X20, e20, W20, Vb, k20⟩ := o_stB X12 hx hZ k19 rfl Vb 3 [.int yb0, .int yb1, .int yb2, .int (nar .byte yy3), .int 0] d16_323
  replace X00 := X00.wr W20 g_ds
  replace Va := Va.other W20 hne
  have Zs20 := Nat.le_trans Zs12 (Keep.of_wr W20).1
  replace KK := KK.wr W20 (Or.inl (by simp))
  have N20 := Fr.snoc X20 N12 g_ds
  have k21 := fun t_ ht_ => k20 t_ (o_aload X20 hx d16_324 rfl rfl (o_iload X20 hx d16_326 rfl (o_iinc X20 hx d16_328 #[Lr dco, Lr ar, Li 7, Li 7, Lr ds, Lr tbd, Li 5, Li bt3, Li 0, Li v6, Li 4] rfl rfl (o_iload X20 hx d16_331 rfl (o_bipush X20 hx d16_333 8 rfl (o_ishr X20 hx d16_335 (o_i2b X20 hx d16_336 ht_)))))))
  obtain ⟨yy4, hyy4⟩ : ∃ z : Int32, z = ((bt3 >>> ((8 : Int32) &&& 31)).toInt8.toInt32) := ⟨_, rfl⟩
  rw [← hyy4] at k21
  have sb4 := own_T3_1 hq1 hc4 hc5 hc6 hbt3 hyy4
  obtain ⟨T22, h22, X22, e22, W22, Vb, k22⟩ := o_stB X20 hx hZ k21 e20 Vb 4 [.int yb0, .int yb1, .int yb2, .int (nar .byte yy3), .int (nar .byte yy4)] d16_337
  replace X00 := X00.wr W22 g_ds
  replace Va := Va.other W22 hne
  have Zs22 := Nat.le_trans Zs20 (Keep.of_wr W22).1
  replace KK := KK.wr W22 (Or.inl (by simp))
  have N22 := Fr.snoc X22 N20 g_ds
  have k23 := fun t_ ht_ => k22 t_ (o_goto X22 hx d16_338 358 (o_iloadN X22 hx d16_358 rfl (o_iloadN X22 hx d16_359 rfl (o_icmpYes X22 hx d16_360 (flt (by decide)).2.1 416 (o_iload X22 hx d16_416 rfl ht_)))))
  exact o_retI X22 hx k23 hlk hret d16_418 (by rw [e22]; exact ⟨yb0, yb1, yb2, (nar .byte yy3), (nar .byte yy4), rfl, N22, KK, Vb, sb0, sb1, sb2, sb3, sb4⟩)
theorem ef_82 (m : MethodId) (x0 x1 : Addr) : entryFrame m #[.ref x0, .ref x1] 4 = mkF m 0 #[Lr x0, Lr x1, Lu, Lu] [] := by first | (simp [entryFrame, mkF, argsToLocals, Value.category]; done) | rfl
def Q82 (Z : State) (dco ar eno iso utf tbd tbe : Addr) (kd ke : ClassId) (G1 : Int32) (fm : Value) (kb : ClassId) (B0 B1 B2 B3 B4 B5 v0 v1 v2 v3 v4 v5 v6 v7 r0 r1 r2 r3 r4 r5 r6 r7 : Int32) (h0 : Heap) (n0 : Nat) (v : Option Value) (h : Heap) (L : List Loc) : Prop := ∃ (ds : Addr) (kc : ClassId) (y0 y1 y2 y3 y4 : Int32), v = some (.ref ds) ∧ Fr n0 L ∧ Keep h0 h [] ∧ Arv Z h ds kc .byte (5 : Int32) [.int y0, .int y1, .int y2, .int y3, .int y4] (.int 0) ∧ h0.size ≤ ds ∧ n0 ≤ ds ∧ own_SB y0 B0 ∧ own_SB y1 B1 ∧ own_SB y2 B2 ∧ own_SB y3 B3 ∧ own_SB y4 B4
set_option maxRecDepth 65536 in
set_option maxHeartbeats 40000000 in
theorem rm82 (hw : own_W a0 Z) (dco ar eno iso utf tbd tbe : Addr) (kd ke : ClassId) (G1 : Int32) (fm : Value) (kb : ClassId) (B0 B1 B2 B3 B4 B5 v0 v1 v2 v3 v4 v5 v6 v7 r0 r1 r2 r3 r4 r5 r6 r7 : Int32) (h0 : Heap) (n0 : Nat) (Z0 : n0 ≤ h0.size) (hG : own_G Z dco eno iso utf tbd tbe kd ke G1 fm) (X00 : Old Z n0 h0) (Va : Arv Z h0 ar kb .byte (7 : Int32) [.int r0, .int r1, .int r2, .int r3, .int r4, .int r5, .int r6] (.int 0)) (hD : own_D 5 B0 B1 B2 B3 B4 B5 v0 v1 v2 v3 v4 v5 v6 v7 r0 r1 r2 r3 r4 r5 r6 r7) :
    own_M l Z yy17 q17 4 (some (.array .byte)) ⟨2, 1, 5, 49⟩ #[.ref dco, .ref ar] h0 [] (Q82 Z dco ar eno iso utf tbd tbe kd ke G1 fm kb B0 B1 B2 B3 B4 B5 v0 v1 v2 v3 v4 v5 v6 v7 r0 r1 r2 r3 r4 r5 r6 r7 h0 n0) := by
  refine own_body (plainFor_of_name pn_2) ?_
  intro p e s m below meth c s₁ A hx hml hown hnm hlk hret hZ X0 e0 k0
  replace k0 := own_ent (ef_82 m dco ar) k0
  have N0 := Fr.nil n0
  have KK : Keep h0 h0 [] := Keep.refl h0 []
  obtain ⟨sD, sE, eD, eE, fDu, fDm, fEp, fEl, fEu, sI, sU, iu, sTd, sTe, aTd, aTe, sC, gC, sS, fmr⟩ := id hG
  obtain ⟨hq0, hq1, hc0, hc1, hc2, hc3, hc4, hc5, hc6, hc7, hz1, hz2, hz4, hz5⟩ := id hD
  have od1 := eD.ext X00.2
  have k2 := fun t_ ht_ => k0 t_ (o_aloadN X0 hx d17_0 rfl rfl (o_aloadN X0 hx d17_1 rfl rfl (o_iconst X0 hx d17_2 0 rfl (o_aloadN X0 hx d17_3 rfl rfl (o_len X0 hx hZ d17_4 e0 Va ht_)))))
  obtain ⟨_, T3, Lc3, X3, hQ3, k3⟩ := o_privateM X0 hx hZ k2 yy15 hown (hw 88 rfl) (hw 89 rfl) (hw 91 rfl) (hw 90 rfl) (hw 92 rfl) (rm80 hw dco ar eno iso utf tbd tbe kd ke G1 fm kb B0 B1 B2 B3 B4 B5 v0 v1 v2 v3 v4 v5 v6 v7 r0 r1 r2 r3 r4 r5 r6 r7 h0 n0 Z0 hG X00 Va hD) (hw 48 rfl) 0 od1 [.ref ar, .int 0, .int 7] [] (lenOf pd_8 rfl) hml e0 d17_5
  obtain ⟨rfl, Nq3, e3⟩ := hQ3
  have N3 := Fr.app N0 Nq3
  replace k3 := own_pushR k3
  obtain ⟨T4, h4, c4, X4, e4, E4, Ax4, Bx4, k4⟩ := o_newP X3 hx hZ k3 (hw 27 rfl) e3 (by decide) 5 (by decide) "[B" d17_8
  obtain ⟨b4, g4⟩ : ∃ z, z = h0.size := ⟨_, rfl⟩
  rw [← g4] at Ax4 Bx4 k4
  have ne_ar_b4 : ar ≠ b4 := Nat.ne_of_lt (Nat.lt_of_lt_of_le Va.lt (Nat.le_of_eq g4.symm))
  have g_b4 : n0 ≤ b4 := Nat.le_trans Z0 (Nat.le_of_eq g4.symm)
  have sz_b4 : h0.size ≤ b4 := Nat.le_trans KK.1 (Nat.le_of_eq g4.symm)
  replace X00 : Old Z n0 h4 := ⟨X00.1, Nat.le_trans X00.2.1 E4.1, fun x c r => E4.2 x c (X00.2.2 x c r)⟩
  replace Va := Va.ext E4
  have Zs4 := Nat.le_trans Z0 E4.1
  replace KK := KK.ext E4
  have Ex_b4 := Bx4
  have V_b4 : Arv Z h4 b4 c4 .byte 5 [.int 0, .int 0, .int 0, .int 0, .int 0] (.int 0) := (Arv.new Ax4 (by decide)).pad (pad_rep [] (.int 0) 5)
  have od5 := eD.ext X00.2
  have k6 := fun t_ ht_ => k4 t_ (o_astoreN X4 hx d17_10 #[Lr dco, Lr ar, Lr b4, Lu] rfl rfl (o_aloadN X4 hx d17_11 rfl rfl (o_aloadN X4 hx d17_12 rfl rfl (o_iconst X4 hx d17_13 0 rfl (o_aloadN X4 hx d17_14 rfl rfl (o_len X4 hx hZ d17_15 e4 Va (o_aloadN X4 hx d17_16 rfl rfl ht_)))))))
  obtain ⟨_, T7, Lc7, X7, hQ7, k7⟩ := o_privateM X4 hx hZ k6 yy16 hown (hw 100 rfl) (hw 101 rfl) (hw 103 rfl) (hw 102 rfl) (hw 104 rfl) (rm81 hw dco ar b4 eno iso utf tbd tbe kd ke G1 fm kb c4 B0 B1 B2 B3 B4 B5 v0 v1 v2 v3 v4 v5 v6 v7 r0 r1 r2 r3 r4 r5 r6 r7 h4 n0 Zs4 hG X00 Va V_b4 ne_ar_b4 g_b4 hD) (hw 48 rfl) 0 od5 [.ref ar, .int 0, .int 7, .ref b4] [] (lenOf pd_9 rfl) hml e4 d17_17
  obtain ⟨yo0, yo1, yo2, yo3, yo4, rfl, Nq7, K1, V1, sb0, sb1, sb2, sb3, sb4⟩ := hQ7
  have N7 := Fr.app N3 Nq7
  replace k7 := own_pushR k7
  replace X00 := X00.keep K1 (by simpa using g_b4)
  replace Va := Va.keep K1 (by simpa using ne_ar_b4)
  replace Ex_b4 := Ex_b4.keep K1
  have Zs7 := Nat.le_trans Zs4 K1.1
  replace KK := KK.trans K1 (fun x q => by cases List.mem_singleton.mp q; exact Or.inr sz_b4)
  have k8 := fun t_ ht_ => k7 t_ (o_istoreN X7 hx d17_20 #[Lr dco, Lr ar, Lr b4, Li 5] rfl (o_iloadN X7 hx d17_21 rfl (o_aloadN X7 hx d17_22 rfl rfl (o_len X7 hx hZ d17_23 rfl V1 (o_icmpYes X7 hx d17_24 (teq (by decide)).1 33 (o_aloadN X7 hx d17_33 rfl rfl ht_))))))
  exact o_retA X7 hx k8 hlk hret rfl d17_34 (by exact ⟨b4, c4, yo0, yo1, yo2, yo3, yo4, rfl, N7, KK, V1, sz_b4, g_b4, sb0, sb1, sb2, sb3, sb4⟩)
theorem ef_83 (m : MethodId) (x0 x1 : Addr) : entryFrame m #[.ref x0, .ref x1] 2 = mkF m 0 #[Lr x0, Lr x1] [] := by first | (simp [entryFrame, mkF, argsToLocals, Value.category]; done) | rfl
def Q83 (Z : State) (dco a1 eno iso utf tbd tbe : Addr) (kd ke : ClassId) (G1 : Int32) (fm : Value) (ar : Addr) (kb : ClassId) (B0 B1 B2 B3 B4 B5 v0 v1 v2 v3 v4 v5 v6 v7 r0 r1 r2 r3 r4 r5 r6 r7 : Int32) (h0 : Heap) (n0 : Nat) (v : Option Value) (h : Heap) (L : List Loc) : Prop := ∃ (ds : Addr) (kc : ClassId) (y0 y1 y2 y3 y4 : Int32), v = some (.ref ds) ∧ Fr n0 L ∧ Keep h0 h [] ∧ Arv Z h ds kc .byte (5 : Int32) [.int y0, .int y1, .int y2, .int y3, .int y4] (.int 0) ∧ h0.size ≤ ds ∧ n0 ≤ ds ∧ own_SB y0 B0 ∧ own_SB y1 B1 ∧ own_SB y2 B2 ∧ own_SB y3 B3 ∧ own_SB y4 B4
set_option maxRecDepth 65536 in
set_option maxHeartbeats 40000000 in
theorem rm83 (hw : own_W a0 Z) (dco a1 eno iso utf tbd tbe : Addr) (kd ke : ClassId) (G1 : Int32) (fm : Value) (ar : Addr) (kb : ClassId) (B0 B1 B2 B3 B4 B5 v0 v1 v2 v3 v4 v5 v6 v7 r0 r1 r2 r3 r4 r5 r6 r7 : Int32) (h0 : Heap) (n0 : Nat) (Z0 : n0 ≤ h0.size) (hG : own_G Z dco eno iso utf tbd tbe kd ke G1 fm) (X00 : Old Z n0 h0) (Es : Exa Z h0 a1 "java/lang/String") (Fc : Fld Z h0 a1 "java/lang/String" "coder" "B" (.int 0)) (Fv : Fld Z h0 a1 "java/lang/String" "value" "[B" (.ref ar)) (Va : Arv Z h0 ar kb .byte (7 : Int32) [.int r0, .int r1, .int r2, .int r3, .int r4, .int r5, .int r6] (.int 0)) (Ea : Exa Z h0 ar "[B") (hD : own_D 5 B0 B1 B2 B3 B4 B5 v0 v1 v2 v3 v4 v5 v6 v7 r0 r1 r2 r3 r4 r5 r6 r7) :
    own_M l Z yy18 q18 2 (some (.array .byte)) ⟨5, 2, 13, 76⟩ #[.ref dco, .ref a1] h0 [] (Q83 Z dco a1 eno iso utf tbd tbe kd ke G1 fm ar kb B0 B1 B2 B3 B4 B5 v0 v1 v2 v3 v4 v5 v6 v7 r0 r1 r2 r3 r4 r5 r6 r7 h0 n0) := by
  refine own_body (plainFor_of_name pn_2) ?_
  intro p e s m below meth c s₁ A hx hml hown hnm hlk hret hZ X0 e0 k0
  replace k0 := own_ent (ef_83 m dco a1) k0
  have N0 := Fr.nil n0
  have KK : Keep h0 h0 [] := Keep.refl h0 []
  obtain ⟨sD, sE, eD, eE, fDu, fDm, fEp, fEl, fEu, sI, sU, iu, sTd, sTe, aTd, aTe, sC, gC, sS, fmr⟩ := id hG
  obtain ⟨hq0, hq1, hc0, hc1, hc2, hc3, hc4, hc5, hc6, hc7, hz1, hz2, hz4, hz5⟩ := id hD
  have k1 := fun t_ ht_ => k0 t_ (o_aloadN X0 hx d18_0 rfl rfl (o_aloadN X0 hx d18_1 rfl rfl ht_))
  obtain ⟨T2, X2, e2, k2⟩ := o_getS X0 hx hZ k1 hown (host := "") (Or.inl (hw 50 rfl)) Via.refl e0 (sI.ext X00.2) d18_2
  obtain ⟨_, T3, Lc3, X3, hQ3, k3⟩ := o_virtualM X2 hx hZ k2 yy6 hown (hw 52 rfl) yy6 (hw 53 rfl) (hw 55 rfl) (hw 54 rfl) rfl (rm23 hw a1 iso dco eno utf tbd tbe kd ke G1 fm ar kb (7 : Int32) _ h0 n0 Z0 hG X00 Es Fc Fv Va Ea (by decide)) (hw 56 rfl) (hw 11 rfl) 1 Es [.ref iso] [.ref dco] (lenOf pd_10 rfl) hml e2 d18_5
  obtain ⟨cr, rfl, Nq3, K1, V1, E1, G1_⟩ := hQ3
  have N3 := Fr.app N0 Nq3
  replace k3 := own_pushR k3
  replace X00 := X00.keep K1 (by simp)
  replace Es := Es.keep K1
  replace Fc := Fc.keep K1 (by simp)
  replace Fv := Fv.keep K1 (by simp)
  replace Va := Va.keep K1 (by simp)
  replace Ea := Ea.keep K1
  have Zs3 := Nat.le_trans Z0 K1.1
  replace KK := KK.trans K1 (fun x q => nomatch q)
  have od4 := eD.ext X00.2
  obtain ⟨_, T5, Lc5, X5, hQ5, k5⟩ := o_virtualM X3 hx hZ k3 yy17 hown (hw 83 rfl) yy17 (hw 84 rfl) (hw 86 rfl) (hw 85 rfl) rfl (rm82 hw dco cr eno iso utf tbd tbe kd ke G1 fm kb B0 B1 B2 B3 B4 B5 v0 v1 v2 v3 v4 v5 v6 v7 r0 r1 r2 r3 r4 r5 r6 r7 T3.heap n0 Zs3 hG X00 V1 hD) (hw 87 rfl) (hw 48 rfl) 0 od4 [.ref cr] [] (lenOf pd_11 rfl) hml rfl d18_8
  obtain ⟨ds, kc, yo0, yo1, yo2, yo3, yo4, rfl, Nq5, K2, V2, G2, g_ds, sb0, sb1, sb2, sb3, sb4⟩ := hQ5
  have N5 := Fr.app N3 Nq5
  replace k5 := own_pushR k5
  have sz_ds : h0.size ≤ ds := Nat.le_trans KK.1 G2
  replace X00 := X00.keep K2 (by simp)
  replace Es := Es.keep K2
  replace Fc := Fc.keep K2 (by simp)
  replace Fv := Fv.keep K2 (by simp)
  replace Va := Va.keep K2 (by simp)
  replace Ea := Ea.keep K2
  replace V1 := V1.keep K2 (by simp)
  replace E1 := E1.keep K2
  have Zs5 := Nat.le_trans Zs3 K2.1
  replace KK := KK.trans K2 (fun x q => nomatch q)
  exact o_retA X5 hx k5 hlk hret rfl d18_11 (by exact ⟨ds, kc, yo0, yo1, yo2, yo3, yo4, rfl, N5, KK, V2, sz_ds, g_ds, sb0, sb1, sb2, sb3, sb4⟩)
theorem ef_85 (m : MethodId) (x0 x1 : Int32) : entryFrame m #[.int x0, .int x1] 3 = mkF m 0 #[Li x0, Li x1, Lu] [] := by first | (simp [entryFrame, mkF, argsToLocals, Value.category]; done) | rfl
def Q85 (Z : State)  (h0 : Heap) (n0 : Nat) (v : Option Value) (h : Heap) (L : List Loc) : Prop := v = some (.int (7 : Int32)) ∧ Fr n0 L ∧ h = h0
set_option maxRecDepth 65536 in
set_option maxHeartbeats 40000000 in
theorem rm85 (hw : own_W a0 Z)  (h0 : Heap) (n0 : Nat) (Z0 : n0 ≤ h0.size) :
    own_M l Z yy20 q21 3 (some .int) ⟨0, 0, 0, 0⟩ #[.int 4, .int 3] h0 [] (Q85 Z  h0 n0) := by
  refine own_body (Jvm.Free.JP.mathPlain rfl (by decide +kernel)) ?_
  intro p e s m below meth c s₁ A hx hml hown hnm hlk hret hZ X0 e0 k0
  replace k0 := own_ent (ef_85 m 4 3) k0
  have N0 := Fr.nil n0
  have k1 := fun t_ ht_ => k0 t_ (o_iloadN X0 hx d21_0 rfl (o_iloadN X0 hx d21_1 rfl (o_iadd X0 hx d21_2 (rfl : _ = (7 : Int32)) (o_istoreN X0 hx d21_3 #[Li 4, Li 3, Li 7] rfl (o_iloadN X0 hx d21_4 rfl (o_iloadN X0 hx d21_5 rfl (o_ixor X0 hx d21_6 rfl (o_iloadN X0 hx d21_7 rfl (o_iloadN X0 hx d21_8 rfl (o_ixor X0 hx d21_9 rfl (o_iand X0 hx d21_10 rfl (o_ifYes X0 hx d21_11 ((if0 _ _).trans (flt (by decide)).2.1) 24 (o_iloadN X0 hx d21_24 rfl ht_)))))))))))))
  exact o_retI X0 hx k1 hlk hret d21_25 (by rw [e0]; exact ⟨congrArg (fun z => some (Value.int z)) (show (7 : Int32) = (7 : Int32) from by decide), N0, rfl⟩)
theorem ef_84 (m : MethodId) (x0 : Addr) (x1 x2 : Int32) : entryFrame m #[.ref x0, .int x1, .int x2] 5 = mkF m 0 #[Lr x0, Li x1, Li x2, Lu, Lu] [] := by first | (simp [entryFrame, mkF, argsToLocals, Value.category]; done) | rfl
def Q84 (Z : State) (eno dco iso utf tbd tbe : Addr) (kd ke : ClassId) (G1 : Int32) (fm : Value) (h0 : Heap) (n0 : Nat) (v : Option Value) (h : Heap) (L : List Loc) : Prop := v = some (.int (7 : Int32)) ∧ Fr n0 L ∧ h = h0
set_option maxRecDepth 65536 in
set_option maxHeartbeats 40000000 in
theorem rm84 (hw : own_W a0 Z) (eno dco iso utf tbd tbe : Addr) (kd ke : ClassId) (G1 : Int32) (fm : Value) (h0 : Heap) (n0 : Nat) (Z0 : n0 ≤ h0.size) (hG : own_G Z dco eno iso utf tbd tbe kd ke G1 fm) (X00 : Old Z n0 h0) :
    own_MH l Z yy21 q19 5 (some .int) [(2, 79, 82, 33)] ⟨1, 0, 0, 15⟩ #[.ref eno, .int 5, .int 1] h0 [] (Q84 Z eno dco iso utf tbd tbe kd ke G1 fm h0 n0) := by
  refine own_bodyH (plainFor_of_name pn_3) ?_
  intro p e s m below meth c s₁ A hx hml hown hnm hlk hret hZ X0 e0 k0
  replace k0 := own_ent (ef_84 m eno 5 1) k0
  have N0 := Fr.nil n0
  obtain ⟨sD, sE, eD, eE, fDu, fDm, fEp, fEl, fEu, sI, sU, iu, sTd, sTe, aTd, aTe, sC, gC, sS, fmr⟩ := id hG
  have od1 := fEp.ext X00.2
  have k2 := fun t_ ht_ => k0 t_ (o_iconst X0 hx d19_0 0 rfl (o_istoreN X0 hx d19_1 #[Lr eno, Li 5, Li 1, Li 0, Lu] rfl (o_aloadN X0 hx d19_2 rfl rfl ht_)))
  obtain ⟨T3, X3, e3, k3⟩ := o_getF X0 hx hZ k2 hown (host := "") (Or.inl (hw 123 rfl)) Via.refl e0 od1 d19_3
  have k4 := fun t_ ht_ => k3 t_ (o_ifYes X3 hx d19_6 ((if0 _ _).trans (teq (by decide)).1) 24 (o_iloadN X3 hx d19_24 rfl (o_iconst X3 hx d19_25 3 rfl (o_irem X3 hx d19_26 (by decide) ht_))))
  rw [show ((5 : Int32) - ((5 : Int32) / (3 : Int32)) * (3 : Int32)) = (2 : Int32) from by decide] at k4
  have k5 := fun t_ ht_ => k4 t_ (o_istore X3 hx d19_27 #[Lr eno, Li 5, Li 1, Li 0, Li 2] rfl (o_iconst X3 hx d19_29 4 rfl (o_iloadN X3 hx d19_30 rfl (o_iconst X3 hx d19_31 3 rfl (o_idiv X3 hx d19_32 (by decide) ht_)))))
  rw [show ((5 : Int32) / (3 : Int32)) = (1 : Int32) from by decide] at k5
  obtain ⟨_, T6, Lc6, X6, hQ6, k6⟩ := o_callSM X3 hx hZ k5 yy19 hown (hw 125 rfl) (hw 126 rfl) (hw 127 rfl) (hw 128 rfl) (rm63 hw h0 n0 Z0) 0 [.int 4, .int 1] [] (lenOf pd_12 rfl) hml e3 d19_33
  obtain ⟨rfl, Nq6, e6⟩ := hQ6
  have N6 := Fr.app N0 Nq6
  replace k6 := own_pushR k6
  have k7 := fun t_ ht_ => k6 t_ (o_iload X6 hx d19_36 rfl (o_ifYes X6 hx d19_38 ((if0 _ _).trans (feq (by decide)).2) 45 (o_iload X6 hx d19_45 rfl (o_iconst X6 hx d19_47 1 rfl (o_iadd X6 hx d19_48 (rfl : _ = (3 : Int32)) ht_)))))
  obtain ⟨_, T8, Lc8, X8, hQ8, k8⟩ := o_callSM X6 hx hZ k7 yy20 hown (hw 129 rfl) (hw 130 rfl) (hw 127 rfl) (hw 131 rfl) (rm85 hw h0 n0 Z0) 0 [.int 4, .int 3] [] (lenOf pd_12 rfl) hml e6 d19_49
  obtain ⟨rfl, Nq8, e8⟩ := hQ8
  have N8 := Fr.app N6 Nq8
  replace k8 := own_pushR k8
  have od9 := fEl.ext X00.2
  have k10 := fun t_ ht_ => k8 t_ (o_istoreN X8 hx d19_52 #[Lr eno, Li 5, Li 1, Li 7, Li 2] rfl (o_aloadN X8 hx d19_53 rfl rfl ht_))
  obtain ⟨T11, X11, e11, k11⟩ := o_getF X8 hx hZ k10 hown (host := "") (Or.inl (hw 132 rfl)) Via.refl e8 od9 d19_54
  have k12 := fun t_ ht_ => k11 t_ (o_ifYes X11 hx d19_57 ((if0 _ _).trans (flt (by decide)).2.2.2) 79 (o_goto X11 hx d19_79 100 (o_iloadN X11 hx d19_100 rfl ht_)))
  exact o_retI X11 hx k12 hlk hret d19_101 (by rw [e11]; exact ⟨rfl, N8, rfl⟩)
theorem ef_86 (m : MethodId) (x0 x1 : Addr) (x2 x3 : Int32) (x4 : Addr) : entryFrame m #[.ref x0, .ref x1, .int x2, .int x3, .ref x4] 16 = mkF m 0 #[Lr x0, Lr x1, Li x2, Li x3, Lr x4, Lu, Lu, Lu, Lu, Lu, Lu, Lu, Lu, Lu, Lu, Lu] [] := by first | (simp [entryFrame, mkF, argsToLocals, Value.category]; done) | rfl
def Q86 (Z : State) (eno ar ds dco iso utf tbd tbe : Addr) (kd ke : ClassId) (G1 : Int32) (fm : Value) (kb kc : ClassId) (B0 B1 B2 B3 B4 B5 v0 v1 v2 v3 v4 v5 v6 v7 r0 r1 r2 r3 r4 r5 r6 r7 y0 y1 y2 y3 y4 : Int32) (h0 : Heap) (n0 : Nat) (v : Option Value) (h : Heap) (L : List Loc) : Prop := v = some (.int (7 : Int32)) ∧ Fr n0 L ∧ Keep h0 h [ds] ∧ Arv Z h ds kc .byte (7 : Int32) [.int r0, .int r1, .int r2, .int r3, .int r4, .int r5, .int r6] (.int 0)
set_option maxRecDepth 65536 in
set_option maxHeartbeats 40000000 in
theorem rm86 (hw : own_W a0 Z) (eno ar ds dco iso utf tbd tbe : Addr) (kd ke : ClassId) (G1 : Int32) (fm : Value) (kb kc : ClassId) (B0 B1 B2 B3 B4 B5 v0 v1 v2 v3 v4 v5 v6 v7 r0 r1 r2 r3 r4 r5 r6 r7 y0 y1 y2 y3 y4 : Int32) (h0 : Heap) (n0 : Nat) (Z0 : n0 ≤ h0.size) (hG : own_G Z dco eno iso utf tbd tbe kd ke G1 fm) (X00 : Old Z n0 h0) (Va : Arv Z h0 ar kb .byte (5 : Int32) [.int y0, .int y1, .int y2, .int y3, .int y4] (.int 0)) (Vd : Arv Z h0 ds kc .byte (7 : Int32) [.int (0 : Int32), .int (0 : Int32), .int (0 : Int32), .int (0 : Int32), .int (0 : Int32), .int (0 : Int32), .int (0 : Int32)] (.int 0)) (hne : ar ≠ ds) (g_ds : n0 ≤ ds) (hD : own_D 5 B0 B1 B2 B3 B4 B5 v0 v1 v2 v3 v4 v5 v6 v7 r0 r1 r2 r3 r4 r5 r6 r7) (hs0 : own_SB y0 B0) (hs1 : own_SB y1 B1) (hs2 : own_SB y2 B2) (hs3 : own_SB y3 B3) (hs4 : own_SB y4 B4) :
    own_M l Z yy22 q22 16 (some .int) ⟨1, 0, 0, 22⟩ #[.ref eno, .ref ar, .int 0, .int 5, .ref ds] h0 [] (Q86 Z eno ar ds dco iso utf tbd tbe kd ke G1 fm kb kc B0 B1 B2 B3 B4 B5 v0 v1 v2 v3 v4 v5 v6 v7 r0 r1 r2 r3 r4 r5 r6 r7 y0 y1 y2 y3 y4 h0 n0) := by
  refine own_body (plainFor_of_name pn_3) ?_
  intro p e s m below meth c s₁ A hx hml hown hnm hlk hret hZ X0 e0 k0
  replace k0 := own_ent (ef_86 m eno ar 0 5 ds) k0
  have N0 := Fr.nil n0
  have KK : Keep h0 h0 [ds] := Keep.refl h0 [ds]
  obtain ⟨sD, sE, eD, eE, fDu, fDm, fEp, fEl, fEu, sI, sU, iu, sTd, sTe, aTd, aTe, sC, gC, sS, fmr⟩ := id hG
  obtain ⟨hq0, hq1, hc0, hc1, hc2, hc3, hc4, hc5, hc6, hc7, hz1, hz2, hz4, hz5⟩ := id hD
  have od1 := fEu.ext X00.2
  have k2 := fun t_ ht_ => k0 t_ (o_aloadN X0 hx d22_0 rfl rfl ht_)
  obtain ⟨T3, X3, e3, k3⟩ := o_getF X0 hx hZ k2 hown (host := "") (Or.inl (hw 139 rfl)) Via.refl e0 od1 d22_1
  have k4 := fun t_ ht_ => k3 t_ (o_ifNo X3 hx d22_4 ((if0 _ _).trans (feq (by decide)).1) ht_)
  obtain ⟨T5, X5, e5, k5⟩ := o_getS X3 hx hZ k4 hown (host := "") (Or.inl (hw 141 rfl)) Via.refl e3 (sTe.ext X00.2) d22_7
  have k6 := fun t_ ht_ => k5 t_ (o_goto X5 hx d22_10 16 (o_astore X5 hx d22_16 #[Lr eno, Lr ar, Li 0, Li 5, Lr ds, Lr tbe, Lu, Lu, Lu, Lu, Lu, Lu, Lu, Lu, Lu, Lu] rfl rfl (o_iloadN X5 hx d22_18 rfl (o_istore X5 hx d22_19 #[Lr eno, Lr ar, Li 0, Li 5, Lr ds, Lr tbe, Li 0, Lu, Lu, Lu, Lu, Lu, Lu, Lu, Lu, Lu] rfl (o_iloadN X5 hx d22_21 rfl (o_iloadN X5 hx d22_22 rfl (o_isub X5 hx d22_23 (rfl : _ = (5 : Int32)) (o_iconst X5 hx d22_24 3 rfl (o_idiv X5 hx d22_25 (by decide) ht_)))))))))
  rw [show ((5 : Int32) / (3 : Int32)) = (1 : Int32) from by decide] at k6
  have od7 := fEl.ext X00.2
  have k8 := fun t_ ht_ => k6 t_ (o_iconst X5 hx d22_26 3 rfl (o_imul X5 hx d22_27 (rfl : _ = (3 : Int32)) (o_istore X5 hx d22_28 #[Lr eno, Lr ar, Li 0, Li 5, Lr ds, Lr tbe, Li 0, Li 3, Lu, Lu, Lu, Lu, Lu, Lu, Lu, Lu] rfl (o_iloadN X5 hx d22_30 rfl (o_iload X5 hx d22_31 rfl (o_iadd X5 hx d22_33 (rfl : _ = (3 : Int32)) (o_istore X5 hx d22_34 #[Lr eno, Lr ar, Li 0, Li 5, Lr ds, Lr tbe, Li 0, Li 3, Li 3, Lu, Lu, Lu, Lu, Lu, Lu, Lu] rfl (o_aloadN X5 hx d22_36 rfl rfl ht_))))))))
  obtain ⟨T9, X9, e9, k9⟩ := o_getF X5 hx hZ k8 hown (host := "") (Or.inl (hw 132 rfl)) Via.refl e5 od7 d22_37
  have k10 := fun t_ ht_ => k9 t_ (o_ifYes X9 hx d22_40 ((if0 _ _).trans (flt (by decide)).2.2.2) 66 (o_iconst X9 hx d22_66 0 rfl (o_istore X9 hx d22_67 #[Lr eno, Lr ar, Li 0, Li 5, Lr ds, Lr tbe, Li 0, Li 3, Li 3, Li 0, Lu, Lu, Lu, Lu, Lu, Lu] rfl (o_iload X9 hx d22_69 rfl (o_iload X9 hx d22_71 rfl (o_icmpNo X9 hx d22_73 (tlt (by decide)).2.1 (o_iload X9 hx d22_76 rfl (o_iload X9 hx d22_78 rfl (o_iadd X9 hx d22_80 (rfl : _ = (3 : Int32)) (o_iload X9 hx d22_81 rfl ht_))))))))))
  obtain ⟨_, T11, Lc11, X11, hQ11, k11⟩ := o_callSM X9 hx hZ k10 yy26 hown (hw 173 rfl) (hw 174 rfl) (hw 127 rfl) (hw 175 rfl) (rm66 hw h0 n0 Z0) 0 [.int 3, .int 3] [] (lenOf pd_12 rfl) hml e9 d22_83
  obtain ⟨rfl, Nq11, e11⟩ := hQ11
  have N11 := Fr.app N0 Nq11
  replace k11 := own_pushR k11
  have k12 := fun t_ ht_ => k11 t_ (o_istore X11 hx d22_86 #[Lr eno, Lr ar, Li 0, Li 5, Lr ds, Lr tbe, Li 0, Li 3, Li 3, Li 0, Li 3, Lu, Lu, Lu, Lu, Lu] rfl (o_aloadN X11 hx d22_88 rfl rfl (o_aloadN X11 hx d22_89 rfl rfl (o_iload X11 hx d22_90 rfl (o_iload X11 hx d22_92 rfl (o_aload X11 hx d22_94 rfl rfl (o_iload X11 hx d22_96 rfl (o_aloadN X11 hx d22_98 rfl rfl ht_))))))))
  obtain ⟨T13, X13, e13, k13⟩ := o_getF X11 hx hZ k12 hown (host := "") (Or.inl (hw 139 rfl)) Via.refl e11 od1 d22_99
  have od14 := eE.ext X00.2
  obtain ⟨_, T15, Lc15, X15, hQ15, k15⟩ := o_privateM X13 hx hZ k13 yy8 hown (hw 176 rfl) (hw 177 rfl) (hw 179 rfl) (hw 178 rfl) (hw 180 rfl) (rm29 hw eno ar ds dco iso utf tbd tbe kd ke G1 fm kb kc B0 B1 B2 B3 B4 B5 v0 v1 v2 v3 v4 v5 v6 v7 r0 r1 r2 r3 r4 r5 r6 r7 y0 y1 y2 y3 y4 h0 n0 Z0 hG X00 Va Vd hne g_ds hD hs0 hs1 hs2 hs3 hs4) (hw 111 rfl) 0 od14 [.ref ar, .int 0, .int 3, .ref ds, .int 0, .int 1] [] (lenOf pd_18 rfl) hml e13 d22_102
  obtain ⟨rfl, Nq15, Kb, Vb⟩ := hQ15
  have N15 := Fr.app N11 Nq15
  replace k15 := own_pushV k15
  replace X00 := X00.keep Kb (by simpa using g_ds)
  replace Va := Va.keep Kb (by simpa using hne)
  have Zs15 := Nat.le_trans Z0 Kb.1
  replace KK := KK.trans Kb (fun x q => Or.inl q)
  have k16 := fun t_ ht_ => k15 t_ (o_iload X15 hx d22_105 rfl (o_iload X15 hx d22_107 rfl (o_isub X15 hx d22_109 (rfl : _ = (3 : Int32)) (o_iconst X15 hx d22_110 3 rfl (o_idiv X15 hx d22_111 (by decide) ht_)))))
  rw [show ((3 : Int32) / (3 : Int32)) = (1 : Int32) from by decide] at k16
  have od17 := fEl.ext X00.2
  have k18 := fun t_ ht_ => k16 t_ (o_iconst X15 hx d22_112 4 rfl (o_imul X15 hx d22_113 (rfl : _ = (4 : Int32)) (o_istore X15 hx d22_114 #[Lr eno, Lr ar, Li 0, Li 5, Lr ds, Lr tbe, Li 0, Li 3, Li 3, Li 0, Li 3, Li 4, Lu, Lu, Lu, Lu] rfl (o_iload X15 hx d22_116 rfl (o_iload X15 hx d22_118 rfl (o_iadd X15 hx d22_120 (rfl : _ = (4 : Int32)) (o_istore X15 hx d22_121 #[Lr eno, Lr ar, Li 0, Li 5, Lr ds, Lr tbe, Li 0, Li 3, Li 3, Li 4, Li 3, Li 4, Lu, Lu, Lu, Lu] rfl (o_iload X15 hx d22_123 rfl (o_istore X15 hx d22_125 #[Lr eno, Lr ar, Li 0, Li 5, Lr ds, Lr tbe, Li 3, Li 3, Li 3, Li 4, Li 3, Li 4, Lu, Lu, Lu, Lu] rfl (o_iload X15 hx d22_127 rfl (o_aloadN X15 hx d22_129 rfl rfl ht_)))))))))))
  obtain ⟨T19, X19, e19, k19⟩ := o_getF X15 hx hZ k18 hown (host := "") (Or.inl (hw 132 rfl)) Via.refl rfl od17 d22_130
  have k20 := fun t_ ht_ => k19 t_ (o_icmpYes X19 hx d22_133 (feq (by decide)).2 186 (o_goto X19 hx d22_186 69 (o_iload X19 hx d22_69 rfl (o_iload X19 hx d22_71 rfl (o_icmpYes X19 hx d22_73 (flt (by decide)).2.1 189 (o_iload X19 hx d22_189 rfl (o_iloadN X19 hx d22_191 rfl (o_icmpNo X19 hx d22_192 (tlt (by decide)).2.1 (o_aloadN X19 hx d22_195 rfl rfl (o_iload X19 hx d22_196 rfl (o_iinc X19 hx d22_198 #[Lr eno, Lr ar, Li 0, Li 5, Lr ds, Lr tbe, Li 4, Li 3, Li 3, Li 4, Li 3, Li 4, Lu, Lu, Lu, Lu] rfl rfl (o_ldB X19 hx hZ d22_201 e19 Va ⟨by decide, by decide⟩ (rfl : _ = Value.int y3) (o_sipush X19 hx d22_202 255 rfl (o_iand X19 hx d22_205 rfl ht_))))))))))))))
  rw [own_sb255 hs3] at k20
  have k21 := fun t_ ht_ => k20 t_ (o_istore X19 hx d22_206 #[Lr eno, Lr ar, Li 0, Li 5, Lr ds, Lr tbe, Li 4, Li 3, Li 3, Li 4, Li B3, Li 4, Lu, Lu, Lu, Lu] rfl (o_aload X19 hx d22_208 rfl rfl (o_iload X19 hx d22_210 rfl (o_iinc X19 hx d22_212 #[Lr eno, Lr ar, Li 0, Li 5, Lr ds, Lr tbe, Li 4, Li 3, Li 3, Li 5, Li B3, Li 4, Lu, Lu, Lu, Lu] rfl rfl (o_aload X19 hx d22_215 rfl rfl (o_iload X19 hx d22_217 rfl (o_iconst X19 hx d22_219 2 rfl (o_ishr X19 hx d22_220 ht_))))))))
  obtain ⟨qx4_221, hqx4_221⟩ : ∃ z : Int32, z = (B3 >>> ((2 : Int32) &&& 31)) := ⟨_, rfl⟩
  rw [← hqx4_221] at k21
  have od22 := aTe.ext X00.2
  have k23 := fun t_ ht_ => k21 t_ (o_ldC X19 hx hZ d22_221 e19 od22 (own_i64 hc4 (own_t0 hq1 hqx4_221)) (own_tabE_at hc4 (own_t0 hq1 hqx4_221)) (o_i2b X19 hx d22_222 ht_))
  obtain ⟨T24, h24, X24, e24, W24, Vb, k24⟩ := o_stB X19 hx hZ k23 e19 Vb 4 [.int r0, .int r1, .int r2, .int r3, .int (nar .byte (r4.toInt8.toInt32)), .int 0, .int 0] d22_223
  replace X00 := X00.wr W24 g_ds
  replace Va := Va.other W24 hne
  have Zs24 := Nat.le_trans Zs15 (Keep.of_wr W24).1
  replace KK := KK.wr W24 (Or.inl (by simp))
  have N24 := Fr.snoc X24 N15 g_ds
  rw [own_rnb hc4] at Vb
  have k25 := fun t_ ht_ => k24 t_ (o_iload X24 hx d22_224 rfl (o_iloadN X24 hx d22_226 rfl (o_icmpYes X24 hx d22_227 (feq (by decide)).2 279 (o_aloadN X24 hx d22_279 rfl rfl (o_iload X24 hx d22_280 rfl (o_iinc X24 hx d22_282 #[Lr eno, Lr ar, Li 0, Li 5, Lr ds, Lr tbe, Li 5, Li 3, Li 3, Li 5, Li B3, Li 4, Lu, Lu, Lu, Lu] rfl rfl (o_ldB X24 hx hZ d22_285 e24 Va ⟨by decide, by decide⟩ (rfl : _ = Value.int y4) (o_sipush X24 hx d22_286 255 rfl (o_iand X24 hx d22_289 rfl ht_)))))))))
  rw [own_sb255 hs4] at k25
  have k26 := fun t_ ht_ => k25 t_ (o_istore X24 hx d22_290 #[Lr eno, Lr ar, Li 0, Li 5, Lr ds, Lr tbe, Li 5, Li 3, Li 3, Li 5, Li B3, Li B4, Lu, Lu, Lu, Lu] rfl (o_aload X24 hx d22_292 rfl rfl (o_iload X24 hx d22_294 rfl (o_iinc X24 hx d22_296 #[Lr eno, Lr ar, Li 0, Li 5, Lr ds, Lr tbe, Li 5, Li 3, Li 3, Li 6, Li B3, Li B4, Lu, Lu, Lu, Lu] rfl rfl (o_aload X24 hx d22_299 rfl rfl (o_iload X24 hx d22_301 rfl (o_iconst X24 hx d22_303 4 rfl (o_ishl X24 hx d22_304 (o_bipush X24 hx d22_305 63 rfl (o_iand X24 hx d22_307 rfl (o_iload X24 hx d22_308 rfl (o_iconst X24 hx d22_310 4 rfl (o_ishr X24 hx d22_311 (o_ior X24 hx d22_312 rfl ht_))))))))))))))
  obtain ⟨qx5_313, hqx5_313⟩ : ∃ z : Int32, z = (((B3 <<< ((4 : Int32) &&& 31)) &&& (63 : Int32)) ||| (B4 >>> ((4 : Int32) &&& 31))) := ⟨_, rfl⟩
  rw [← hqx5_313] at k26
  have od27 := aTe.ext X00.2
  have k28 := fun t_ ht_ => k26 t_ (o_ldC X24 hx hZ d22_313 e24 od27 (own_i64 hc5 (own_t1' hq1 hqx5_313)) (own_tabE_at hc5 (own_t1' hq1 hqx5_313)) (o_i2b X24 hx d22_314 ht_))
  obtain ⟨T29, h29, X29, e29, W29, Vb, k29⟩ := o_stB X24 hx hZ k28 e24 Vb 5 [.int r0, .int r1, .int r2, .int r3, .int r4, .int (nar .byte (r5.toInt8.toInt32)), .int 0] d22_315
  replace X00 := X00.wr W29 g_ds
  replace Va := Va.other W29 hne
  have Zs29 := Nat.le_trans Zs24 (Keep.of_wr W29).1
  replace KK := KK.wr W29 (Or.inl (by simp))
  have N29 := Fr.snoc X29 N24 g_ds
  rw [own_rnb hc5] at Vb
  have k30 := fun t_ ht_ => k29 t_ (o_aload X29 hx d22_316 rfl rfl (o_iload X29 hx d22_318 rfl (o_iinc X29 hx d22_320 #[Lr eno, Lr ar, Li 0, Li 5, Lr ds, Lr tbe, Li 5, Li 3, Li 3, Li 7, Li B3, Li B4, Lu, Lu, Lu, Lu] rfl rfl (o_aload X29 hx d22_323 rfl rfl (o_iload X29 hx d22_325 rfl (o_iconst X29 hx d22_327 2 rfl (o_ishl X29 hx d22_328 (o_bipush X29 hx d22_329 63 rfl (o_iand X29 hx d22_331 rfl ht_)))))))))
  obtain ⟨qx6_332, hqx6_332⟩ : ∃ z : Int32, z = ((B4 <<< ((2 : Int32) &&& 31)) &&& (63 : Int32)) := ⟨_, rfl⟩
  rw [← hqx6_332] at k30
  have od31 := aTe.ext X00.2
  have k32 := fun t_ ht_ => k30 t_ (o_ldC X29 hx hZ d22_332 e29 od31 (own_i64 hc6 (own_t2 hq1 (hz5 (by decide)) hqx6_332)) (own_tabE_at hc6 (own_t2 hq1 (hz5 (by decide)) hqx6_332)) (o_i2b X29 hx d22_333 ht_))
  obtain ⟨T33, h33, X33, e33, W33, Vb, k33⟩ := o_stB X29 hx hZ k32 e29 Vb 6 [.int r0, .int r1, .int r2, .int r3, .int r4, .int r5, .int (nar .byte (r6.toInt8.toInt32))] d22_334
  replace X00 := X00.wr W33 g_ds
  replace Va := Va.other W33 hne
  have Zs33 := Nat.le_trans Zs29 (Keep.of_wr W33).1
  replace KK := KK.wr W33 (Or.inl (by simp))
  have N33 := Fr.snoc X33 N29 g_ds
  rw [own_rnb hc6] at Vb
  have od34 := fEp.ext X00.2
  have k35 := fun t_ ht_ => k33 t_ (o_aloadN X33 hx d22_335 rfl rfl ht_)
  obtain ⟨T36, X36, e36, k36⟩ := o_getF X33 hx hZ k35 hown (host := "") (Or.inl (hw 123 rfl)) Via.refl e33 od34 d22_336
  have k37 := fun t_ ht_ => k36 t_ (o_ifYes X36 hx d22_339 ((if0 _ _).trans (teq (by decide)).1) 352 (o_iload X36 hx d22_352 rfl ht_))
  exact o_retI X36 hx k37 hlk hret d22_354 (by rw [e36]; exact ⟨rfl, N33, KK, Vb⟩)
theorem ef_87 (m : MethodId) (x0 x1 : Addr) : entryFrame m #[.ref x0, .ref x1] 5 = mkF m 0 #[Lr x0, Lr x1, Lu, Lu, Lu] [] := by first | (simp [entryFrame, mkF, argsToLocals, Value.category]; done) | rfl
def Q87 (Z : State) (eno ar dco iso utf tbd tbe : Addr) (kd ke : ClassId) (G1 : Int32) (fm : Value) (kb : ClassId) (B0 B1 B2 B3 B4 B5 v0 v1 v2 v3 v4 v5 v6 v7 r0 r1 r2 r3 r4 r5 r6 r7 y0 y1 y2 y3 y4 : Int32) (h0 : Heap) (n0 : Nat) (v : Option Value) (h : Heap) (L : List Loc) : Prop := ∃ (ds : Addr) (kc : ClassId), v = some (.ref ds) ∧ Fr n0 L ∧ Keep h0 h [] ∧ Arv Z h ds kc .byte (7 : Int32) [.int r0, .int r1, .int r2, .int r3, .int r4, .int r5, .int r6] (.int 0) ∧ Exa Z h ds "[B" ∧ h0.size ≤ ds
set_option maxRecDepth 65536 in
set_option maxHeartbeats 40000000 in
theorem rm87 (hw : own_W a0 Z) (eno ar dco iso utf tbd tbe : Addr) (kd ke : ClassId) (G1 : Int32) (fm : Value) (kb : ClassId) (B0 B1 B2 B3 B4 B5 v0 v1 v2 v3 v4 v5 v6 v7 r0 r1 r2 r3 r4 r5 r6 r7 y0 y1 y2 y3 y4 : Int32) (h0 : Heap) (n0 : Nat) (Z0 : n0 ≤ h0.size) (hG : own_G Z dco eno iso utf tbd tbe kd ke G1 fm) (X00 : Old Z n0 h0) (Va : Arv Z h0 ar kb .byte (5 : Int32) [.int y0, .int y1, .int y2, .int y3, .int y4] (.int 0)) (hD : own_D 5 B0 B1 B2 B3 B4 B5 v0 v1 v2 v3 v4 v5 v6 v7 r0 r1 r2 r3 r4 r5 r6 r7) (hs0 : own_SB y0 B0) (hs1 : own_SB y1 B1) (hs2 : own_SB y2 B2) (hs3 : own_SB y3 B3) (hs4 : own_SB y4 B4) :
    own_M l Z yy23 q23 5 (some (.array .byte)) ⟨2, 1, 7, 49⟩ #[.ref eno, .ref ar] h0 [] (Q87 Z eno ar dco iso utf tbd tbe kd ke G1 fm kb B0 B1 B2 B3 B4 B5 v0 v1 v2 v3 v4 v5 v6 v7 r0 r1 r2 r3 r4 r5 r6 r7 y0 y1 y2 y3 y4 h0 n0) := by
  refine own_body (plainFor_of_name pn_3) ?_
  intro p e s m below meth c s₁ A hx hml hown hnm hlk hret hZ X0 e0 k0
  replace k0 := own_ent (ef_87 m eno ar) k0
  have N0 := Fr.nil n0
  have KK : Keep h0 h0 [] := Keep.refl h0 []
  obtain ⟨sD, sE, eD, eE, fDu, fDm, fEp, fEl, fEu, sI, sU, iu, sTd, sTe, aTd, aTe, sC, gC, sS, fmr⟩ := id hG
  obtain ⟨hq0, hq1, hc0, hc1, hc2, hc3, hc4, hc5, hc6, hc7, hz1, hz2, hz4, hz5⟩ := id hD
  have od1 := eE.ext X00.2
  have k2 := fun t_ ht_ => k0 t_ (o_aloadN X0 hx d23_0 rfl rfl (o_aloadN X0 hx d23_1 rfl rfl (o_len X0 hx hZ d23_2 e0 Va (o_iconst X0 hx d23_3 1 rfl ht_))))
  obtain ⟨_, T3, Lc3, X3, hQ3, k3⟩ := o_privateH X0 hx hZ k2 yy21 hown (hw 118 rfl) (hw 119 rfl) (hw 121 rfl) (hw 120 rfl) (hw 122 rfl) (backOfWith (W := 0) (rm84 hw eno dco iso utf tbd tbe kd ke G1 fm h0 n0 Z0 hG X00) hZ (hw 122 rfl) (hw 111 rfl) (by decide) (by decide)) od1 [.int 5, .int 1] [] (lenOf pd_13 rfl) hml e0 d23_4
  obtain ⟨rfl, Nq3, e3⟩ := hQ3
  have N3 := Fr.app N0 Nq3
  replace k3 := own_pushR k3
  have k4 := fun t_ ht_ => k3 t_ (o_istoreN X3 hx d23_7 #[Lr eno, Lr ar, Li 7, Lu, Lu] rfl (o_iloadN X3 hx d23_8 rfl ht_))
  obtain ⟨T5, h5, c5, X5, e5, E5, Ax5, Bx5, k5⟩ := o_newP X3 hx hZ k4 (hw 27 rfl) e3 (by decide) 7 (by decide) "[B" d23_9
  obtain ⟨b5, g5⟩ : ∃ z, z = h0.size := ⟨_, rfl⟩
  rw [← g5] at Ax5 Bx5 k5
  have ne_ar_b5 : ar ≠ b5 := Nat.ne_of_lt (Nat.lt_of_lt_of_le Va.lt (Nat.le_of_eq g5.symm))
  have g_b5 : n0 ≤ b5 := Nat.le_trans Z0 (Nat.le_of_eq g5.symm)
  have sz_b5 : h0.size ≤ b5 := Nat.le_trans KK.1 (Nat.le_of_eq g5.symm)
  replace X00 : Old Z n0 h5 := ⟨X00.1, Nat.le_trans X00.2.1 E5.1, fun x c r => E5.2 x c (X00.2.2 x c r)⟩
  replace Va := Va.ext E5
  have Zs5 := Nat.le_trans Z0 E5.1
  replace KK := KK.ext E5
  have Ex_b5 := Bx5
  have V_b5 : Arv Z h5 b5 c5 .byte 7 [.int 0, .int 0, .int 0, .int 0, .int 0, .int 0, .int 0] (.int 0) := (Arv.new Ax5 (by decide)).pad (pad_rep [] (.int 0) 7)
  have od6 := eE.ext X00.2
  have k7 := fun t_ ht_ => k5 t_ (o_astoreN X5 hx d23_11 #[Lr eno, Lr ar, Li 7, Lr b5, Lu] rfl rfl (o_aloadN X5 hx d23_12 rfl rfl (o_aloadN X5 hx d23_13 rfl rfl (o_iconst X5 hx d23_14 0 rfl (o_aloadN X5 hx d23_15 rfl rfl (o_len X5 hx hZ d23_16 e5 Va (o_aloadN X5 hx d23_17 rfl rfl ht_)))))))
  obtain ⟨_, T8, Lc8, X8, hQ8, k8⟩ := o_privateM X5 hx hZ k7 yy22 hown (hw 134 rfl) (hw 135 rfl) (hw 137 rfl) (hw 136 rfl) (hw 138 rfl) (rm86 hw eno ar b5 dco iso utf tbd tbe kd ke G1 fm kb c5 B0 B1 B2 B3 B4 B5 v0 v1 v2 v3 v4 v5 v6 v7 r0 r1 r2 r3 r4 r5 r6 r7 y0 y1 y2 y3 y4 h5 n0 Zs5 hG X00 Va V_b5 ne_ar_b5 g_b5 hD hs0 hs1 hs2 hs3 hs4) (hw 111 rfl) 0 od6 [.ref ar, .int 0, .int 5, .ref b5] [] (lenOf pd_9 rfl) hml e5 d23_18
  obtain ⟨rfl, Nq8, K1, V1⟩ := hQ8
  have N8 := Fr.app N3 Nq8
  replace k8 := own_pushR k8
  replace X00 := X00.keep K1 (by simpa using g_b5)
  replace Va := Va.keep K1 (by simpa using ne_ar_b5)
  replace Ex_b5 := Ex_b5.keep K1
  have Zs8 := Nat.le_trans Zs5 K1.1
  replace KK := KK.trans K1 (fun x q => by cases List.mem_singleton.mp q; exact Or.inr sz_b5)
  have k9 := fun t_ ht_ => k8 t_ (o_istore X8 hx d23_21 #[Lr eno, Lr ar, Li 7, Lr b5, Li 7] rfl (o_iload X8 hx d23_23 rfl (o_aloadN X8 hx d23_25 rfl rfl (o_len X8 hx hZ d23_26 rfl V1 (o_icmpYes X8 hx d23_27 (teq (by decide)).1 37 (o_aloadN X8 hx d23_37 rfl rfl ht_))))))
  exact o_retA X8 hx k9 hlk hret rfl d23_38 (by exact ⟨b5, c5, rfl, N8, KK, V1, Ex_b5, sz_b5⟩)
theorem ef_88 (m : MethodId) (x0 x1 : Addr) : entryFrame m #[.ref x0, .ref x1] 3 = mkF m 0 #[Lr x0, Lr x1, Lu] [] := by first | (simp [entryFrame, mkF, argsToLocals, Value.category]; done) | rfl
def Q88 (Z : State) (eno ar dco iso utf tbd tbe : Addr) (kd ke : ClassId) (G1 : Int32) (fm : Value) (kb : ClassId) (B0 B1 B2 B3 B4 B5 v0 v1 v2 v3 v4 v5 v6 v7 r0 r1 r2 r3 r4 r5 r6 r7 y0 y1 y2 y3 y4 : Int32) (h0 : Heap) (n0 : Nat) (v : Option Value) (h : Heap) (L : List Loc) : Prop := ∃ (so cr : Addr) (kc : ClassId), v = some (.ref so) ∧ Fr n0 L ∧ Keep h0 h [] ∧ Exa Z h so "java/lang/String" ∧ Fld Z h so "java/lang/String" "coder" "B" (.int 0) ∧ Fld Z h so "java/lang/String" "value" "[B" (.ref cr) ∧ Arv Z h cr kc .byte (7 : Int32) [.int r0, .int r1, .int r2, .int r3, .int r4, .int r5, .int r6] (.int 0) ∧ h0.size ≤ so
set_option maxRecDepth 65536 in
set_option maxHeartbeats 40000000 in
theorem rm88 (hw : own_W a0 Z) (eno ar dco iso utf tbd tbe : Addr) (kd ke : ClassId) (G1 : Int32) (fm : Value) (kb : ClassId) (B0 B1 B2 B3 B4 B5 v0 v1 v2 v3 v4 v5 v6 v7 r0 r1 r2 r3 r4 r5 r6 r7 y0 y1 y2 y3 y4 : Int32) (h0 : Heap) (n0 : Nat) (Z0 : n0 ≤ h0.size) (hG : own_G Z dco eno iso utf tbd tbe kd ke G1 fm) (X00 : Old Z n0 h0) (Va : Arv Z h0 ar kb .byte (5 : Int32) [.int y0, .int y1, .int y2, .int y3, .int y4] (.int 0)) (hD : own_D 5 B0 B1 B2 B3 B4 B5 v0 v1 v2 v3 v4 v5 v6 v7 r0 r1 r2 r3 r4 r5 r6 r7) (hs0 : own_SB y0 B0) (hs1 : own_SB y1 B1) (hs2 : own_SB y2 B2) (hs3 : own_SB y3 B3) (hs4 : own_SB y4 B4) :
    own_M l Z yy24 q24 3 (some (.object "java/lang/String")) ⟨3, 3, 19, 65⟩ #[.ref eno, .ref ar] h0 [] (Q88 Z eno ar dco iso utf tbd tbe kd ke G1 fm kb B0 B1 B2 B3 B4 B5 v0 v1 v2 v3 v4 v5 v6 v7 r0 r1 r2 r3 r4 r5 r6 r7 y0 y1 y2 y3 y4 h0 n0) := by
  refine own_body (plainFor_of_name pn_3) ?_
  intro p e s m below meth c s₁ A hx hml hown hnm hlk hret hZ X0 e0 k0
  replace k0 := own_ent (ef_88 m eno ar) k0
  have N0 := Fr.nil n0
  have KK : Keep h0 h0 [] := Keep.refl h0 []
  obtain ⟨sD, sE, eD, eE, fDu, fDm, fEp, fEl, fEu, sI, sU, iu, sTd, sTe, aTd, aTe, sC, gC, sS, fmr⟩ := id hG
  obtain ⟨hq0, hq1, hc0, hc1, hc2, hc3, hc4, hc5, hc6, hc7, hz1, hz2, hz4, hz5⟩ := id hD
  have od1 := eE.ext X00.2
  have k2 := fun t_ ht_ => k0 t_ (o_aloadN X0 hx d24_0 rfl rfl (o_aloadN X0 hx d24_1 rfl rfl ht_))
  obtain ⟨_, T3, Lc3, X3, hQ3, k3⟩ := o_virtualM X0 hx hZ k2 yy23 hown (hw 113 rfl) yy23 (hw 114 rfl) (hw 116 rfl) (hw 115 rfl) rfl (rm87 hw eno ar dco iso utf tbd tbe kd ke G1 fm kb B0 B1 B2 B3 B4 B5 v0 v1 v2 v3 v4 v5 v6 v7 r0 r1 r2 r3 r4 r5 r6 r7 y0 y1 y2 y3 y4 h0 n0 Z0 hG X00 Va hD hs0 hs1 hs2 hs3 hs4) (hw 117 rfl) (hw 111 rfl) 0 od1 [.ref ar] [] (lenOf pd_11 rfl) hml e0 d24_2
  obtain ⟨ds, kc, rfl, Nq3, K1, V1, E1, G1_⟩ := hQ3
  have N3 := Fr.app N0 Nq3
  replace k3 := own_pushR k3
  replace X00 := X00.keep K1 (by simp)
  replace Va := Va.keep K1 (by simp)
  have Zs3 := Nat.le_trans Z0 K1.1
  replace KK := KK.trans K1 (fun x q => nomatch q)
  have k4 := fun t_ ht_ => k3 t_ (o_astoreN X3 hx d24_5 #[Lr eno, Lr ar, Lr ds] rfl rfl ht_)
  obtain ⟨T5, h5, X5, e5, E5, A5, D5, k5⟩ := o_newO X3 hx hZ k4 hown (hw 142 rfl) (hw 10 rfl) (hw 11 rfl) rfl d24_6
  obtain ⟨b5, g5⟩ : ∃ z, z = T3.heap.size := ⟨_, rfl⟩
  rw [← g5] at A5 D5 k5
  have ne_ar_b5 : ar ≠ b5 := Nat.ne_of_lt (Nat.lt_of_lt_of_le Va.lt (Nat.le_of_eq g5.symm))
  have ne_ds_b5 : ds ≠ b5 := Nat.ne_of_lt (Nat.lt_of_lt_of_le V1.lt (Nat.le_of_eq g5.symm))
  have g_b5 : n0 ≤ b5 := Nat.le_trans Zs3 (Nat.le_of_eq g5.symm)
  have sz_b5 : h0.size ≤ b5 := Nat.le_trans KK.1 (Nat.le_of_eq g5.symm)
  replace X00 : Old Z n0 h5 := ⟨X00.1, Nat.le_trans X00.2.1 E5.1, fun x c r => E5.2 x c (X00.2.2 x c r)⟩
  replace Va := Va.ext E5
  replace V1 := V1.ext E5
  replace E1 := E1.ext E5
  have Zs5 := Nat.le_trans Zs3 E5.1
  replace KK := KK.ext E5
  have Ex_b5 := A5
  have F_coder_b5 : Fld Z h5 b5 "java/lang/String" "coder" "B" (.int 0) := D5 (Or.inr (hw 35 rfl)) (ty := .byte) (by decide)
  have F_value_b5 : Fld Z h5 b5 "java/lang/String" "value" "[B" (.null) := D5 (Or.inr (hw 37 rfl)) (ty := (.array .byte)) (by decide)
  have k6 := fun t_ ht_ => k5 t_ (o_dup X5 hx d24_9 rfl (o_aloadN X5 hx d24_10 rfl rfl (o_iconst X5 hx d24_11 0 rfl (o_iconst X5 hx d24_12 0 rfl (o_aloadN X5 hx d24_13 rfl rfl (o_len X5 hx hZ d24_14 e5 V1 ht_))))))
  obtain ⟨_, T7, Lc7, X7, hQ7, k7⟩ := o_specialM X5 hx hZ k6 yy12 rfl hown (hw 143 rfl) (hw 144 rfl) (hw 145 rfl) (rm34 hw b5 ds (7 : Int32) dco eno iso utf tbd tbe kd ke G1 fm kc _ h5 n0 Zs5 hG X00 Ex_b5 F_value_b5 F_coder_b5 V1 E1 (Ne.symm ne_ds_b5) g_b5 own_ln7) (hw 11 rfl) 1 b5 [.ref ds, .int 0, .int 0, .int 7] [.ref b5] (lenOf pd_14 rfl) hml e5 d24_15
  obtain ⟨cr, rfl, Nq7, K2, E2, Fc, Fv, V2, E3, G2⟩ := hQ7
  have N7 := Fr.app N3 Nq7
  replace k7 := own_pushV k7
  have sz_cr : h0.size ≤ cr := Nat.le_trans KK.1 G2
  replace X00 := X00.keep K2 (by simpa using g_b5)
  replace Va := Va.keep K2 (by simpa using ne_ar_b5)
  replace V1 := V1.keep K2 (by simpa using ne_ds_b5)
  replace E1 := E1.keep K2
  replace Ex_b5 := Ex_b5.keep K2
  have Zs7 := Nat.le_trans Zs5 K2.1
  replace KK := KK.trans K2 (fun x q => by cases List.mem_singleton.mp q; exact Or.inr sz_b5)
  exact o_retA X7 hx k7 hlk hret rfl d24_18 (by exact ⟨b5, cr, kc, rfl, N7, KK, E2, Fc, Fv, V2, sz_b5⟩)
theorem ef_89 (m : MethodId) (x0 : Addr) : entryFrame m #[.ref x0] 2 = mkF m 0 #[Lr x0, Lu] [] := by first | (simp [entryFrame, mkF, argsToLocals, Value.category]; done) | rfl
def Q89 (Z : State) (a1 dco eno iso utf tbd tbe : Addr) (kd ke : ClassId) (G1 : Int32) (fm : Value) (ar : Addr) (kb : ClassId) (B0 B1 B2 B3 B4 B5 v0 v1 v2 v3 v4 v5 v6 v7 r0 r1 r2 r3 r4 r5 r6 r7 : Int32) (h0 : Heap) (n0 : Nat) (v : Option Value) (h : Heap) (L : List Loc) : Prop := ∃ (ds : Addr) (kc : ClassId) (y0 y1 y2 y3 y4 : Int32), v = some (.ref ds) ∧ Fr n0 L ∧ Keep h0 h [] ∧ Arv Z h ds kc .byte (5 : Int32) [.int y0, .int y1, .int y2, .int y3, .int y4] (.int 0) ∧ h0.size ≤ ds ∧ own_SB y0 B0 ∧ own_SB y1 B1 ∧ own_SB y2 B2 ∧ own_SB y3 B3 ∧ own_SB y4 B4
set_option maxRecDepth 65536 in
set_option maxHeartbeats 40000000 in
theorem rm89 (hw : own_W a0 Z) (a1 dco eno iso utf tbd tbe : Addr) (kd ke : ClassId) (G1 : Int32) (fm : Value) (ar : Addr) (kb : ClassId) (B0 B1 B2 B3 B4 B5 v0 v1 v2 v3 v4 v5 v6 v7 r0 r1 r2 r3 r4 r5 r6 r7 : Int32) (h0 : Heap) (n0 : Nat) (Z0 : n0 ≤ h0.size) (hG : own_G Z dco eno iso utf tbd tbe kd ke G1 fm) (X00 : Old Z n0 h0) (Es : Exa Z h0 a1 "java/lang/String") (Fc : Fld Z h0 a1 "java/lang/String" "coder" "B" (.int 0)) (Fv : Fld Z h0 a1 "java/lang/String" "value" "[B" (.ref ar)) (Va : Arv Z h0 ar kb .byte (7 : Int32) [.int r0, .int r1, .int r2, .int r3, .int r4, .int r5, .int r6] (.int 0)) (Ea : Exa Z h0 ar "[B") (hD : own_D 5 B0 B1 B2 B3 B4 B5 v0 v1 v2 v3 v4 v5 v6 v7 r0 r1 r2 r3 r4 r5 r6 r7) :
    own_M l Z yy25 q25 2 (some (.array .byte)) ⟨6, 5, 32, 89⟩ #[.ref a1] h0 [] (Q89 Z a1 dco eno iso utf tbd tbe kd ke G1 fm ar kb B0 B1 B2 B3 B4 B5 v0 v1 v2 v3 v4 v5 v6 v7 r0 r1 r2 r3 r4 r5 r6 r7 h0 n0) := by
  refine own_body (plainFor_of_name pn_7) ?_
  intro p e s m below meth c s₁ A hx hml hown hnm hlk hret hZ X0 e0 k0
  replace k0 := own_ent (ef_89 m a1) k0
  have N0 := Fr.nil n0
  have KK : Keep h0 h0 [] := Keep.refl h0 []
  obtain ⟨sD, sE, eD, eE, fDu, fDm, fEp, fEl, fEu, sI, sU, iu, sTd, sTe, aTd, aTe, sC, gC, sS, fmr⟩ := id hG
  obtain ⟨hq0, hq1, hc0, hc1, hc2, hc3, hc4, hc5, hc6, hc7, hz1, hz2, hz4, hz5⟩ := id hD
  obtain ⟨T1, X1, e1, k1⟩ := o_getS X0 hx hZ k0 hown (host := "") (Or.inl (hw 42 rfl)) Via.refl e0 (sD.ext X00.2) d25_0
  have od2 := eD.ext X00.2
  have k3 := fun t_ ht_ => k1 t_ (o_aloadN X1 hx d25_3 rfl rfl ht_)
  obtain ⟨_, T4, Lc4, X4, hQ4, k4⟩ := o_virtualM X1 hx hZ k3 yy18 hown (hw 44 rfl) yy18 (hw 45 rfl) (hw 47 rfl) (hw 46 rfl) rfl (rm83 hw dco a1 eno iso utf tbd tbe kd ke G1 fm ar kb B0 B1 B2 B3 B4 B5 v0 v1 v2 v3 v4 v5 v6 v7 r0 r1 r2 r3 r4 r5 r6 r7 h0 n0 Z0 hG X00 Es Fc Fv Va Ea hD) (hw 49 rfl) (hw 48 rfl) 0 od2 [.ref a1] [] (lenOf pd_15 rfl) hml e1 d25_4
  obtain ⟨ds, kc, yo0, yo1, yo2, yo3, yo4, rfl, Nq4, K1, V1, G1_, g_ds, sb0, sb1, sb2, sb3, sb4⟩ := hQ4
  have N4 := Fr.app N0 Nq4
  replace k4 := own_pushR k4
  have sz_ds : h0.size ≤ ds := Nat.le_trans KK.1 G1_
  replace X00 := X00.keep K1 (by simp)
  replace Es := Es.keep K1
  replace Fc := Fc.keep K1 (by simp)
  replace Fv := Fv.keep K1 (by simp)
  replace Va := Va.keep K1 (by simp)
  replace Ea := Ea.keep K1
  have Zs4 := Nat.le_trans Z0 K1.1
  replace KK := KK.trans K1 (fun x q => nomatch q)
  have k5 := fun t_ ht_ => k4 t_ (o_astoreN X4 hx d25_7 #[Lr a1, Lr ds] rfl rfl ht_)
  obtain ⟨T6, X6, e6, k6⟩ := o_getS X4 hx hZ k5 hown (host := "") (Or.inl (hw 105 rfl)) Via.refl rfl (sE.ext X00.2) d25_8
  have od7 := eE.ext X00.2
  have k8 := fun t_ ht_ => k6 t_ (o_aloadN X6 hx d25_11 rfl rfl ht_)
  obtain ⟨_, T9, Lc9, X9, hQ9, k9⟩ := o_virtualM X6 hx hZ k8 yy24 hown (hw 107 rfl) yy24 (hw 108 rfl) (hw 110 rfl) (hw 109 rfl) rfl (rm88 hw eno ds dco iso utf tbd tbe kd ke G1 fm kc B0 B1 B2 B3 B4 B5 v0 v1 v2 v3 v4 v5 v6 v7 r0 r1 r2 r3 r4 r5 r6 r7 yo0 yo1 yo2 yo3 yo4 T4.heap n0 Zs4 hG X00 V1 hD sb0 sb1 sb2 sb3 sb4) (hw 112 rfl) (hw 111 rfl) 0 od7 [.ref ds] [] (lenOf pd_16 rfl) hml e6 d25_12
  obtain ⟨so, cr, kc2, rfl, Nq9, K2, E2, Fc2, Fv2, V2, G2⟩ := hQ9
  have N9 := Fr.app N4 Nq9
  replace k9 := own_pushR k9
  have ne_so : so ≠ a1 := Ne.symm (Nat.ne_of_lt (Nat.lt_of_lt_of_le Es.lt G2))
  replace X00 := X00.keep K2 (by simp)
  replace Es := Es.keep K2
  replace Fc := Fc.keep K2 (by simp)
  replace Fv := Fv.keep K2 (by simp)
  replace Va := Va.keep K2 (by simp)
  replace Ea := Ea.keep K2
  replace V1 := V1.keep K2 (by simp)
  have Zs9 := Nat.le_trans Zs4 K2.1
  replace KK := KK.trans K2 (fun x q => nomatch q)
  have k10 := fun t_ ht_ => k9 t_ (o_aloadN X9 hx d25_15 rfl rfl ht_)
  obtain ⟨_, T11, Lc11, X11, hQ11, k11⟩ := o_virtualM X9 hx hZ k10 yy14 hown (hw 160 rfl) yy14 (hw 161 rfl) (hw 163 rfl) (hw 162 rfl) rfl (rm36 hw so a1 dco eno iso utf tbd tbe kd ke G1 fm cr ar kc2 kb (7 : Int32) [r0, r1, r2, r3, r4, r5, r6] T9.heap n0 Zs9 hG X00 E2 Fc2 Fv2 Es Fc Fv V2 Va ne_so) (hw 164 rfl) (hw 11 rfl) 0 E2 [.ref a1] [] (lenOf pd_17 rfl) hml rfl d25_16
  obtain ⟨rfl, Nq11, e11⟩ := hQ11
  have N11 := Fr.app N9 Nq11
  replace k11 := own_pushR k11
  have k12 := fun t_ ht_ => k11 t_ (o_ifYes X11 hx d25_19 ((if0 _ _).trans (feq (by decide)).2) 32 (o_aloadN X11 hx d25_32 rfl rfl ht_))
  exact o_retA X11 hx k12 hlk hret rfl d25_33 (by rw [e11]; exact ⟨ds, kc, yo0, yo1, yo2, yo3, yo4, rfl, N11, KK, V1, sz_ds, sb0, sb1, sb2, sb3, sb4⟩)
theorem ef_90 (m : MethodId) (x0 x1 : Addr) (x2 x3 : Int32) : entryFrame m #[.ref x0, .ref x1, .int x2, .int x3] 9 = mkF m 0 #[Lr x0, Lr x1, Li x2, Li x3, Lu, Lu, Lu, Lu, Lu] [] := by first | (simp [entryFrame, mkF, argsToLocals, Value.category]; done) | rfl
def Q90 (Z : State) (dco ar eno iso utf tbd tbe : Addr) (kd ke : ClassId) (G1 : Int32) (fm : Value) (kb : ClassId) (B0 B1 B2 B3 B4 B5 v0 v1 v2 v3 v4 v5 v6 v7 r0 r1 r2 r3 r4 r5 r6 r7 : Int32) (h0 : Heap) (n0 : Nat) (v : Option Value) (h : Heap) (L : List Loc) : Prop := v = some (.int (6 : Int32)) ∧ Fr n0 L ∧ h = h0
set_option maxRecDepth 65536 in
set_option maxHeartbeats 40000000 in
theorem rm90 (hw : own_W a0 Z) (dco ar eno iso utf tbd tbe : Addr) (kd ke : ClassId) (G1 : Int32) (fm : Value) (kb : ClassId) (B0 B1 B2 B3 B4 B5 v0 v1 v2 v3 v4 v5 v6 v7 r0 r1 r2 r3 r4 r5 r6 r7 : Int32) (h0 : Heap) (n0 : Nat) (Z0 : n0 ≤ h0.size) (hG : own_G Z dco eno iso utf tbd tbe kd ke G1 fm) (X00 : Old Z n0 h0) (Va : Arv Z h0 ar kb .byte (8 : Int32) [.int r0, .int r1, .int r2, .int r3, .int r4, .int r5, .int r6, .int r7] (.int 0)) (hD : own_D 6 B0 B1 B2 B3 B4 B5 v0 v1 v2 v3 v4 v5 v6 v7 r0 r1 r2 r3 r4 r5 r6 r7) :
    own_M l Z yy15 q15 9 (some .int) ⟨0, 0, 0, 0⟩ #[.ref dco, .ref ar, .int 0, .int 8] h0 [] (Q90 Z dco ar eno iso utf tbd tbe kd ke G1 fm kb B0 B1 B2 B3 B4 B5 v0 v1 v2 v3 v4 v5 v6 v7 r0 r1 r2 r3 r4 r5 r6 r7 h0 n0) := by
  refine own_body (plainFor_of_name pn_2) ?_
  intro p e s m below meth c s₁ A hx hml hown hnm hlk hret hZ X0 e0 k0
  replace k0 := own_ent (ef_90 m dco ar 0 8) k0
  have N0 := Fr.nil n0
  obtain ⟨sD, sE, eD, eE, fDu, fDm, fEp, fEl, fEu, sI, sU, iu, sTd, sTe, aTd, aTe, sC, gC, sS, fmr⟩ := id hG
  obtain ⟨hq0, hq1, hc0, hc1, hc2, hc3, hc4, hc5, hc6, hc7, hz1, hz2, hz4, hz5⟩ := id hD
  have od1 := fDu.ext X00.2
  have k2 := fun t_ ht_ => k0 t_ (o_aloadN X0 hx d15_0 rfl rfl ht_)
  obtain ⟨T3, X3, e3, k3⟩ := o_getF X0 hx hZ k2 hown (host := "") (Or.inl (hw 93 rfl)) Via.refl e0 od1 d15_1
  have k4 := fun t_ ht_ => k3 t_ (o_ifNo X3 hx d15_4 ((if0 _ _).trans (feq (by decide)).1) ht_)
  obtain ⟨T5, X5, e5, k5⟩ := o_getS X3 hx hZ k4 hown (host := "") (Or.inl (hw 95 rfl)) Via.refl e3 (sTd.ext X00.2) d15_7
  have od6 := fDm.ext X00.2
  have k7 := fun t_ ht_ => k5 t_ (o_goto X5 hx d15_10 16 (o_astore X5 hx d15_16 #[Lr dco, Lr ar, Li 0, Li 8, Lr tbd, Lu, Lu, Lu, Lu] rfl rfl (o_iconst X5 hx d15_18 0 rfl (o_istore X5 hx d15_19 #[Lr dco, Lr ar, Li 0, Li 8, Lr tbd, Li 0, Lu, Lu, Lu] rfl (o_iloadN X5 hx d15_21 rfl (o_iloadN X5 hx d15_22 rfl (o_isub X5 hx d15_23 (rfl : _ = (8 : Int32)) (o_istore X5 hx d15_24 #[Lr dco, Lr ar, Li 0, Li 8, Lr tbd, Li 0, Li 8, Lu, Lu] rfl (o_iload X5 hx d15_26 rfl (o_ifYes X5 hx d15_28 ((if0 _ _).trans (feq (by decide)).2) 33 (o_iload X5 hx d15_33 rfl (o_iconst X5 hx d15_35 2 rfl (o_icmpYes X5 hx d15_36 (flt (by decide)).2.1 66 (o_aloadN X5 hx d15_66 rfl rfl ht_))))))))))))))
  obtain ⟨T8, X8, e8, k8⟩ := o_getF X5 hx hZ k7 hown (host := "") (Or.inl (hw 96 rfl)) Via.refl e5 od6 d15_67
  have k9 := fun t_ ht_ => k8 t_ (o_ifYes X8 hx d15_70 ((if0 _ _).trans (teq (by decide)).1) 141 (o_aloadN X8 hx d15_141 rfl rfl (o_iloadN X8 hx d15_142 rfl (o_iconst X8 hx d15_143 1 rfl (o_isub X8 hx d15_144 (rfl : _ = (7 : Int32)) (o_ldB X8 hx hZ d15_145 e8 Va ⟨by decide, by decide⟩ (rfl : _ = Value.int r7) (o_bipush X8 hx d15_146 61 rfl (o_icmpYes X8 hx d15_148 (feq (own_r61 hc7)).2 167 (o_iload X8 hx d15_167 rfl (o_ifNo X8 hx d15_169 ((if0 _ _).trans (teq (by decide)).2) (o_iload X8 hx d15_172 rfl (o_iconst X8 hx d15_174 3 rfl (o_iand X8 hx d15_175 (rfl : _ = (0 : Int32)) (o_ifYes X8 hx d15_176 ((if0 _ _).trans (teq (by decide)).1) 187 (o_iconst X8 hx d15_187 3 rfl (o_iload X8 hx d15_188 rfl (o_i2l X8 hx d15_190 (o_ldc2Long X8 hx d15_191 hown (mvT hZ (hw 98 rfl)) (o_ladd X8 hx d15_194 rfl (o_ldc2Long X8 hx d15_195 hown (mvT hZ (hw 99 rfl)) (o_ldiv X8 hx d15_198 (by decide) (o_l2i X8 hx d15_199 (o_imul X8 hx d15_200 rfl (o_iload X8 hx d15_201 rfl (o_isub X8 hx d15_203 rfl ht_)))))))))))))))))))))))))
  exact o_retI X8 hx k9 hlk hret d15_204 (by rw [e8]; exact ⟨congrArg (fun z => some (Value.int z)) (show (((3 : Int32) * (((((8 : Int32).toInt64) + (3 : Int64)) / (4 : Int64)).toInt32)) - (0 : Int32)) = (6 : Int32) from by decide), N0, rfl⟩)
theorem ef_91 (m : MethodId) (x0 x1 : Addr) (x2 x3 : Int32) (x4 : Addr) : entryFrame m #[.ref x0, .ref x1, .int x2, .int x3, .ref x4] 11 = mkF m 0 #[Lr x0, Lr x1, Li x2, Li x3, Lr x4, Lu, Lu, Lu, Lu, Lu, Lu] [] := by first | (simp [entryFrame, mkF, argsToLocals, Value.category]; done) | rfl
def Q91 (Z : State) (dco ar ds eno iso utf tbd tbe : Addr) (kd ke : ClassId) (G1 : Int32) (fm : Value) (kb kc : ClassId) (B0 B1 B2 B3 B4 B5 v0 v1 v2 v3 v4 v5 v6 v7 r0 r1 r2 r3 r4 r5 r6 r7 : Int32) (h0 : Heap) (n0 : Nat) (v : Option Value) (h : Heap) (L : List Loc) : Prop := ∃ (y0 y1 y2 y3 y4 y5 : Int32), v = some (.int (6 : Int32)) ∧ Fr n0 L ∧ Keep h0 h [ds] ∧ Arv Z h ds kc .byte (6 : Int32) [.int y0, .int y1, .int y2, .int y3, .int y4, .int y5] (.int 0) ∧ own_SB y0 B0 ∧ own_SB y1 B1 ∧ own_SB y2 B2 ∧ own_SB y3 B3 ∧ own_SB y4 B4 ∧ own_SB y5 B5
set_option maxRecDepth 65536 in
set_option maxHeartbeats 40000000 in
theorem rm91 (hw : own_W a0 Z) (dco ar ds eno iso utf tbd tbe : Addr) (kd ke : ClassId) (G1 : Int32) (fm : Value) (kb kc : ClassId) (B0 B1 B2 B3 B4 B5 v0 v1 v2 v3 v4 v5 v6 v7 r0 r1 r2 r3 r4 r5 r6 r7 : Int32) (h0 : Heap) (n0 : Nat) (Z0 : n0 ≤ h0.size) (hG : own_G Z dco eno iso utf tbd tbe kd ke G1 fm) (X00 : Old Z n0 h0) (Va : Arv Z h0 ar kb .byte (8 : Int32) [.int r0, .int r1, .int r2, .int r3, .int r4, .int r5, .int r6, .int r7] (.int 0)) (Vd : Arv Z h0 ds kc .byte (6 : Int32) [.int (0 : Int32), .int (0 : Int32), .int (0 : Int32), .int (0 : Int32), .int (0 : Int32), .int (0 : Int32)] (.int 0)) (hne : ar ≠ ds) (g_ds : n0 ≤ ds) (hD : own_D 6 B0 B1 B2 B3 B4 B5 v0 v1 v2 v3 v4 v5 v6 v7 r0 r1 r2 r3 r4 r5 r6 r7) :
    own_M l Z yy16 q16 11 (some .int) ⟨1, 0, 0, 27⟩ #[.ref dco, .ref ar, .int 0, .int 8, .ref ds] h0 [] (Q91 Z dco ar ds eno iso utf tbd tbe kd ke G1 fm kb kc B0 B1 B2 B3 B4 B5 v0 v1 v2 v3 v4 v5 v6 v7 r0 r1 r2 r3 r4 r5 r6 r7 h0 n0) := by
  refine own_body (plainFor_of_name pn_2) ?_
  intro p e s m below meth c s₁ A hx hml hown hnm hlk hret hZ X0 e0 k0
  replace k0 := own_ent (ef_91 m dco ar 0 8 ds) k0
  have N0 := Fr.nil n0
  have KK : Keep h0 h0 [ds] := Keep.refl h0 [ds]
  obtain ⟨sD, sE, eD, eE, fDu, fDm, fEp, fEl, fEu, sI, sU, iu, sTd, sTe, aTd, aTe, sC, gC, sS, fmr⟩ := id hG
  obtain ⟨hq0, hq1, hc0, hc1, hc2, hc3, hc4, hc5, hc6, hc7, hz1, hz2, hz4, hz5⟩ := id hD
  have od1 := fDu.ext X00.2
  have k2 := fun t_ ht_ => k0 t_ (o_aloadN X0 hx d16_0 rfl rfl ht_)
  obtain ⟨T3, X3, e3, k3⟩ := o_getF X0 hx hZ k2 hown (host := "") (Or.inl (hw 93 rfl)) Via.refl e0 od1 d16_1
  have k4 := fun t_ ht_ => k3 t_ (o_ifNo X3 hx d16_4 ((if0 _ _).trans (feq (by decide)).1) ht_)
  obtain ⟨T5, X5, e5, k5⟩ := o_getS X3 hx hZ k4 hown (host := "") (Or.inl (hw 95 rfl)) Via.refl e3 (sTd.ext X00.2) d16_7
  have k6 := fun t_ ht_ => k5 t_ (o_goto X5 hx d16_10 16 (o_astore X5 hx d16_16 #[Lr dco, Lr ar, Li 0, Li 8, Lr ds, Lr tbd, Lu, Lu, Lu, Lu, Lu] rfl rfl (o_iconst X5 hx d16_18 0 rfl (o_istore X5 hx d16_19 #[Lr dco, Lr ar, Li 0, Li 8, Lr ds, Lr tbd, Li 0, Lu, Lu, Lu, Lu] rfl (o_iconst X5 hx d16_21 0 rfl (o_istore X5 hx d16_22 #[Lr dco, Lr ar, Li 0, Li 8, Lr ds, Lr tbd, Li 0, Li 0, Lu, Lu, Lu] rfl (o_bipush X5 hx d16_24 18 rfl (o_istore X5 hx d16_26 #[Lr dco, Lr ar, Li 0, Li 8, Lr ds, Lr tbd, Li 0, Li 0, Li 18, Lu, Lu] rfl (o_iloadN X5 hx d16_28 rfl (o_iloadN X5 hx d16_29 rfl (o_icmpNo X5 hx d16_30 (tlt (by decide)).2.1 (o_iload X5 hx d16_33 rfl (o_bipush X5 hx d16_35 18 rfl (o_icmpNo X5 hx d16_37 (teq (by decide)).2 (o_iloadN X5 hx d16_40 rfl (o_iloadN X5 hx d16_41 rfl (o_iconst X5 hx d16_42 4 rfl (o_isub X5 hx d16_43 (rfl : _ = (4 : Int32)) (o_icmpNo X5 hx d16_44 (tlt (by decide)).2.1 (o_aloadN X5 hx d16_47 rfl rfl (o_aloadN X5 hx d16_48 rfl rfl (o_iloadN X5 hx d16_49 rfl (o_iloadN X5 hx d16_50 rfl (o_aload X5 hx d16_51 rfl rfl (o_iload X5 hx d16_53 rfl (o_aloadN X5 hx d16_55 rfl rfl ht_))))))))))))))))))))))))))
  obtain ⟨T7, X7, e7, k7⟩ := o_getF X5 hx hZ k6 hown (host := "") (Or.inl (hw 93 rfl)) Via.refl e5 od1 d16_56
  have od8 := fDm.ext X00.2
  have k9 := fun t_ ht_ => k7 t_ (o_aloadN X7 hx d16_59 rfl rfl ht_)
  obtain ⟨T10, X10, e10, k10⟩ := o_getF X7 hx hZ k9 hown (host := "") (Or.inl (hw 96 rfl)) Via.refl e7 od8 d16_60
  have od11 := eD.ext X00.2
  obtain ⟨_, T12, Lc12, X12, hQ12, k12⟩ := o_privateM X10 hx hZ k10 yy7 hown (hw 181 rfl) (hw 182 rfl) (hw 184 rfl) (hw 183 rfl) (hw 185 rfl) (rm26 hw dco ar ds eno iso utf tbd tbe kd ke G1 fm kb kc B0 B1 B2 B3 B4 B5 v0 v1 v2 v3 v4 v5 v6 v7 r0 r1 r2 r3 r4 r5 r6 r7 h0 n0 Z0 hG X00 Va Vd hne g_ds hD) (hw 48 rfl) 0 od11 [.ref ar, .int 0, .int 8, .ref ds, .int 0, .int 1, .int 0] [] (lenOf pd_19 rfl) hml e10 d16_63
  obtain ⟨yb0, yb1, yb2, yb3, yb4, yb5, rfl, Nq12, Kb, Vb, sb0, sb1, sb2, sb3, sb4, sb5⟩ := hQ12
  have N12 := Fr.app N0 Nq12
  replace k12 := own_pushR k12
  replace X00 := X00.keep Kb (by simpa using g_ds)
  replace Va := Va.keep Kb (by simpa using hne)
  have Zs12 := Nat.le_trans Z0 Kb.1
  replace KK := KK.trans Kb (fun x q => Or.inl q)
  have k13 := fun t_ ht_ => k12 t_ (o_istore X12 hx d16_66 #[Lr dco, Lr ar, Li 0, Li 8, Lr ds, Lr tbd, Li 0, Li 0, Li 18, Li 6, Lu] rfl (o_iload X12 hx d16_68 rfl (o_iconst X12 hx d16_70 2 rfl (o_iadd X12 hx d16_71 (rfl : _ = (8 : Int32)) (o_iconst X12 hx d16_72 3 rfl (o_idiv X12 hx d16_73 (by decide) ht_))))))
  rw [show ((8 : Int32) / (3 : Int32)) = (2 : Int32) from by decide] at k13
  have k14 := fun t_ ht_ => k13 t_ (o_iconst X12 hx d16_74 4 rfl (o_imul X12 hx d16_75 (rfl : _ = (8 : Int32)) (o_istore X12 hx d16_76 #[Lr dco, Lr ar, Li 0, Li 8, Lr ds, Lr tbd, Li 0, Li 0, Li 18, Li 6, Li 8] rfl (o_iloadN X12 hx d16_78 rfl (o_iload X12 hx d16_79 rfl (o_iadd X12 hx d16_81 (rfl : _ = (8 : Int32)) (o_istoreN X12 hx d16_82 #[Lr dco, Lr ar, Li 8, Li 8, Lr ds, Lr tbd, Li 0, Li 0, Li 18, Li 6, Li 8] rfl (o_iload X12 hx d16_83 rfl (o_iload X12 hx d16_85 rfl (o_iadd X12 hx d16_87 (rfl : _ = (6 : Int32)) (o_istore X12 hx d16_88 #[Lr dco, Lr ar, Li 8, Li 8, Lr ds, Lr tbd, Li 6, Li 0, Li 18, Li 6, Li 8] rfl (o_iloadN X12 hx d16_90 rfl (o_iloadN X12 hx d16_91 rfl (o_icmpNo X12 hx d16_92 (flt (by decide)).1 (o_goto X12 hx d16_95 281 (o_iload X12 hx d16_281 rfl (o_bipush X12 hx d16_283 6 rfl (o_icmpYes X12 hx d16_285 (feq (by decide)).2 305 (o_iload X12 hx d16_305 rfl (o_ifYes X12 hx d16_307 ((if0 _ _).trans (feq (by decide)).2) 341 (o_iload X12 hx d16_341 rfl (o_bipush X12 hx d16_343 12 rfl (o_icmpYes X12 hx d16_345 (feq (by decide)).2 358 (o_iloadN X12 hx d16_358 rfl (o_iloadN X12 hx d16_359 rfl (o_icmpYes X12 hx d16_360 (flt (by decide)).2.1 416 (o_iload X12 hx d16_416 rfl ht_)))))))))))))))))))))))))))
  exact o_retI X12 hx k14 hlk hret d16_418 (by exact ⟨yb0, yb1, yb2, yb3, yb4, yb5, rfl, N12, KK, Vb, sb0, sb1, sb2, sb3, sb4, sb5⟩)
theorem ef_92 (m : MethodId) (x0 x1 : Addr) : entryFrame m #[.ref x0, .ref x1] 4 = mkF m 0 #[Lr x0, Lr x1, Lu, Lu] [] := by first | (simp [entryFrame, mkF, argsToLocals, Value.category]; done) | rfl
def Q92 (Z : State) (dco ar eno iso utf tbd tbe : Addr) (kd ke : ClassId) (G1 : Int32) (fm : Value) (kb : ClassId) (B0 B1 B2 B3 B4 B5 v0 v1 v2 v3 v4 v5 v6 v7 r0 r1 r2 r3 r4 r5 r6 r7 : Int32) (h0 : Heap) (n0 : Nat) (v : Option Value) (h : Heap) (L : List Loc) : Prop := ∃ (ds : Addr) (kc : ClassId) (y0 y1 y2 y3 y4 y5 : Int32), v = some (.ref ds) ∧ Fr n0 L ∧ Keep h0 h [] ∧ Arv Z h ds kc .byte (6 : Int32) [.int y0, .int y1, .int y2, .int y3, .int y4, .int y5] (.int 0) ∧ h0.size ≤ ds ∧ n0 ≤ ds ∧ own_SB y0 B0 ∧ own_SB y1 B1 ∧ own_SB y2 B2 ∧ own_SB y3 B3 ∧ own_SB y4 B4 ∧ own_SB y5 B5
set_option maxRecDepth 65536 in
set_option maxHeartbeats 40000000 in
theorem rm92 (hw : own_W a0 Z) (dco ar eno iso utf tbd tbe : Addr) (kd ke : ClassId) (G1 : Int32) (fm : Value) (kb : ClassId) (B0 B1 B2 B3 B4 B5 v0 v1 v2 v3 v4 v5 v6 v7 r0 r1 r2 r3 r4 r5 r6 r7 : Int32) (h0 : Heap) (n0 : Nat) (Z0 : n0 ≤ h0.size) (hG : own_G Z dco eno iso utf tbd tbe kd ke G1 fm) (X00 : Old Z n0 h0) (Va : Arv Z h0 ar kb .byte (8 : Int32) [.int r0, .int r1, .int r2, .int r3, .int r4, .int r5, .int r6, .int r7] (.int 0)) (hD : own_D 6 B0 B1 B2 B3 B4 B5 v0 v1 v2 v3 v4 v5 v6 v7 r0 r1 r2 r3 r4 r5 r6 r7) :
    own_M l Z yy17 q17 4 (some (.array .byte)) ⟨2, 1, 6, 49⟩ #[.ref dco, .ref ar] h0 [] (Q92 Z dco ar eno iso utf tbd tbe kd ke G1 fm kb B0 B1 B2 B3 B4 B5 v0 v1 v2 v3 v4 v5 v6 v7 r0 r1 r2 r3 r4 r5 r6 r7 h0 n0) := by
  refine own_body (plainFor_of_name pn_2) ?_
  intro p e s m below meth c s₁ A hx hml hown hnm hlk hret hZ X0 e0 k0
  replace k0 := own_ent (ef_92 m dco ar) k0
  have N0 := Fr.nil n0
  have KK : Keep h0 h0 [] := Keep.refl h0 []
  obtain ⟨sD, sE, eD, eE, fDu, fDm, fEp, fEl, fEu, sI, sU, iu, sTd, sTe, aTd, aTe, sC, gC, sS, fmr⟩ := id hG
  obtain ⟨hq0, hq1, hc0, hc1, hc2, hc3, hc4, hc5, hc6, hc7, hz1, hz2, hz4, hz5⟩ := id hD
  have od1 := eD.ext X00.2
  have k2 := fun t_ ht_ => k0 t_ (o_aloadN X0 hx d17_0 rfl rfl (o_aloadN X0 hx d17_1 rfl rfl (o_iconst X0 hx d17_2 0 rfl (o_aloadN X0 hx d17_3 rfl rfl (o_len X0 hx hZ d17_4 e0 Va ht_)))))
  obtain ⟨_, T3, Lc3, X3, hQ3, k3⟩ := o_privateM X0 hx hZ k2 yy15 hown (hw 88 rfl) (hw 89 rfl) (hw 91 rfl) (hw 90 rfl) (hw 92 rfl) (rm90 hw dco ar eno iso utf tbd tbe kd ke G1 fm kb B0 B1 B2 B3 B4 B5 v0 v1 v2 v3 v4 v5 v6 v7 r0 r1 r2 r3 r4 r5 r6 r7 h0 n0 Z0 hG X00 Va hD) (hw 48 rfl) 0 od1 [.ref ar, .int 0, .int 8] [] (lenOf pd_8 rfl) hml e0 d17_5
  obtain ⟨rfl, Nq3, e3⟩ := hQ3
  have N3 := Fr.app N0 Nq3
  replace k3 := own_pushR k3
  obtain ⟨T4, h4, c4, X4, e4, E4, Ax4, Bx4, k4⟩ := o_newP X3 hx hZ k3 (hw 27 rfl) e3 (by decide) 6 (by decide) "[B" d17_8
  obtain ⟨b4, g4⟩ : ∃ z, z = h0.size := ⟨_, rfl⟩
  rw [← g4] at Ax4 Bx4 k4
  have ne_ar_b4 : ar ≠ b4 := Nat.ne_of_lt (Nat.lt_of_lt_of_le Va.lt (Nat.le_of_eq g4.symm))
  have g_b4 : n0 ≤ b4 := Nat.le_trans Z0 (Nat.le_of_eq g4.symm)
  have sz_b4 : h0.size ≤ b4 := Nat.le_trans KK.1 (Nat.le_of_eq g4.symm)
  replace X00 : Old Z n0 h4 := ⟨X00.1, Nat.le_trans X00.2.1 E4.1, fun x c r => E4.2 x c (X00.2.2 x c r)⟩
  replace Va := Va.ext E4
  have Zs4 := Nat.le_trans Z0 E4.1
  replace KK := KK.ext E4
  have Ex_b4 := Bx4
  have V_b4 : Arv Z h4 b4 c4 .byte 6 [.int 0, .int 0, .int 0, .int 0, .int 0, .int 0] (.int 0) := (Arv.new Ax4 (by decide)).pad (pad_rep [] (.int 0) 6)
  have od5 := eD.ext X00.2
  have k6 := fun t_ ht_ => k4 t_ (o_astoreN X4 hx d17_10 #[Lr dco, Lr ar, Lr b4, Lu] rfl rfl (o_aloadN X4 hx d17_11 rfl rfl (o_aloadN X4 hx d17_12 rfl rfl (o_iconst X4 hx d17_13 0 rfl (o_aloadN X4 hx d17_14 rfl rfl (o_len X4 hx hZ d17_15 e4 Va (o_aloadN X4 hx d17_16 rfl rfl ht_)))))))
  obtain ⟨_, T7, Lc7, X7, hQ7, k7⟩ := o_privateM X4 hx hZ k6 yy16 hown (hw 100 rfl) (hw 101 rfl) (hw 103 rfl) (hw 102 rfl) (hw 104 rfl) (rm91 hw dco ar b4 eno iso utf tbd tbe kd ke G1 fm kb c4 B0 B1 B2 B3 B4 B5 v0 v1 v2 v3 v4 v5 v6 v7 r0 r1 r2 r3 r4 r5 r6 r7 h4 n0 Zs4 hG X00 Va V_b4 ne_ar_b4 g_b4 hD) (hw 48 rfl) 0 od5 [.ref ar, .int 0, .int 8, .ref b4] [] (lenOf pd_9 rfl) hml e4 d17_17
  obtain ⟨yo0, yo1, yo2, yo3, yo4, yo5, rfl, Nq7, K1, V1, sb0, sb1, sb2, sb3, sb4, sb5⟩ := hQ7
  have N7 := Fr.app N3 Nq7
  replace k7 := own_pushR k7
  replace X00 := X00.keep K1 (by simpa using g_b4)
  replace Va := Va.keep K1 (by simpa using ne_ar_b4)
  replace Ex_b4 := Ex_b4.keep K1
  have Zs7 := Nat.le_trans Zs4 K1.1
  replace KK := KK.trans K1 (fun x q => by cases List.mem_singleton.mp q; exact Or.inr sz_b4)
  have k8 := fun t_ ht_ => k7 t_ (o_istoreN X7 hx d17_20 #[Lr dco, Lr ar, Lr b4, Li 6] rfl (o_iloadN X7 hx d17_21 rfl (o_aloadN X7 hx d17_22 rfl rfl (o_len X7 hx hZ d17_23 rfl V1 (o_icmpYes X7 hx d17_24 (teq (by decide)).1 33 (o_aloadN X7 hx d17_33 rfl rfl ht_))))))
  exact o_retA X7 hx k8 hlk hret rfl d17_34 (by exact ⟨b4, c4, yo0, yo1, yo2, yo3, yo4, yo5, rfl, N7, KK, V1, sz_b4, g_b4, sb0, sb1, sb2, sb3, sb4, sb5⟩)
theorem ef_93 (m : MethodId) (x0 x1 : Addr) : entryFrame m #[.ref x0, .ref x1] 2 = mkF m 0 #[Lr x0, Lr x1] [] := by first | (simp [entryFrame, mkF, argsToLocals, Value.category]; done) | rfl
def Q93 (Z : State) (dco a1 eno iso utf tbd tbe : Addr) (kd ke : ClassId) (G1 : Int32) (fm : Value) (ar : Addr) (kb : ClassId) (B0 B1 B2 B3 B4 B5 v0 v1 v2 v3 v4 v5 v6 v7 r0 r1 r2 r3 r4 r5 r6 r7 : Int32) (h0 : Heap) (n0 : Nat) (v : Option Value) (h : Heap) (L : List Loc) : Prop := ∃ (ds : Addr) (kc : ClassId) (y0 y1 y2 y3 y4 y5 : Int32), v = some (.ref ds) ∧ Fr n0 L ∧ Keep h0 h [] ∧ Arv Z h ds kc .byte (6 : Int32) [.int y0, .int y1, .int y2, .int y3, .int y4, .int y5] (.int 0) ∧ h0.size ≤ ds ∧ n0 ≤ ds ∧ own_SB y0 B0 ∧ own_SB y1 B1 ∧ own_SB y2 B2 ∧ own_SB y3 B3 ∧ own_SB y4 B4 ∧ own_SB y5 B5
set_option maxRecDepth 65536 in
set_option maxHeartbeats 40000000 in
theorem rm93 (hw : own_W a0 Z) (dco a1 eno iso utf tbd tbe : Addr) (kd ke : ClassId) (G1 : Int32) (fm : Value) (ar : Addr) (kb : ClassId) (B0 B1 B2 B3 B4 B5 v0 v1 v2 v3 v4 v5 v6 v7 r0 r1 r2 r3 r4 r5 r6 r7 : Int32) (h0 : Heap) (n0 : Nat) (Z0 : n0 ≤ h0.size) (hG : own_G Z dco eno iso utf tbd tbe kd ke G1 fm) (X00 : Old Z n0 h0) (Es : Exa Z h0 a1 "java/lang/String") (Fc : Fld Z h0 a1 "java/lang/String" "coder" "B" (.int 0)) (Fv : Fld Z h0 a1 "java/lang/String" "value" "[B" (.ref ar)) (Va : Arv Z h0 ar kb .byte (8 : Int32) [.int r0, .int r1, .int r2, .int r3, .int r4, .int r5, .int r6, .int r7] (.int 0)) (Ea : Exa Z h0 ar "[B") (hD : own_D 6 B0 B1 B2 B3 B4 B5 v0 v1 v2 v3 v4 v5 v6 v7 r0 r1 r2 r3 r4 r5 r6 r7) :
    own_M l Z yy18 q18 2 (some (.array .byte)) ⟨5, 2, 14, 76⟩ #[.ref dco, .ref a1] h0 [] (Q93 Z dco a1 eno iso utf tbd tbe kd ke G1 fm ar kb B0 B1 B2 B3 B4 B5 v0 v1 v2 v3 v4 v5 v6 v7 r0 r1 r2 r3 r4 r5 r6 r7 h0 n0) := by
  refine own_body (plainFor_of_name pn_2) ?_
  intro p e s m below meth c s₁ A hx hml hown hnm hlk hret hZ X0 e0 k0
  replace k0 := own_ent (ef_93 m dco a1) k0
  have N0 := Fr.nil n0
  have KK : Keep h0 h0 [] := Keep.refl h0 []
  obtain ⟨sD, sE, eD, eE, fDu, fDm, fEp, fEl, fEu, sI, sU, iu, sTd, sTe, aTd, aTe, sC, gC, sS, fmr⟩ := id hG
  obtain ⟨hq0, hq1, hc0, hc1, hc2, hc3, hc4, hc5, hc6, hc7, hz1, hz2, hz4, hz5⟩ := id hD
  have k1 := fun t_ ht_ => k0 t_ (o_aloadN X0 hx d18_0 rfl rfl (o_aloadN X0 hx d18_1 rfl rfl ht_))
  obtain ⟨T2, X2, e2, k2⟩ := o_getS X0 hx hZ k1 hown (host := "") (Or.inl (hw 50 rfl)) Via.refl e0 (sI.ext X00.2) d18_2
  obtain ⟨_, T3, Lc3, X3, hQ3, k3⟩ := o_virtualM X2 hx hZ k2 yy6 hown (hw 52 rfl) yy6 (hw 53 rfl) (hw 55 rfl) (hw 54 rfl) rfl (rm23 hw a1 iso dco eno utf tbd tbe kd ke G1 fm ar kb (8 : Int32) _ h0 n0 Z0 hG X00 Es Fc Fv Va Ea (by decide)) (hw 56 rfl) (hw 11 rfl) 1 Es [.ref iso] [.ref dco] (lenOf pd_10 rfl) hml e2 d18_5
  obtain ⟨cr, rfl, Nq3, K1, V1, E1, G1_⟩ := hQ3
  have N3 := Fr.app N0 Nq3
  replace k3 := own_pushR k3
  replace X00 := X00.keep K1 (by simp)
  replace Es := Es.keep K1
  replace Fc := Fc.keep K1 (by simp)
  replace Fv := Fv.keep K1 (by simp)
  replace Va := Va.keep K1 (by simp)
  replace Ea := Ea.keep K1
  have Zs3 := Nat.le_trans Z0 K1.1
  replace KK := KK.trans K1 (fun x q => nomatch q)
  have od4 := eD.ext X00.2
  obtain ⟨_, T5, Lc5, X5, hQ5, k5⟩ := o_virtualM X3 hx hZ k3 yy17 hown (hw 83 rfl) yy17 (hw 84 rfl) (hw 86 rfl) (hw 85 rfl) rfl (rm92 hw dco cr eno iso utf tbd tbe kd ke G1 fm kb B0 B1 B2 B3 B4 B5 v0 v1 v2 v3 v4 v5 v6 v7 r0 r1 r2 r3 r4 r5 r6 r7 T3.heap n0 Zs3 hG X00 V1 hD) (hw 87 rfl) (hw 48 rfl) 0 od4 [.ref cr] [] (lenOf pd_11 rfl) hml rfl d18_8
  obtain ⟨ds, kc, yo0, yo1, yo2, yo3, yo4, yo5, rfl, Nq5, K2, V2, G2, g_ds, sb0, sb1, sb2, sb3, sb4, sb5⟩ := hQ5
  have N5 := Fr.app N3 Nq5
  replace k5 := own_pushR k5
  have sz_ds : h0.size ≤ ds := Nat.le_trans KK.1 G2
  replace X00 := X00.keep K2 (by simp)
  replace Es := Es.keep K2
  replace Fc := Fc.keep K2 (by simp)
  replace Fv := Fv.keep K2 (by simp)
  replace Va := Va.keep K2 (by simp)
  replace Ea := Ea.keep K2
  replace V1 := V1.keep K2 (by simp)
  replace E1 := E1.keep K2
  have Zs5 := Nat.le_trans Zs3 K2.1
  replace KK := KK.trans K2 (fun x q => nomatch q)
  exact o_retA X5 hx k5 hlk hret rfl d18_11 (by exact ⟨ds, kc, yo0, yo1, yo2, yo3, yo4, yo5, rfl, N5, KK, V2, sz_ds, g_ds, sb0, sb1, sb2, sb3, sb4, sb5⟩)
theorem ef_95 (m : MethodId) (x0 x1 : Int32) : entryFrame m #[.int x0, .int x1] 4 = mkF m 0 #[Li x0, Li x1, Lu, Lu] [] := by first | (simp [entryFrame, mkF, argsToLocals, Value.category]; done) | rfl
def Q95 (Z : State)  (h0 : Heap) (n0 : Nat) (v : Option Value) (h : Heap) (L : List Loc) : Prop := v = some (.int (8 : Int32)) ∧ Fr n0 L ∧ h = h0
set_option maxRecDepth 65536 in
set_option maxHeartbeats 40000000 in
theorem rm95 (hw : own_W a0 Z)  (h0 : Heap) (n0 : Nat) (Z0 : n0 ≤ h0.size) :
    own_M l Z yy19 q20 4 (some .int) ⟨0, 0, 0, 0⟩ #[.int 4, .int 2] h0 [] (Q95 Z  h0 n0) := by
  refine own_body (Jvm.Free.JP.mathPlain rfl (by decide +kernel)) ?_
  intro p e s m below meth c s₁ A hx hml hown hnm hlk hret hZ X0 e0 k0
  replace k0 := own_ent (ef_95 m 4 2) k0
  have N0 := Fr.nil n0
  have k1 := fun t_ ht_ => k0 t_ (o_iloadN X0 hx d20_0 rfl (o_i2l X0 hx d20_1 (o_iloadN X0 hx d20_2 rfl (o_i2l X0 hx d20_3 (o_lmul X0 hx d20_4 rfl (o_lstoreN X0 hx d20_5 #[Li 4, Li 2, Lj (((4 : Int32).toInt64) * ((2 : Int32).toInt64)), Lt] rfl (o_lloadN X0 hx d20_6 rfl (o_l2i X0 hx d20_7 (o_i2l X0 hx d20_8 (o_lloadN X0 hx d20_9 rfl (o_lcmp X0 hx d20_10 (o_ifYes X0 hx d20_11 ((if0 _ _).trans (teq (by decide)).1) 24 (o_lloadN X0 hx d20_24 rfl (o_l2i X0 hx d20_25 ht_))))))))))))))
  exact o_retI X0 hx k1 hlk hret d20_26 (by rw [e0]; exact ⟨congrArg (fun z => some (Value.int z)) (show ((((4 : Int32).toInt64) * ((2 : Int32).toInt64)).toInt32) = (8 : Int32) from by decide), N0, rfl⟩)
theorem ef_96 (m : MethodId) (x0 x1 : Int32) : entryFrame m #[.int x0, .int x1] 3 = mkF m 0 #[Li x0, Li x1, Lu] [] := by first | (simp [entryFrame, mkF, argsToLocals, Value.category]; done) | rfl
def Q96 (Z : State)  (h0 : Heap) (n0 : Nat) (v : Option Value) (h : Heap) (L : List Loc) : Prop := v = some (.int (8 : Int32)) ∧ Fr n0 L ∧ h = h0
set_option maxRecDepth 65536 in
set_option maxHeartbeats 40000000 in
theorem rm96 (hw : own_W a0 Z)  (h0 : Heap) (n0 : Nat) (Z0 : n0 ≤ h0.size) :
    own_M l Z yy20 q21 3 (some .int) ⟨0, 0, 0, 0⟩ #[.int 8, .int 0] h0 [] (Q96 Z  h0 n0) := by
  refine own_body (Jvm.Free.JP.mathPlain rfl (by decide +kernel)) ?_
  intro p e s m below meth c s₁ A hx hml hown hnm hlk hret hZ X0 e0 k0
  replace k0 := own_ent (ef_96 m 8 0) k0
  have N0 := Fr.nil n0
  have k1 := fun t_ ht_ => k0 t_ (o_iloadN X0 hx d21_0 rfl (o_iloadN X0 hx d21_1 rfl (o_iadd X0 hx d21_2 (rfl : _ = (8 : Int32)) (o_istoreN X0 hx d21_3 #[Li 8, Li 0, Li 8] rfl (o_iloadN X0 hx d21_4 rfl (o_iloadN X0 hx d21_5 rfl (o_ixor X0 hx d21_6 rfl (o_iloadN X0 hx d21_7 rfl (o_iloadN X0 hx d21_8 rfl (o_ixor X0 hx d21_9 rfl (o_iand X0 hx d21_10 rfl (o_ifYes X0 hx d21_11 ((if0 _ _).trans (flt (by decide)).2.1) 24 (o_iloadN X0 hx d21_24 rfl ht_)))))))))))))
  exact o_retI X0 hx k1 hlk hret d21_25 (by rw [e0]; exact ⟨congrArg (fun z => some (Value.int z)) (show (8 : Int32) = (8 : Int32) from by decide), N0, rfl⟩)
theorem ef_94 (m : MethodId) (x0 : Addr) (x1 x2 : Int32) : entryFrame m #[.ref x0, .int x1, .int x2] 5 = mkF m 0 #[Lr x0, Li x1, Li x2, Lu, Lu] [] := by first | (simp [entryFrame, mkF, argsToLocals, Value.category]; done) | rfl
def Q94 (Z : State) (eno dco iso utf tbd tbe : Addr) (kd ke : ClassId) (G1 : Int32) (fm : Value) (h0 : Heap) (n0 : Nat) (v : Option Value) (h : Heap) (L : List Loc) : Prop := v = some (.int (8 : Int32)) ∧ Fr n0 L ∧ h = h0
set_option maxRecDepth 65536 in
set_option maxHeartbeats 40000000 in
theorem rm94 (hw : own_W a0 Z) (eno dco iso utf tbd tbe : Addr) (kd ke : ClassId) (G1 : Int32) (fm : Value) (h0 : Heap) (n0 : Nat) (Z0 : n0 ≤ h0.size) (hG : own_G Z dco eno iso utf tbd tbe kd ke G1 fm) (X00 : Old Z n0 h0) :
    own_MH l Z yy21 q19 5 (some .int) [(2, 79, 82, 33)] ⟨1, 0, 0, 15⟩ #[.ref eno, .int 6, .int 1] h0 [] (Q94 Z eno dco iso utf tbd tbe kd ke G1 fm h0 n0) := by
  refine own_bodyH (plainFor_of_name pn_3) ?_
  intro p e s m below meth c s₁ A hx hml hown hnm hlk hret hZ X0 e0 k0
  replace k0 := own_ent (ef_94 m eno 6 1) k0
  have N0 := Fr.nil n0
  obtain ⟨sD, sE, eD, eE, fDu, fDm, fEp, fEl, fEu, sI, sU, iu, sTd, sTe, aTd, aTe, sC, gC, sS, fmr⟩ := id hG
  have od1 := fEp.ext X00.2
  have k2 := fun t_ ht_ => k0 t_ (o_iconst X0 hx d19_0 0 rfl (o_istoreN X0 hx d19_1 #[Lr eno, Li 6, Li 1, Li 0, Lu] rfl (o_aloadN X0 hx d19_2 rfl rfl ht_)))
  obtain ⟨T3, X3, e3, k3⟩ := o_getF X0 hx hZ k2 hown (host := "") (Or.inl (hw 123 rfl)) Via.refl e0 od1 d19_3
  have k4 := fun t_ ht_ => k3 t_ (o_ifYes X3 hx d19_6 ((if0 _ _).trans (teq (by decide)).1) 24 (o_iloadN X3 hx d19_24 rfl (o_iconst X3 hx d19_25 3 rfl (o_irem X3 hx d19_26 (by decide) ht_))))
  rw [show ((6 : Int32) - ((6 : Int32) / (3 : Int32)) * (3 : Int32)) = (0 : Int32) from by decide] at k4
  have k5 := fun t_ ht_ => k4 t_ (o_istore X3 hx d19_27 #[Lr eno, Li 6, Li 1, Li 0, Li 0] rfl (o_iconst X3 hx d19_29 4 rfl (o_iloadN X3 hx d19_30 rfl (o_iconst X3 hx d19_31 3 rfl (o_idiv X3 hx d19_32 (by decide) ht_)))))
  rw [show ((6 : Int32) / (3 : Int32)) = (2 : Int32) from by decide] at k5
  obtain ⟨_, T6, Lc6, X6, hQ6, k6⟩ := o_callSM X3 hx hZ k5 yy19 hown (hw 125 rfl) (hw 126 rfl) (hw 127 rfl) (hw 128 rfl) (rm95 hw h0 n0 Z0) 0 [.int 4, .int 2] [] (lenOf pd_12 rfl) hml e3 d19_33
  obtain ⟨rfl, Nq6, e6⟩ := hQ6
  have N6 := Fr.app N0 Nq6
  replace k6 := own_pushR k6
  have k7 := fun t_ ht_ => k6 t_ (o_iload X6 hx d19_36 rfl (o_ifNo X6 hx d19_38 ((if0 _ _).trans (teq (by decide)).2) (o_iconst X6 hx d19_41 0 rfl (o_goto X6 hx d19_42 49 ht_))))
  obtain ⟨_, T8, Lc8, X8, hQ8, k8⟩ := o_callSM X6 hx hZ k7 yy20 hown (hw 129 rfl) (hw 130 rfl) (hw 127 rfl) (hw 131 rfl) (rm96 hw h0 n0 Z0) 0 [.int 8, .int 0] [] (lenOf pd_12 rfl) hml e6 d19_49
  obtain ⟨rfl, Nq8, e8⟩ := hQ8
  have N8 := Fr.app N6 Nq8
  replace k8 := own_pushR k8
  have od9 := fEl.ext X00.2
  have k10 := fun t_ ht_ => k8 t_ (o_istoreN X8 hx d19_52 #[Lr eno, Li 6, Li 1, Li 8, Li 0] rfl (o_aloadN X8 hx d19_53 rfl rfl ht_))
  obtain ⟨T11, X11, e11, k11⟩ := o_getF X8 hx hZ k10 hown (host := "") (Or.inl (hw 132 rfl)) Via.refl e8 od9 d19_54
  have k12 := fun t_ ht_ => k11 t_ (o_ifYes X11 hx d19_57 ((if0 _ _).trans (flt (by decide)).2.2.2) 79 (o_goto X11 hx d19_79 100 (o_iloadN X11 hx d19_100 rfl ht_)))
  exact o_retI X11 hx k12 hlk hret d19_101 (by rw [e11]; exact ⟨rfl, N8, rfl⟩)
theorem ef_98 (m : MethodId) (x0 x1 : Int32) : entryFrame m #[.int x0, .int x1] 2 = mkF m 0 #[Li x0, Li x1] [] := by first | (simp [entryFrame, mkF, argsToLocals, Value.category]; done) | rfl
def Q98 (Z : State)  (h0 : Heap) (n0 : Nat) (v : Option Value) (h : Heap) (L : List Loc) : Prop := v = some (.int (6 : Int32)) ∧ Fr n0 L ∧ h = h0
set_option maxRecDepth 65536 in
set_option maxHeartbeats 40000000 in
theorem rm98 (hw : own_W a0 Z)  (h0 : Heap) (n0 : Nat) (Z0 : n0 ≤ h0.size) :
    own_M l Z yy26 q26 2 (some .int) ⟨0, 0, 0, 0⟩ #[.int 6, .int 6] h0 [] (Q98 Z  h0 n0) := by
  refine own_body (Jvm.Free.JP.mathPlain rfl (by decide +kernel)) ?_
  intro p e s m below meth c s₁ A hx hml hown hnm hlk hret hZ X0 e0 k0
  replace k0 := own_ent (ef_98 m 6 6) k0
  have N0 := Fr.nil n0
  have k1 := fun t_ ht_ => k0 t_ (o_iloadN X0 hx d26_0 rfl (o_iloadN X0 hx d26_1 rfl (o_icmpNo X0 hx d26_2 (flt (by decide)).2.2.1 (o_iloadN X0 hx d26_5 rfl (o_goto X0 hx d26_6 10 ht_)))))
  exact o_retI X0 hx k1 hlk hret d26_10 (by rw [e0]; exact ⟨congrArg (fun z => some (Value.int z)) (show (6 : Int32) = (6 : Int32) from by decide), N0, rfl⟩)
theorem ef_97 (m : MethodId) (x0 x1 : Addr) (x2 x3 : Int32) (x4 : Addr) : entryFrame m #[.ref x0, .ref x1, .int x2, .int x3, .ref x4] 16 = mkF m 0 #[Lr x0, Lr x1, Li x2, Li x3, Lr x4, Lu, Lu, Lu, Lu, Lu, Lu, Lu, Lu, Lu, Lu, Lu] [] := by first | (simp [entryFrame, mkF, argsToLocals, Value.category]; done) | rfl
def Q97 (Z : State) (eno ar ds dco iso utf tbd tbe : Addr) (kd ke : ClassId) (G1 : Int32) (fm : Value) (kb kc : ClassId) (B0 B1 B2 B3 B4 B5 v0 v1 v2 v3 v4 v5 v6 v7 r0 r1 r2 r3 r4 r5 r6 r7 y0 y1 y2 y3 y4 y5 : Int32) (h0 : Heap) (n0 : Nat) (v : Option Value) (h : Heap) (L : List Loc) : Prop := v = some (.int (8 : Int32)) ∧ Fr n0 L ∧ Keep h0 h [ds] ∧ Arv Z h ds kc .byte (8 : Int32) [.int r0, .int r1, .int r2, .int r3, .int r4, .int r5, .int r6, .int r7] (.int 0)
set_option maxRecDepth 65536 in
set_option maxHeartbeats 40000000 in
theorem rm97 (hw : own_W a0 Z) (eno ar ds dco iso utf tbd tbe : Addr) (kd ke : ClassId) (G1 : Int32) (fm : Value) (kb kc : ClassId) (B0 B1 B2 B3 B4 B5 v0 v1 v2 v3 v4 v5 v6 v7 r0 r1 r2 r3 r4 r5 r6 r7 y0 y1 y2 y3 y4 y5 : Int32) (h0 : Heap) (n0 : Nat) (Z0 : n0 ≤ h0.size) (hG : own_G Z dco eno iso utf tbd tbe kd ke G1 fm) (X00 : Old Z n0 h0) (Va : Arv Z h0 ar kb .byte (6 : Int32) [.int y0, .int y1, .int y2, .int y3, .int y4, .int y5] (.int 0)) (Vd : Arv Z h0 ds kc .byte (8 : Int32) [.int (0 : Int32), .int (0 : Int32), .int (0 : Int32), .int (0 : Int32), .int (0 : Int32), .int (0 : Int32), .int (0 : Int32), .int (0 : Int32)] (.int 0)) (hne : ar ≠ ds) (g_ds : n0 ≤ ds) (hD : own_D 6 B0 B1 B2 B3 B4 B5 v0 v1 v2 v3 v4 v5 v6 v7 r0 r1 r2 r3 r4 r5 r6 r7) (hs0 : own_SB y0 B0) (hs1 : own_SB y1 B1) (hs2 : own_SB y2 B2) (hs3 : own_SB y3 B3) (hs4 : own_SB y4 B4) (hs5 : own_SB y5 B5) :
    own_M l Z yy22 q22 16 (some .int) ⟨1, 0, 0, 22⟩ #[.ref eno, .ref ar, .int 0, .int 6, .ref ds] h0 [] (Q97 Z eno ar ds dco iso utf tbd tbe kd ke G1 fm kb kc B0 B1 B2 B3 B4 B5 v0 v1 v2 v3 v4 v5 v6 v7 r0 r1 r2 r3 r4 r5 r6 r7 y0 y1 y2 y3 y4 y5 h0 n0) := by
  refine own_body (plainFor_of_name pn_3) ?_
  intro p e s m below meth c s₁ A hx hml hown hnm hlk hret hZ X0 e0 k0
  replace k0 := own_ent (ef_97 m eno ar 0 6 ds) k0
  have N0 := Fr.nil n0
  have KK : Keep h0 h0 [ds] := Keep.refl h0 [ds]
  obtain ⟨sD, sE, eD, eE, fDu, fDm, fEp, fEl, fEu, sI, sU, iu, sTd, sTe, aTd, aTe, sC, gC, sS, fmr⟩ := id hG
  obtain ⟨hq0, hq1, hc0, hc1, hc2, hc3, hc4, hc5, hc6, hc7, hz1, hz2, hz4, hz5⟩ := id hD
  have od1 := fEu.ext X00.2
  have k2 := fun t_ ht_ => k0 t_ (o_aloadN X0 hx d22_0 rfl rfl ht_)
  obtain ⟨T3, X3, e3, k3⟩ := o_getF X0 hx hZ k2 hown (host := "") (Or.inl (hw 139 rfl)) Via.refl e0 od1 d22_1
  have k4 := fun t_ ht_ => k3 t_ (o_ifNo X3 hx d22_4 ((if0 _ _).trans (feq (by decide)).1) ht_)
  obtain ⟨T5, X5, e5, k5⟩ := o_getS X3 hx hZ k4 hown (host := "") (Or.inl (hw 141 rfl)) Via.refl e3 (sTe.ext X00.2) d22_7
  have k6 := fun t_ ht_ => k5 t_ (o_goto X5 hx d22_10 16 (o_astore X5 hx d22_16 #[Lr eno, Lr ar, Li 0, Li 6, Lr ds, Lr tbe, Lu, Lu, Lu, Lu, Lu, Lu, Lu, Lu, Lu, Lu] rfl rfl (o_iloadN X5 hx d22_18 rfl (o_istore X5 hx d22_19 #[Lr eno, Lr ar, Li 0, Li 6, Lr ds, Lr tbe, Li 0, Lu, Lu, Lu, Lu, Lu, Lu, Lu, Lu, Lu] rfl (o_iloadN X5 hx d22_21 rfl (o_iloadN X5 hx d22_22 rfl (o_isub X5 hx d22_23 (rfl : _ = (6 : Int32)) (o_iconst X5 hx d22_24 3 rfl (o_idiv X5 hx d22_25 (by decide) ht_)))))))))
  rw [show ((6 : Int32) / (3 : Int32)) = (2 : Int32) from by decide] at k6
  have od7 := fEl.ext X00.2
  have k8 := fun t_ ht_ => k6 t_ (o_iconst X5 hx d22_26 3 rfl (o_imul X5 hx d22_27 (rfl : _ = (6 : Int32)) (o_istore X5 hx d22_28 #[Lr eno, Lr ar, Li 0, Li 6, Lr ds, Lr tbe, Li 0, Li 6, Lu, Lu, Lu, Lu, Lu, Lu, Lu, Lu] rfl (o_iloadN X5 hx d22_30 rfl (o_iload X5 hx d22_31 rfl (o_iadd X5 hx d22_33 (rfl : _ = (6 : Int32)) (o_istore X5 hx d22_34 #[Lr eno, Lr ar, Li 0, Li 6, Lr ds, Lr tbe, Li 0, Li 6, Li 6, Lu, Lu, Lu, Lu, Lu, Lu, Lu] rfl (o_aloadN X5 hx d22_36 rfl rfl ht_))))))))
  obtain ⟨T9, X9, e9, k9⟩ := o_getF X5 hx hZ k8 hown (host := "") (Or.inl (hw 132 rfl)) Via.refl e5 od7 d22_37
  have k10 := fun t_ ht_ => k9 t_ (o_ifYes X9 hx d22_40 ((if0 _ _).trans (flt (by decide)).2.2.2) 66 (o_iconst X9 hx d22_66 0 rfl (o_istore X9 hx d22_67 #[Lr eno, Lr ar, Li 0, Li 6, Lr ds, Lr tbe, Li 0, Li 6, Li 6, Li 0, Lu, Lu, Lu, Lu, Lu, Lu] rfl (o_iload X9 hx d22_69 rfl (o_iload X9 hx d22_71 rfl (o_icmpNo X9 hx d22_73 (tlt (by decide)).2.1 (o_iload X9 hx d22_76 rfl (o_iload X9 hx d22_78 rfl (o_iadd X9 hx d22_80 (rfl : _ = (6 : Int32)) (o_iload X9 hx d22_81 rfl ht_))))))))))
  obtain ⟨_, T11, Lc11, X11, hQ11, k11⟩ := o_callSM X9 hx hZ k10 yy26 hown (hw 173 rfl) (hw 174 rfl) (hw 127 rfl) (hw 175 rfl) (rm98 hw h0 n0 Z0) 0 [.int 6, .int 6] [] (lenOf pd_12 rfl) hml e9 d22_83
  obtain ⟨rfl, Nq11, e11⟩ := hQ11
  have N11 := Fr.app N0 Nq11
  replace k11 := own_pushR k11
  have k12 := fun t_ ht_ => k11 t_ (o_istore X11 hx d22_86 #[Lr eno, Lr ar, Li 0, Li 6, Lr ds, Lr tbe, Li 0, Li 6, Li 6, Li 0, Li 6, Lu, Lu, Lu, Lu, Lu] rfl (o_aloadN X11 hx d22_88 rfl rfl (o_aloadN X11 hx d22_89 rfl rfl (o_iload X11 hx d22_90 rfl (o_iload X11 hx d22_92 rfl (o_aload X11 hx d22_94 rfl rfl (o_iload X11 hx d22_96 rfl (o_aloadN X11 hx d22_98 rfl rfl ht_))))))))
  obtain ⟨T13, X13, e13, k13⟩ := o_getF X11 hx hZ k12 hown (host := "") (Or.inl (hw 139 rfl)) Via.refl e11 od1 d22_99
  have od14 := eE.ext X00.2
  obtain ⟨_, T15, Lc15, X15, hQ15, k15⟩ := o_privateM X13 hx hZ k13 yy8 hown (hw 176 rfl) (hw 177 rfl) (hw 179 rfl) (hw 178 rfl) (hw 180 rfl) (rm30 hw eno ar ds dco iso utf tbd tbe kd ke G1 fm kb kc B0 B1 B2 B3 B4 B5 v0 v1 v2 v3 v4 v5 v6 v7 r0 r1 r2 r3 r4 r5 r6 r7 y0 y1 y2 y3 y4 y5 h0 n0 Z0 hG X00 Va Vd hne g_ds hD hs0 hs1 hs2 hs3 hs4 hs5) (hw 111 rfl) 0 od14 [.ref ar, .int 0, .int 6, .ref ds, .int 0, .int 1] [] (lenOf pd_18 rfl) hml e13 d22_102
  obtain ⟨rfl, Nq15, Kb, Vb⟩ := hQ15
  have N15 := Fr.app N11 Nq15
  replace k15 := own_pushV k15
  replace X00 := X00.keep Kb (by simpa using g_ds)
  replace Va := Va.keep Kb (by simpa using hne)
  have Zs15 := Nat.le_trans Z0 Kb.1
  replace KK := KK.trans Kb (fun x q => Or.inl q)
  have k16 := fun t_ ht_ => k15 t_ (o_iload X15 hx d22_105 rfl (o_iload X15 hx d22_107 rfl (o_isub X15 hx d22_109 (rfl : _ = (6 : Int32)) (o_iconst X15 hx d22_110 3 rfl (o_idiv X15 hx d22_111 (by decide) ht_)))))
  rw [show ((6 : Int32) / (3 : Int32)) = (2 : Int32) from by decide] at k16
  have od17 := fEl.ext X00.2
  have k18 := fun t_ ht_ => k16 t_ (o_iconst X15 hx d22_112 4 rfl (o_imul X15 hx d22_113 (rfl : _ = (8 : Int32)) (o_istore X15 hx d22_114 #[Lr eno, Lr ar, Li 0, Li 6, Lr ds, Lr tbe, Li 0, Li 6, Li 6, Li 0, Li 6, Li 8, Lu, Lu, Lu, Lu] rfl (o_iload X15 hx d22_116 rfl (o_iload X15 hx d22_118 rfl (o_iadd X15 hx d22_120 (rfl : _ = (8 : Int32)) (o_istore X15 hx d22_121 #[Lr eno, Lr ar, Li 0, Li 6, Lr ds, Lr tbe, Li 0, Li 6, Li 6, Li 8, Li 6, Li 8, Lu, Lu, Lu, Lu] rfl (o_iload X15 hx d22_123 rfl (o_istore X15 hx d22_125 #[Lr eno, Lr ar, Li 0, Li 6, Lr ds, Lr tbe, Li 6, Li 6, Li 6, Li 8, Li 6, Li 8, Lu, Lu, Lu, Lu] rfl (o_iload X15 hx d22_127 rfl (o_aloadN X15 hx d22_129 rfl rfl ht_)))))))))))
  obtain ⟨T19, X19, e19, k19⟩ := o_getF X15 hx hZ k18 hown (host := "") (Or.inl (hw 132 rfl)) Via.refl rfl od17 d22_130
  have k20 := fun t_ ht_ => k19 t_ (o_icmpYes X19 hx d22_133 (feq (by decide)).2 186 (o_goto X19 hx d22_186 69 (o_iload X19 hx d22_69 rfl (o_iload X19 hx d22_71 rfl (o_icmpYes X19 hx d22_73 (flt (by decide)).2.1 189 (o_iload X19 hx d22_189 rfl (o_iloadN X19 hx d22_191 rfl (o_icmpYes X19 hx d22_192 (flt (by decide)).2.1 352 (o_iload X19 hx d22_352 rfl ht_)))))))))
  exact o_retI X19 hx k20 hlk hret d22_354 (by rw [e19]; exact ⟨rfl, N15, KK, Vb⟩)
theorem ef_99 (m : MethodId) (x0 x1 : Addr) : entryFrame m #[.ref x0, .ref x1] 5 = mkF m 0 #[Lr x0, Lr x1, Lu, Lu, Lu] [] := by first | (simp [entryFrame, mkF, argsToLocals, Value.category]; done) | rfl
def Q99 (Z : State) (eno ar dco iso utf tbd tbe : Addr) (kd ke : ClassId) (G1 : Int32) (fm : Value) (kb : ClassId) (B0 B1 B2 B3 B4 B5 v0 v1 v2 v3 v4 v5 v6 v7 r0 r1 r2 r3 r4 r5 r6 r7 y0 y1 y2 y3 y4 y5 : Int32) (h0 : Heap) (n0 : Nat) (v : Option Value) (h : Heap) (L : List Loc) : Prop := ∃ (ds : Addr) (kc : ClassId), v = some (.ref ds) ∧ Fr n0 L ∧ Keep h0 h [] ∧ Arv Z h ds kc .byte (8 : Int32) [.int r0, .int r1, .int r2, .int r3, .int r4, .int r5, .int r6, .int r7] (.int 0) ∧ Exa Z h ds "[B" ∧ h0.size ≤ ds
set_option maxRecDepth 65536 in
set_option maxHeartbeats 40000000 in
theorem rm99 (hw : own_W a0 Z) (eno ar dco iso utf tbd tbe : Addr) (kd ke : ClassId) (G1 : Int32) (fm : Value) (kb : ClassId) (B0 B1 B2 B3 B4 B5 v0 v1 v2 v3 v4 v5 v6 v7 r0 r1 r2 r3 r4 r5 r6 r7 y0 y1 y2 y3 y4 y5 : Int32) (h0 : Heap) (n0 : Nat) (Z0 : n0 ≤ h0.size) (hG : own_G Z dco eno iso utf tbd tbe kd ke G1 fm) (X00 : Old Z n0 h0) (Va : Arv Z h0 ar kb .byte (6 : Int32) [.int y0, .int y1, .int y2, .int y3, .int y4, .int y5] (.int 0)) (hD : own_D 6 B0 B1 B2 B3 B4 B5 v0 v1 v2 v3 v4 v5 v6 v7 r0 r1 r2 r3 r4 r5 r6 r7) (hs0 : own_SB y0 B0) (hs1 : own_SB y1 B1) (hs2 : own_SB y2 B2) (hs3 : own_SB y3 B3) (hs4 : own_SB y4 B4) (hs5 : own_SB y5 B5) :
    own_M l Z yy23 q23 5 (some (.array .byte)) ⟨2, 1, 8, 49⟩ #[.ref eno, .ref ar] h0 [] (Q99 Z eno ar dco iso utf tbd tbe kd ke G1 fm kb B0 B1 B2 B3 B4 B5 v0 v1 v2 v3 v4 v5 v6 v7 r0 r1 r2 r3 r4 r5 r6 r7 y0 y1 y2 y3 y4 y5 h0 n0) := by
  refine own_body (plainFor_of_name pn_3) ?_
  intro p e s m below meth c s₁ A hx hml hown hnm hlk hret hZ X0 e0 k0
  replace k0 := own_ent (ef_99 m eno ar) k0
  have N0 := Fr.nil n0
  have KK : Keep h0 h0 [] := Keep.refl h0 []
  obtain ⟨sD, sE, eD, eE, fDu, fDm, fEp, fEl, fEu, sI, sU, iu, sTd, sTe, aTd, aTe, sC, gC, sS, fmr⟩ := id hG
  obtain ⟨hq0, hq1, hc0, hc1, hc2, hc3, hc4, hc5, hc6, hc7, hz1, hz2, hz4, hz5⟩ := id hD
  have od1 := eE.ext X00.2
  have k2 := fun t_ ht_ => k0 t_ (o_aloadN X0 hx d23_0 rfl rfl (o_aloadN X0 hx d23_1 rfl rfl (o_len X0 hx hZ d23_2 e0 Va (o_iconst X0 hx d23_3 1 rfl ht_))))
  obtain ⟨_, T3, Lc3, X3, hQ3, k3⟩ := o_privateH X0 hx hZ k2 yy21 hown (hw 118 rfl) (hw 119 rfl) (hw 121 rfl) (hw 120 rfl) (hw 122 rfl) (backOfWith (W := 0) (rm94 hw eno dco iso utf tbd tbe kd ke G1 fm h0 n0 Z0 hG X00) hZ (hw 122 rfl) (hw 111 rfl) (by decide) (by decide)) od1 [.int 6, .int 1] [] (lenOf pd_13 rfl) hml e0 d23_4
  obtain ⟨rfl, Nq3, e3⟩ := hQ3
  have N3 := Fr.app N0 Nq3
  replace k3 := own_pushR k3
  have k4 := fun t_ ht_ => k3 t_ (o_istoreN X3 hx d23_7 #[Lr eno, Lr ar, Li 8, Lu, Lu] rfl (o_iloadN X3 hx d23_8 rfl ht_))
  obtain ⟨T5, h5, c5, X5, e5, E5, Ax5, Bx5, k5⟩ := o_newP X3 hx hZ k4 (hw 27 rfl) e3 (by decide) 8 (by decide) "[B" d23_9
  obtain ⟨b5, g5⟩ : ∃ z, z = h0.size := ⟨_, rfl⟩
  rw [← g5] at Ax5 Bx5 k5
  have ne_ar_b5 : ar ≠ b5 := Nat.ne_of_lt (Nat.lt_of_lt_of_le Va.lt (Nat.le_of_eq g5.symm))
  have g_b5 : n0 ≤ b5 := Nat.le_trans Z0 (Nat.le_of_eq g5.symm)
  have sz_b5 : h0.size ≤ b5 := Nat.le_trans KK.1 (Nat.le_of_eq g5.symm)
  replace X00 : Old Z n0 h5 := ⟨X00.1, Nat.le_trans X00.2.1 E5.1, fun x c r => E5.2 x c (X00.2.2 x c r)⟩
  replace Va := Va.ext E5
  have Zs5 := Nat.le_trans Z0 E5.1
  replace KK := KK.ext E5
  have Ex_b5 := Bx5
  have V_b5 : Arv Z h5 b5 c5 .byte 8 [.int 0, .int 0, .int 0, .int 0, .int 0, .int 0, .int 0, .int 0] (.int 0) := (Arv.new Ax5 (by decide)).pad (pad_rep [] (.int 0) 8)
  have od6 := eE.ext X00.2
  have k7 := fun t_ ht_ => k5 t_ (o_astoreN X5 hx d23_11 #[Lr eno, Lr ar, Li 8, Lr b5, Lu] rfl rfl (o_aloadN X5 hx d23_12 rfl rfl (o_aloadN X5 hx d23_13 rfl rfl (o_iconst X5 hx d23_14 0 rfl (o_aloadN X5 hx d23_15 rfl rfl (o_len X5 hx hZ d23_16 e5 Va (o_aloadN X5 hx d23_17 rfl rfl ht_)))))))
  obtain ⟨_, T8, Lc8, X8, hQ8, k8⟩ := o_privateM X5 hx hZ k7 yy22 hown (hw 134 rfl) (hw 135 rfl) (hw 137 rfl) (hw 136 rfl) (hw 138 rfl) (rm97 hw eno ar b5 dco iso utf tbd tbe kd ke G1 fm kb c5 B0 B1 B2 B3 B4 B5 v0 v1 v2 v3 v4 v5 v6 v7 r0 r1 r2 r3 r4 r5 r6 r7 y0 y1 y2 y3 y4 y5 h5 n0 Zs5 hG X00 Va V_b5 ne_ar_b5 g_b5 hD hs0 hs1 hs2 hs3 hs4 hs5) (hw 111 rfl) 0 od6 [.ref ar, .int 0, .int 6, .ref b5] [] (lenOf pd_9 rfl) hml e5 d23_18
  obtain ⟨rfl, Nq8, K1, V1⟩ := hQ8
  have N8 := Fr.app N3 Nq8
  replace k8 := own_pushR k8
  replace X00 := X00.keep K1 (by simpa using g_b5)
  replace Va := Va.keep K1 (by simpa using ne_ar_b5)
  replace Ex_b5 := Ex_b5.keep K1
  have Zs8 := Nat.le_trans Zs5 K1.1
  replace KK := KK.trans K1 (fun x q => by cases List.mem_singleton.mp q; exact Or.inr sz_b5)
  have k9 := fun t_ ht_ => k8 t_ (o_istore X8 hx d23_21 #[Lr eno, Lr ar, Li 8, Lr b5, Li 8] rfl (o_iload X8 hx d23_23 rfl (o_aloadN X8 hx d23_25 rfl rfl (o_len X8 hx hZ d23_26 rfl V1 (o_icmpYes X8 hx d23_27 (teq (by decide)).1 37 (o_aloadN X8 hx d23_37 rfl rfl ht_))))))
  exact o_retA X8 hx k9 hlk hret rfl d23_38 (by exact ⟨b5, c5, rfl, N8, KK, V1, Ex_b5, sz_b5⟩)
theorem ef_100 (m : MethodId) (x0 x1 : Addr) : entryFrame m #[.ref x0, .ref x1] 3 = mkF m 0 #[Lr x0, Lr x1, Lu] [] := by first | (simp [entryFrame, mkF, argsToLocals, Value.category]; done) | rfl
def Q100 (Z : State) (eno ar dco iso utf tbd tbe : Addr) (kd ke : ClassId) (G1 : Int32) (fm : Value) (kb : ClassId) (B0 B1 B2 B3 B4 B5 v0 v1 v2 v3 v4 v5 v6 v7 r0 r1 r2 r3 r4 r5 r6 r7 y0 y1 y2 y3 y4 y5 : Int32) (h0 : Heap) (n0 : Nat) (v : Option Value) (h : Heap) (L : List Loc) : Prop := ∃ (so cr : Addr) (kc : ClassId), v = some (.ref so) ∧ Fr n0 L ∧ Keep h0 h [] ∧ Exa Z h so "java/lang/String" ∧ Fld Z h so "java/lang/String" "coder" "B" (.int 0) ∧ Fld Z h so "java/lang/String" "value" "[B" (.ref cr) ∧ Arv Z h cr kc .byte (8 : Int32) [.int r0, .int r1, .int r2, .int r3, .int r4, .int r5, .int r6, .int r7] (.int 0) ∧ h0.size ≤ so
set_option maxRecDepth 65536 in
set_option maxHeartbeats 40000000 in
theorem rm100 (hw : own_W a0 Z) (eno ar dco iso utf tbd tbe : Addr) (kd ke : ClassId) (G1 : Int32) (fm : Value) (kb : ClassId) (B0 B1 B2 B3 B4 B5 v0 v1 v2 v3 v4 v5 v6 v7 r0 r1 r2 r3 r4 r5 r6 r7 y0 y1 y2 y3 y4 y5 : Int32) (h0 : Heap) (n0 : Nat) (Z0 : n0 ≤ h0.size) (hG : own_G Z dco eno iso utf tbd tbe kd ke G1 fm) (X00 : Old Z n0 h0) (Va : Arv Z h0 ar kb .byte (6 : Int32) [.int y0, .int y1, .int y2, .int y3, .int y4, .int y5] (.int 0)) (hD : own_D 6 B0 B1 B2 B3 B4 B5 v0 v1 v2 v3 v4 v5 v6 v7 r0 r1 r2 r3 r4 r5 r6 r7) (hs0 : own_SB y0 B0) (hs1 : own_SB y1 B1) (hs2 : own_SB y2 B2) (hs3 : own_SB y3 B3) (hs4 : own_SB y4 B4) (hs5 : own_SB y5 B5) :
    own_M l Z yy24 q24 3 (some (.object "java/lang/String")) ⟨3, 3, 20, 65⟩ #[.ref eno, .ref ar] h0 [] (Q100 Z eno ar dco iso utf tbd tbe kd ke G1 fm kb B0 B1 B2 B3 B4 B5 v0 v1 v2 v3 v4 v5 v6 v7 r0 r1 r2 r3 r4 r5 r6 r7 y0 y1 y2 y3 y4 y5 h0 n0) := by
  refine own_body (plainFor_of_name pn_3) ?_
  intro p e s m below meth c s₁ A hx hml hown hnm hlk hret hZ X0 e0 k0
  replace k0 := own_ent (ef_100 m eno ar) k0
  have N0 := Fr.nil n0
  have KK : Keep h0 h0 [] := Keep.refl h0 []
  obtain ⟨sD, sE, eD, eE, fDu, fDm, fEp, fEl, fEu, sI, sU, iu, sTd, sTe, aTd, aTe, sC, gC, sS, fmr⟩ := id hG
  obtain ⟨hq0, hq1, hc0, hc1, hc2, hc3, hc4, hc5, hc6, hc7, hz1, hz2, hz4, hz5⟩ := id hD
  have od1 := eE.ext X00.2
  have k2 := fun t_ ht_ => k0 t_ (o_aloadN X0 hx d24_0 rfl rfl (o_aloadN X0 hx d24_1 rfl rfl ht_))
  obtain ⟨_, T3, Lc3, X3, hQ3, k3⟩ := o_virtualM X0 hx hZ k2 yy23 hown (hw 113 rfl) yy23 (hw 114 rfl) (hw 116 rfl) (hw 115 rfl) rfl (rm99 hw eno ar dco iso utf tbd tbe kd ke G1 fm kb B0 B1 B2 B3 B4 B5 v0 v1 v2 v3 v4 v5 v6 v7 r0 r1 r2 r3 r4 r5 r6 r7 y0 y1 y2 y3 y4 y5 h0 n0 Z0 hG X00 Va hD hs0 hs1 hs2 hs3 hs4 hs5) (hw 117 rfl) (hw 111 rfl) 0 od1 [.ref ar] [] (lenOf pd_11 rfl) hml e0 d24_2
  obtain ⟨ds, kc, rfl, Nq3, K1, V1, E1, G1_⟩ := hQ3
  have N3 := Fr.app N0 Nq3
  replace k3 := own_pushR k3
  replace X00 := X00.keep K1 (by simp)
  replace Va := Va.keep K1 (by simp)
  have Zs3 := Nat.le_trans Z0 K1.1
  replace KK := KK.trans K1 (fun x q => nomatch q)
  have k4 := fun t_ ht_ => k3 t_ (o_astoreN X3 hx d24_5 #[Lr eno, Lr ar, Lr ds] rfl rfl ht_)
  obtain ⟨T5, h5, X5, e5, E5, A5, D5, k5⟩ := o_newO X3 hx hZ k4 hown (hw 142 rfl) (hw 10 rfl) (hw 11 rfl) rfl d24_6
  obtain ⟨b5, g5⟩ : ∃ z, z = T3.heap.size := ⟨_, rfl⟩
  rw [← g5] at A5 D5 k5
  have ne_ar_b5 : ar ≠ b5 := Nat.ne_of_lt (Nat.lt_of_lt_of_le Va.lt (Nat.le_of_eq g5.symm))
  have ne_ds_b5 : ds ≠ b5 := Nat.ne_of_lt (Nat.lt_of_lt_of_le V1.lt (Nat.le_of_eq g5.symm))
  have g_b5 : n0 ≤ b5 := Nat.le_trans Zs3 (Nat.le_of_eq g5.symm)
  have sz_b5 : h0.size ≤ b5 := Nat.le_trans KK.1 (Nat.le_of_eq g5.symm)
  replace X00 : Old Z n0 h5 := ⟨X00.1, Nat.le_trans X00.2.1 E5.1, fun x c r => E5.2 x c (X00.2.2 x c r)⟩
  replace Va := Va.ext E5
  replace V1 := V1.ext E5
  replace E1 := E1.ext E5
  have Zs5 := Nat.le_trans Zs3 E5.1
  replace KK := KK.ext E5
  have Ex_b5 := A5
  have F_coder_b5 : Fld Z h5 b5 "java/lang/String" "coder" "B" (.int 0) := D5 (Or.inr (hw 35 rfl)) (ty := .byte) (by decide)
  have F_value_b5 : Fld Z h5 b5 "java/lang/String" "value" "[B" (.null) := D5 (Or.inr (hw 37 rfl)) (ty := (.array .byte)) (by decide)
  have k6 := fun t_ ht_ => k5 t_ (o_dup X5 hx d24_9 rfl (o_aloadN X5 hx d24_10 rfl rfl (o_iconst X5 hx d24_11 0 rfl (o_iconst X5 hx d24_12 0 rfl (o_aloadN X5 hx d24_13 rfl rfl (o_len X5 hx hZ d24_14 e5 V1 ht_))))))
  obtain ⟨_, T7, Lc7, X7, hQ7, k7⟩ := o_specialM X5 hx hZ k6 yy12 rfl hown (hw 143 rfl) (hw 144 rfl) (hw 145 rfl) (rm34 hw b5 ds (8 : Int32) dco eno iso utf tbd tbe kd ke G1 fm kc _ h5 n0 Zs5 hG X00 Ex_b5 F_value_b5 F_coder_b5 V1 E1 (Ne.symm ne_ds_b5) g_b5 own_ln8) (hw 11 rfl) 1 b5 [.ref ds, .int 0, .int 0, .int 8] [.ref b5] (lenOf pd_14 rfl) hml e5 d24_15
  obtain ⟨cr, rfl, Nq7, K2, E2, Fc, Fv, V2, E3, G2⟩ := hQ7
  have N7 := Fr.app N3 Nq7
  replace k7 := own_pushV k7
  have sz_cr : h0.size ≤ cr := Nat.le_trans KK.1 G2
  replace X00 := X00.keep K2 (by simpa using g_b5)
  replace Va := Va.keep K2 (by simpa using ne_ar_b5)
  replace V1 := V1.keep K2 (by simpa using ne_ds_b5)
  replace E1 := E1.keep K2
  replace Ex_b5 := Ex_b5.keep K2
  have Zs7 := Nat.le_trans Zs5 K2.1
  replace KK := KK.trans K2 (fun x q => by cases List.mem_singleton.mp q; exact Or.inr sz_b5)
  exact o_retA X7 hx k7 hlk hret rfl d24_18 (by exact ⟨b5, cr, kc, rfl, N7, KK, E2, Fc, Fv, V2, sz_b5⟩)
theorem ef_101 (m : MethodId) (x0 : Addr) : entryFrame m #[.ref x0] 2 = mkF m 0 #[Lr x0, Lu] [] := by first | (simp [entryFrame, mkF, argsToLocals, Value.category]; done) | rfl
def Q101 (Z : State) (a1 dco eno iso utf tbd tbe : Addr) (kd ke : ClassId) (G1 : Int32) (fm : Value) (ar : Addr) (kb : ClassId) (B0 B1 B2 B3 B4 B5 v0 v1 v2 v3 v4 v5 v6 v7 r0 r1 r2 r3 r4 r5 r6 r7 : Int32) (h0 : Heap) (n0 : Nat) (v : Option Value) (h : Heap) (L : List Loc) : Prop := ∃ (ds : Addr) (kc : ClassId) (y0 y1 y2 y3 y4 y5 : Int32), v = some (.ref ds) ∧ Fr n0 L ∧ Keep h0 h [] ∧ Arv Z h ds kc .byte (6 : Int32) [.int y0, .int y1, .int y2, .int y3, .int y4, .int y5] (.int 0) ∧ h0.size ≤ ds ∧ own_SB y0 B0 ∧ own_SB y1 B1 ∧ own_SB y2 B2 ∧ own_SB y3 B3 ∧ own_SB y4 B4 ∧ own_SB y5 B5
set_option maxRecDepth 65536 in
set_option maxHeartbeats 40000000 in
theorem rm101 (hw : own_W a0 Z) (a1 dco eno iso utf tbd tbe : Addr) (kd ke : ClassId) (G1 : Int32) (fm : Value) (ar : Addr) (kb : ClassId) (B0 B1 B2 B3 B4 B5 v0 v1 v2 v3 v4 v5 v6 v7 r0 r1 r2 r3 r4 r5 r6 r7 : Int32) (h0 : Heap) (n0 : Nat) (Z0 : n0 ≤ h0.size) (hG : own_G Z dco eno iso utf tbd tbe kd ke G1 fm) (X00 : Old Z n0 h0) (Es : Exa Z h0 a1 "java/lang/String") (Fc : Fld Z h0 a1 "java/lang/String" "coder" "B" (.int 0)) (Fv : Fld Z h0 a1 "java/lang/String" "value" "[B" (.ref ar)) (Va : Arv Z h0 ar kb .byte (8 : Int32) [.int r0, .int r1, .int r2, .int r3, .int r4, .int r5, .int r6, .int r7] (.int 0)) (Ea : Exa Z h0 ar "[B") (hD : own_D 6 B0 B1 B2 B3 B4 B5 v0 v1 v2 v3 v4 v5 v6 v7 r0 r1 r2 r3 r4 r5 r6 r7) :
    own_M l Z yy25 q25 2 (some (.array .byte)) ⟨6, 5, 34, 89⟩ #[.ref a1] h0 [] (Q101 Z a1 dco eno iso utf tbd tbe kd ke G1 fm ar kb B0 B1 B2 B3 B4 B5 v0 v1 v2 v3 v4 v5 v6 v7 r0 r1 r2 r3 r4 r5 r6 r7 h0 n0) := by
  refine own_body (plainFor_of_name pn_7) ?_
  intro p e s m below meth c s₁ A hx hml hown hnm hlk hret hZ X0 e0 k0
  replace k0 := own_ent (ef_101 m a1) k0
  have N0 := Fr.nil n0
  have KK : Keep h0 h0 [] := Keep.refl h0 []
  obtain ⟨sD, sE, eD, eE, fDu, fDm, fEp, fEl, fEu, sI, sU, iu, sTd, sTe, aTd, aTe, sC, gC, sS, fmr⟩ := id hG
  obtain ⟨hq0, hq1, hc0, hc1, hc2, hc3, hc4, hc5, hc6, hc7, hz1, hz2, hz4, hz5⟩ := id hD
  obtain ⟨T1, X1, e1, k1⟩ := o_getS X0 hx hZ k0 hown (host := "") (Or.inl (hw 42 rfl)) Via.refl e0 (sD.ext X00.2) d25_0
  have od2 := eD.ext X00.2
  have k3 := fun t_ ht_ => k1 t_ (o_aloadN X1 hx d25_3 rfl rfl ht_)
  obtain ⟨_, T4, Lc4, X4, hQ4, k4⟩ := o_virtualM X1 hx hZ k3 yy18 hown (hw 44 rfl) yy18 (hw 45 rfl) (hw 47 rfl) (hw 46 rfl) rfl (rm93 hw dco a1 eno iso utf tbd tbe kd ke G1 fm ar kb B0 B1 B2 B3 B4 B5 v0 v1 v2 v3 v4 v5 v6 v7 r0 r1 r2 r3 r4 r5 r6 r7 h0 n0 Z0 hG X00 Es Fc Fv Va Ea hD) (hw 49 rfl) (hw 48 rfl) 0 od2 [.ref a1] [] (lenOf pd_15 rfl) hml e1 d25_4
  obtain ⟨ds, kc, yo0, yo1, yo2, yo3, yo4, yo5, rfl, Nq4, K1, V1, G1_, g_ds, sb0, sb1, sb2, sb3, sb4, sb5⟩ := hQ4
  have N4 := Fr.app N0 Nq4
  replace k4 := own_pushR k4
  have sz_ds : h0.size ≤ ds := Nat.le_trans KK.1 G1_
  replace X00 := X00.keep K1 (by simp)
  replace Es := Es.keep K1
  replace Fc := Fc.keep K1 (by simp)
  replace Fv := Fv.keep K1 (by simp)
  replace Va := Va.keep K1 (by simp)
  replace Ea := Ea.keep K1
  have Zs4 := Nat.le_trans Z0 K1.1
  replace KK := KK.trans K1 (fun x q => nomatch q)
  have k5 := fun t_ ht_ => k4 t_ (o_astoreN X4 hx d25_7 #[Lr a1, Lr ds] rfl rfl ht_)
  obtain ⟨T6, X6, e6, k6⟩ := o_getS X4 hx hZ k5 hown (host := "") (Or.inl (hw 105 rfl)) Via.refl rfl (sE.ext X00.2) d25_8
  have od7 := eE.ext X00.2
  have k8 := fun t_ ht_ => k6 t_ (o_aloadN X6 hx d25_11 rfl rfl ht_)
  obtain ⟨_, T9, Lc9, X9, hQ9, k9⟩ := o_virtualM X6 hx hZ k8 yy24 hown (hw 107 rfl) yy24 (hw 108 rfl) (hw 110 rfl) (hw 109 rfl) rfl (rm100 hw eno ds dco iso utf tbd tbe kd ke G1 fm kc B0 B1 B2 B3 B4 B5 v0 v1 v2 v3 v4 v5 v6 v7 r0 r1 r2 r3 r4 r5 r6 r7 yo0 yo1 yo2 yo3 yo4 yo5 T4.heap n0 Zs4 hG X00 V1 hD sb0 sb1 sb2 sb3 sb4 sb5) (hw 112 rfl) (hw 111 rfl) 0 od7 [.ref ds] [] (lenOf pd_16 rfl) hml e6 d25_12
  obtain ⟨so, cr, kc2, rfl, Nq9, K2, E2, Fc2, Fv2, V2, G2⟩ := hQ9
  have N9 := Fr.app N4 Nq9
  replace k9 := own_pushR k9
  have ne_so : so ≠ a1 := Ne.symm (Nat.ne_of_lt (Nat.lt_of_lt_of_le Es.lt G2))
  replace X00 := X00.keep K2 (by simp)
  replace Es := Es.keep K2
  replace Fc := Fc.keep K2 (by simp)
  replace Fv := Fv.keep K2 (by simp)
  replace Va := Va.keep K2 (by simp)
  replace Ea := Ea.keep K2
  replace V1 := V1.keep K2 (by simp)
  have Zs9 := Nat.le_trans Zs4 K2.1
  replace KK := KK.trans K2 (fun x q => nomatch q)
  have k10 := fun t_ ht_ => k9 t_ (o_aloadN X9 hx d25_15 rfl rfl ht_)
  obtain ⟨_, T11, Lc11, X11, hQ11, k11⟩ := o_virtualM X9 hx hZ k10 yy14 hown (hw 160 rfl) yy14 (hw 161 rfl) (hw 163 rfl) (hw 162 rfl) rfl (rm36 hw so a1 dco eno iso utf tbd tbe kd ke G1 fm cr ar kc2 kb (8 : Int32) [r0, r1, r2, r3, r4, r5, r6, r7] T9.heap n0 Zs9 hG X00 E2 Fc2 Fv2 Es Fc Fv V2 Va ne_so) (hw 164 rfl) (hw 11 rfl) 0 E2 [.ref a1] [] (lenOf pd_17 rfl) hml rfl d25_16
  obtain ⟨rfl, Nq11, e11⟩ := hQ11
  have N11 := Fr.app N9 Nq11
  replace k11 := own_pushR k11
  have k12 := fun t_ ht_ => k11 t_ (o_ifYes X11 hx d25_19 ((if0 _ _).trans (feq (by decide)).2) 32 (o_aloadN X11 hx d25_32 rfl rfl ht_))
  exact o_retA X11 hx k12 hlk hret rfl d25_33 (by rw [e11]; exact ⟨ds, kc, yo0, yo1, yo2, yo3, yo4, yo5, rfl, N11, KK, V1, sz_ds, sb0, sb1, sb2, sb3, sb4, sb5⟩)
theorem ef_102 (m : MethodId) (x0 x1 : Addr) (x2 x3 x4 : Int32) : entryFrame m #[.ref x0, .ref x1, .int x2, .int x3, .int x4] 7 = mkF m 0 #[Lr x0, Lr x1, Li x2, Li x3, Li x4, Lu, Lu] [] := by first | (simp [entryFrame, mkF, argsToLocals, Value.category]; done) | rfl
def Q102 (Z : State) (a1 ar dco eno iso utf tbd tbe : Addr) (kd ke : ClassId) (G1 : Int32) (fm : Value) (al bl : Addr) (kb : ClassId) (h0 : Heap) (n0 : Nat) (v : Option Value) (h : Heap) (L : List Loc) : Prop := v = none ∧ Fr n0 L ∧ Keep h0 h [a1] ∧ Exa Z h a1 "java/lang/String" ∧ Fld Z h a1 "java/lang/String" "coder" "B" (.int 0) ∧ Fld Z h a1 "java/lang/String" "value" "[B" (.ref bl)
set_option maxRecDepth 65536 in
set_option maxHeartbeats 40000000 in
theorem rm102 (hw : own_W a0 Z) (a1 ar dco eno iso utf tbd tbe : Addr) (kd ke : ClassId) (G1 : Int32) (fm : Value) (al bl : Addr) (kb : ClassId) (h0 : Heap) (n0 : Nat) (Z0 : n0 ≤ h0.size) (hG : own_G Z dco eno iso utf tbd tbe kd ke G1 fm) (X00 : Old Z n0 h0) (Fal : Fld Z h0 al "java/lang/String" "value" "[B" (.ref bl)) (Fac : Fld Z h0 al "java/lang/String" "coder" "B" (.int 0)) (Es : Exa Z h0 a1 "java/lang/String") (Fv : Fld Z h0 a1 "java/lang/String" "value" "[B" .null) (Fc : Fld Z h0 a1 "java/lang/String" "coder" "B" (.int 0)) (Va : Arv Z h0 ar kb .byte (0 : Int32) [] (.int 0)) (hne : a1 ≠ ar) (hna : a1 ≠ al) (g_a1 : n0 ≤ a1) :
    own_ML l Z yy12 q12 7 none ⟨2, 0, 0, 29⟩ #[.ref a1, .ref ar, .int 0, .int 0, .int 0] h0 al [] (Q102 Z a1 ar dco eno iso utf tbd tbe kd ke G1 fm al bl kb h0 n0) := by
  refine own_bodyL (plainFor_of_name pn_1) ?_
  intro p e s m below meth c s₁ A hx hml hown hnm hlk hret hZ hL X0 e0 k0
  replace k0 := own_ent (ef_102 m a1 ar 0 0 0) k0
  have N0 := Fr.nil n0
  have KK : Keep h0 h0 [a1] := Keep.refl h0 [a1]
  obtain ⟨sD, sE, eD, eE, fDu, fDm, fEp, fEl, fEu, sI, sU, iu, sTd, sTe, aTd, aTe, sC, gC, sS, fmr⟩ := id hG
  have k1 := fun t_ ht_ => k0 t_ (o_aloadN X0 hx d12_0 rfl rfl ht_)
  obtain ⟨T2, X2, e2, k2⟩ := o_initO X0 hx hZ k1 hown (hw 19 rfl) (hw 20 rfl) (hw 21 rfl) e0 d12_1 hml 0
  have k3 := fun t_ ht_ => k2 t_ (o_iloadN X2 hx d12_4 rfl (o_iload X2 hx d12_5 rfl (o_aloadN X2 hx d12_7 rfl rfl (o_len X2 hx hZ d12_8 e2 Va ht_))))
  obtain ⟨_, T4, Lc4, X4, hQ4, k4⟩ := o_callSM X2 hx hZ k3 yy10 hown (hw 146 rfl) (hw 147 rfl) (hw 11 rfl) (hw 148 rfl) (rm32 hw (0 : Int32) (0 : Int32) dco eno iso utf tbd tbe kd ke G1 fm h0 n0 Z0 hG X00 (by decide) (by decide)) 0 [.int 0, .int 0, .int 0] [] (lenOf pd_5 rfl) hml e2 d12_9
  obtain ⟨rfl, Nq4, e4⟩ := hQ4
  have N4 := Fr.app N0 Nq4
  replace k4 := own_pushR k4
  have k5 := fun t_ ht_ => k4 t_ (o_pop X4 hx d12_12 rfl (o_iload X4 hx d12_13 rfl (o_ifNo X4 hx d12_15 ((if0 _ _).trans (teq (by decide)).2) (o_aloadN X4 hx d12_18 rfl rfl (o_ldcA X4 hx d12_19 hZ hown (hw 186 rfl) hL ht_)))))
  obtain ⟨T6, X6, e6, k6⟩ := o_getF X4 hx hZ k5 hown (host := "") (Or.inl (hw 36 rfl)) Via.refl e4 Fal d12_21
  obtain ⟨T7, h7, X7, e7, W7, k7⟩ := o_putF X6 hx hZ k6 hown (host := "") (Or.inl (hw 36 rfl)) Via.refl e6 Fv Es (Or.inr ⟨(hw 37 rfl), rfl, hnm⟩) (hw 10 rfl) d12_24 (.array .byte)
  replace X00 := X00.wr W7 g_a1
  replace Fal := Fal.other W7 (Or.inl (Ne.symm hna))
  replace Fac := Fac.other W7 (Or.inl (Ne.symm hna))
  replace Va := Va.other W7 (Ne.symm hne)
  replace Es := Es.wr W7
  replace Fc := Fc.other W7 (Or.inr (slot_ne (Or.inr (hw 35 rfl)) (Or.inr (hw 37 rfl)) (by decide) (t := .byte) (t' := (.array .byte)) (by decide) (by decide)))
  have Zs7 := Nat.le_trans Z0 (Keep.of_wr W7).1
  replace KK := KK.wr W7 (Or.inl (by simp))
  replace Fv := Fv.same W7
  have N7 := Fr.snoc X7 N4 g_a1
  have k8 := fun t_ ht_ => k7 t_ (o_aloadN X7 hx d12_27 rfl rfl (o_ldcA X7 hx d12_28 hZ hown (hw 186 rfl) hL ht_))
  obtain ⟨T9, X9, e9, k9⟩ := o_getF X7 hx hZ k8 hown (host := "") (Or.inl (hw 34 rfl)) Via.refl e7 Fac d12_30
  obtain ⟨T10, h10, X10, e10, W10, k10⟩ := o_putFN X9 hx hZ k9 hown (hw 34 rfl) Via.refl e9 Fc Es (Or.inr ⟨(hw 35 rfl), rfl, hnm⟩) (hw 10 rfl) d12_33 .byte (.int 0) rfl (rfl)
  replace X00 := X00.wr W10 g_a1
  replace Fal := Fal.other W10 (Or.inl (Ne.symm hna))
  replace Fac := Fac.other W10 (Or.inl (Ne.symm hna))
  replace Va := Va.other W10 (Ne.symm hne)
  replace Es := Es.wr W10
  replace Fv := Fv.other W10 (Or.inr (slot_ne (Or.inr (hw 37 rfl)) (Or.inr (hw 35 rfl)) (by decide) (t := (.array .byte)) (t' := .byte) (by decide) (by decide)))
  have Zs10 := Nat.le_trans Zs7 (Keep.of_wr W10).1
  replace KK := KK.wr W10 (Or.inl (by simp))
  replace Fc := Fc.same W10
  have N10 := Fr.snoc X10 N7 g_a1
  exact o_retV X10 hx k10 hlk hret d12_36 (by rw [e10]; exact ⟨rfl, N10, KK, Es, Fc, Fv⟩)
theorem ef_103 (m : MethodId) (x0 x1 : Addr) (x2 x3 : Int32) : entryFrame m #[.ref x0, .ref x1, .int x2, .int x3] 9 = mkF m 0 #[Lr x0, Lr x1, Li x2, Li x3, Lu, Lu, Lu, Lu, Lu] [] := by first | (simp [entryFrame, mkF, argsToLocals, Value.category]; done) | rfl
def Q103 (Z : State) (dco ar eno iso utf tbd tbe : Addr) (kd ke : ClassId) (G1 : Int32) (fm : Value) (kb : ClassId) (B0 B1 B2 B3 B4 B5 v0 v1 v2 v3 v4 v5 v6 v7 r0 r1 r2 r3 r4 r5 r6 r7 : Int32) (h0 : Heap) (n0 : Nat) (v : Option Value) (h : Heap) (L : List Loc) : Prop := v = some (.int (0 : Int32)) ∧ Fr n0 L ∧ h = h0
set_option maxRecDepth 65536 in
set_option maxHeartbeats 40000000 in
theorem rm103 (hw : own_W a0 Z) (dco ar eno iso utf tbd tbe : Addr) (kd ke : ClassId) (G1 : Int32) (fm : Value) (kb : ClassId) (B0 B1 B2 B3 B4 B5 v0 v1 v2 v3 v4 v5 v6 v7 r0 r1 r2 r3 r4 r5 r6 r7 : Int32) (h0 : Heap) (n0 : Nat) (Z0 : n0 ≤ h0.size) (hG : own_G Z dco eno iso utf tbd tbe kd ke G1 fm) (X00 : Old Z n0 h0) (Va : Arv Z h0 ar kb .byte (0 : Int32) [] (.int 0)) (hD : own_D 0 B0 B1 B2 B3 B4 B5 v0 v1 v2 v3 v4 v5 v6 v7 r0 r1 r2 r3 r4 r5 r6 r7) :
    own_M l Z yy15 q15 9 (some .int) ⟨0, 0, 0, 0⟩ #[.ref dco, .ref ar, .int 0, .int 0] h0 [] (Q103 Z dco ar eno iso utf tbd tbe kd ke G1 fm kb B0 B1 B2 B3 B4 B5 v0 v1 v2 v3 v4 v5 v6 v7 r0 r1 r2 r3 r4 r5 r6 r7 h0 n0) := by
  refine own_body (plainFor_of_name pn_2) ?_
  intro p e s m below meth c s₁ A hx hml hown hnm hlk hret hZ X0 e0 k0
  replace k0 := own_ent (ef_103 m dco ar 0 0) k0
  have N0 := Fr.nil n0
  obtain ⟨sD, sE, eD, eE, fDu, fDm, fEp, fEl, fEu, sI, sU, iu, sTd, sTe, aTd, aTe, sC, gC, sS, fmr⟩ := id hG
  obtain ⟨hq0, hq1, hc0, hc1, hc2, hc3, hc4, hc5, hc6, hc7, hz1, hz2, hz4, hz5⟩ := id hD
  have od1 := fDu.ext X00.2
  have k2 := fun t_ ht_ => k0 t_ (o_aloadN X0 hx d15_0 rfl rfl ht_)
  obtain ⟨T3, X3, e3, k3⟩ := o_getF X0 hx hZ k2 hown (host := "") (Or.inl (hw 93 rfl)) Via.refl e0 od1 d15_1
  have k4 := fun t_ ht_ => k3 t_ (o_ifNo X3 hx d15_4 ((if0 _ _).trans (feq (by decide)).1) ht_)
  obtain ⟨T5, X5, e5, k5⟩ := o_getS X3 hx hZ k4 hown (host := "") (Or.inl (hw 95 rfl)) Via.refl e3 (sTd.ext X00.2) d15_7
  have k6 := fun t_ ht_ => k5 t_ (o_goto X5 hx d15_10 16 (o_astore X5 hx d15_16 #[Lr dco, Lr ar, Li 0, Li 0, Lr tbd, Lu, Lu, Lu, Lu] rfl rfl (o_iconst X5 hx d15_18 0 rfl (o_istore X5 hx d15_19 #[Lr dco, Lr ar, Li 0, Li 0, Lr tbd, Li 0, Lu, Lu, Lu] rfl (o_iloadN X5 hx d15_21 rfl (o_iloadN X5 hx d15_22 rfl (o_isub X5 hx d15_23 (rfl : _ = (0 : Int32)) (o_istore X5 hx d15_24 #[Lr dco, Lr ar, Li 0, Li 0, Lr tbd, Li 0, Li 0, Lu, Lu] rfl (o_iload X5 hx d15_26 rfl (o_ifNo X5 hx d15_28 ((if0 _ _).trans (teq (by decide)).2) (o_iconst X5 hx d15_31 0 rfl ht_)))))))))))
  exact o_retI X5 hx k6 hlk hret d15_32 (by rw [e5]; exact ⟨congrArg (fun z => some (Value.int z)) (show (0 : Int32) = (0 : Int32) from by decide), N0, rfl⟩)
theorem ef_104 (m : MethodId) (x0 x1 : Addr) (x2 x3 : Int32) (x4 : Addr) : entryFrame m #[.ref x0, .ref x1, .int x2, .int x3, .ref x4] 11 = mkF m 0 #[Lr x0, Lr x1, Li x2, Li x3, Lr x4, Lu, Lu, Lu, Lu, Lu, Lu] [] := by first | (simp [entryFrame, mkF, argsToLocals, Value.category]; done) | rfl
def Q104 (Z : State) (dco ar ds eno iso utf tbd tbe : Addr) (kd ke : ClassId) (G1 : Int32) (fm : Value) (kb kc : ClassId) (B0 B1 B2 B3 B4 B5 v0 v1 v2 v3 v4 v5 v6 v7 r0 r1 r2 r3 r4 r5 r6 r7 : Int32) (h0 : Heap) (n0 : Nat) (v : Option Value) (h : Heap) (L : List Loc) : Prop := v = some (.int (0 : Int32)) ∧ Fr n0 L ∧ Keep h0 h [ds] ∧ Arv Z h ds kc .byte (0 : Int32) [] (.int 0)
set_option maxRecDepth 65536 in
set_option maxHeartbeats 40000000 in
theorem rm104 (hw : own_W a0 Z) (dco ar ds eno iso utf tbd tbe : Addr) (kd ke : ClassId) (G1 : Int32) (fm : Value) (kb kc : ClassId) (B0 B1 B2 B3 B4 B5 v0 v1 v2 v3 v4 v5 v6 v7 r0 r1 r2 r3 r4 r5 r6 r7 : Int32) (h0 : Heap) (n0 : Nat) (Z0 : n0 ≤ h0.size) (hG : own_G Z dco eno iso utf tbd tbe kd ke G1 fm) (X00 : Old Z n0 h0) (Va : Arv Z h0 ar kb .byte (0 : Int32) [] (.int 0)) (Vd : Arv Z h0 ds kc .byte (0 : Int32) [] (.int 0)) (hne : ar ≠ ds) (g_ds : n0 ≤ ds) (hD : own_D 0 B0 B1 B2 B3 B4 B5 v0 v1 v2 v3 v4 v5 v6 v7 r0 r1 r2 r3 r4 r5 r6 r7) :
    own_M l Z yy16 q16 11 (some .int) ⟨0, 0, 0, 0⟩ #[.ref dco, .ref ar, .int 0, .int 0, .ref ds] h0 [] (Q104 Z dco ar ds eno iso utf tbd tbe kd ke G1 fm kb kc B0 B1 B2 B3 B4 B5 v0 v1 v2 v3 v4 v5 v6 v7 r0 r1 r2 r3 r4 r5 r6 r7 h0 n0) := by
  refine own_body (plainFor_of_name pn_2) ?_
  intro p e s m below meth c s₁ A hx hml hown hnm hlk hret hZ X0 e0 k0
  replace k0 := own_ent (ef_104 m dco ar 0 0 ds) k0
  have N0 := Fr.nil n0
  have KK : Keep h0 h0 [ds] := Keep.refl h0 [ds]
  obtain ⟨sD, sE, eD, eE, fDu, fDm, fEp, fEl, fEu, sI, sU, iu, sTd, sTe, aTd, aTe, sC, gC, sS, fmr⟩ := id hG
  obtain ⟨hq0, hq1, hc0, hc1, hc2, hc3, hc4, hc5, hc6, hc7, hz1, hz2, hz4, hz5⟩ := id hD
  have od1 := fDu.ext X00.2
  have k2 := fun t_ ht_ => k0 t_ (o_aloadN X0 hx d16_0 rfl rfl ht_)
  obtain ⟨T3, X3, e3, k3⟩ := o_getF X0 hx hZ k2 hown (host := "") (Or.inl (hw 93 rfl)) Via.refl e0 od1 d16_1
  have k4 := fun t_ ht_ => k3 t_ (o_ifNo X3 hx d16_4 ((if0 _ _).trans (feq (by decide)).1) ht_)
  obtain ⟨T5, X5, e5, k5⟩ := o_getS X3 hx hZ k4 hown (host := "") (Or.inl (hw 95 rfl)) Via.refl e3 (sTd.ext X00.2) d16_7
  have k6 := fun t_ ht_ => k5 t_ (o_goto X5 hx d16_10 16 (o_astore X5 hx d16_16 #[Lr dco, Lr ar, Li 0, Li 0, Lr ds, Lr tbd, Lu, Lu, Lu, Lu, Lu] rfl rfl (o_iconst X5 hx d16_18 0 rfl (o_istore X5 hx d16_19 #[Lr dco, Lr ar, Li 0, Li 0, Lr ds, Lr tbd, Li 0, Lu, Lu, Lu, Lu] rfl (o_iconst X5 hx d16_21 0 rfl (o_istore X5 hx d16_22 #[Lr dco, Lr ar, Li 0, Li 0, Lr ds, Lr tbd, Li 0, Li 0, Lu, Lu, Lu] rfl (o_bipush X5 hx d16_24 18 rfl (o_istore X5 hx d16_26 #[Lr dco, Lr ar, Li 0, Li 0, Lr ds, Lr tbd, Li 0, Li 0, Li 18, Lu, Lu] rfl (o_iloadN X5 hx d16_28 rfl (o_iloadN X5 hx d16_29 rfl (o_icmpYes X5 hx d16_30 (flt (by decide)).2.1 281 (o_iload X5 hx d16_281 rfl (o_bipush X5 hx d16_283 6 rfl (o_icmpYes X5 hx d16_285 (feq (by decide)).2 305 (o_iload X5 hx d16_305 rfl (o_ifYes X5 hx d16_307 ((if0 _ _).trans (feq (by decide)).2) 341 (o_iload X5 hx d16_341 rfl (o_bipush X5 hx d16_343 12 rfl (o_icmpYes X5 hx d16_345 (feq (by decide)).2 358 (o_iloadN X5 hx d16_358 rfl (o_iloadN X5 hx d16_359 rfl (o_icmpYes X5 hx d16_360 (flt (by decide)).2.1 416 (o_iload X5 hx d16_416 rfl ht_)))))))))))))))))))))))
  exact o_retI X5 hx k6 hlk hret d16_418 (by rw [e5]; exact ⟨rfl, N0, KK, Vd⟩)
theorem ef_105 (m : MethodId) (x0 x1 : Addr) : entryFrame m #[.ref x0, .ref x1] 4 = mkF m 0 #[Lr x0, Lr x1, Lu, Lu] [] := by first | (simp [entryFrame, mkF, argsToLocals, Value.category]; done) | rfl
def Q105 (Z : State) (dco ar eno iso utf tbd tbe : Addr) (kd ke : ClassId) (G1 : Int32) (fm : Value) (kb : ClassId) (B0 B1 B2 B3 B4 B5 v0 v1 v2 v3 v4 v5 v6 v7 r0 r1 r2 r3 r4 r5 r6 r7 : Int32) (h0 : Heap) (n0 : Nat) (v : Option Value) (h : Heap) (L : List Loc) : Prop := ∃ (ds : Addr) (kc : ClassId), v = some (.ref ds) ∧ Fr n0 L ∧ Keep h0 h [] ∧ Arv Z h ds kc .byte (0 : Int32) [] (.int 0) ∧ h0.size ≤ ds ∧ n0 ≤ ds
set_option maxRecDepth 65536 in
set_option maxHeartbeats 40000000 in
theorem rm105 (hw : own_W a0 Z) (dco ar eno iso utf tbd tbe : Addr) (kd ke : ClassId) (G1 : Int32) (fm : Value) (kb : ClassId) (B0 B1 B2 B3 B4 B5 v0 v1 v2 v3 v4 v5 v6 v7 r0 r1 r2 r3 r4 r5 r6 r7 : Int32) (h0 : Heap) (n0 : Nat) (Z0 : n0 ≤ h0.size) (hG : own_G Z dco eno iso utf tbd tbe kd ke G1 fm) (X00 : Old Z n0 h0) (Va : Arv Z h0 ar kb .byte (0 : Int32) [] (.int 0)) (hD : own_D 0 B0 B1 B2 B3 B4 B5 v0 v1 v2 v3 v4 v5 v6 v7 r0 r1 r2 r3 r4 r5 r6 r7) :
    own_M l Z yy17 q17 4 (some (.array .byte)) ⟨1, 1, 0, 22⟩ #[.ref dco, .ref ar] h0 [] (Q105 Z dco ar eno iso utf tbd tbe kd ke G1 fm kb B0 B1 B2 B3 B4 B5 v0 v1 v2 v3 v4 v5 v6 v7 r0 r1 r2 r3 r4 r5 r6 r7 h0 n0) := by
  refine own_body (plainFor_of_name pn_2) ?_
  intro p e s m below meth c s₁ A hx hml hown hnm hlk hret hZ X0 e0 k0
  replace k0 := own_ent (ef_105 m dco ar) k0
  have N0 := Fr.nil n0
  have KK : Keep h0 h0 [] := Keep.refl h0 []
  obtain ⟨sD, sE, eD, eE, fDu, fDm, fEp, fEl, fEu, sI, sU, iu, sTd, sTe, aTd, aTe, sC, gC, sS, fmr⟩ := id hG
  obtain ⟨hq0, hq1, hc0, hc1, hc2, hc3, hc4, hc5, hc6, hc7, hz1, hz2, hz4, hz5⟩ := id hD
  have od1 := eD.ext X00.2
  have k2 := fun t_ ht_ => k0 t_ (o_aloadN X0 hx d17_0 rfl rfl (o_aloadN X0 hx d17_1 rfl rfl (o_iconst X0 hx d17_2 0 rfl (o_aloadN X0 hx d17_3 rfl rfl (o_len X0 hx hZ d17_4 e0 Va ht_)))))
  obtain ⟨_, T3, Lc3, X3, hQ3, k3⟩ := o_privateM X0 hx hZ k2 yy15 hown (hw 88 rfl) (hw 89 rfl) (hw 91 rfl) (hw 90 rfl) (hw 92 rfl) (rm103 hw dco ar eno iso utf tbd tbe kd ke G1 fm kb B0 B1 B2 B3 B4 B5 v0 v1 v2 v3 v4 v5 v6 v7 r0 r1 r2 r3 r4 r5 r6 r7 h0 n0 Z0 hG X00 Va hD) (hw 48 rfl) 0 od1 [.ref ar, .int 0, .int 0] [] (lenOf pd_8 rfl) hml e0 d17_5
  obtain ⟨rfl, Nq3, e3⟩ := hQ3
  have N3 := Fr.app N0 Nq3
  replace k3 := own_pushR k3
  obtain ⟨T4, h4, c4, X4, e4, E4, Ax4, Bx4, k4⟩ := o_newP X3 hx hZ k3 (hw 27 rfl) e3 (by decide) 0 (by decide) "[B" d17_8
  obtain ⟨b4, g4⟩ : ∃ z, z = h0.size := ⟨_, rfl⟩
  rw [← g4] at Ax4 Bx4 k4
  have ne_ar_b4 : ar ≠ b4 := Nat.ne_of_lt (Nat.lt_of_lt_of_le Va.lt (Nat.le_of_eq g4.symm))
  have g_b4 : n0 ≤ b4 := Nat.le_trans Z0 (Nat.le_of_eq g4.symm)
  have sz_b4 : h0.size ≤ b4 := Nat.le_trans KK.1 (Nat.le_of_eq g4.symm)
  replace X00 : Old Z n0 h4 := ⟨X00.1, Nat.le_trans X00.2.1 E4.1, fun x c r => E4.2 x c (X00.2.2 x c r)⟩
  replace Va := Va.ext E4
  have Zs4 := Nat.le_trans Z0 E4.1
  replace KK := KK.ext E4
  have Ex_b4 := Bx4
  have V_b4 : Arv Z h4 b4 c4 .byte 0 [] (.int 0) := Arv.new Ax4 (by decide)
  have od5 := eD.ext X00.2
  have k6 := fun t_ ht_ => k4 t_ (o_astoreN X4 hx d17_10 #[Lr dco, Lr ar, Lr b4, Lu] rfl rfl (o_aloadN X4 hx d17_11 rfl rfl (o_aloadN X4 hx d17_12 rfl rfl (o_iconst X4 hx d17_13 0 rfl (o_aloadN X4 hx d17_14 rfl rfl (o_len X4 hx hZ d17_15 e4 Va (o_aloadN X4 hx d17_16 rfl rfl ht_)))))))
  obtain ⟨_, T7, Lc7, X7, hQ7, k7⟩ := o_privateM X4 hx hZ k6 yy16 hown (hw 100 rfl) (hw 101 rfl) (hw 103 rfl) (hw 102 rfl) (hw 104 rfl) (rm104 hw dco ar b4 eno iso utf tbd tbe kd ke G1 fm kb c4 B0 B1 B2 B3 B4 B5 v0 v1 v2 v3 v4 v5 v6 v7 r0 r1 r2 r3 r4 r5 r6 r7 h4 n0 Zs4 hG X00 Va V_b4 ne_ar_b4 g_b4 hD) (hw 48 rfl) 0 od5 [.ref ar, .int 0, .int 0, .ref b4] [] (lenOf pd_9 rfl) hml e4 d17_17
  obtain ⟨rfl, Nq7, K1, V1⟩ := hQ7
  have N7 := Fr.app N3 Nq7
  replace k7 := own_pushR k7
  replace X00 := X00.keep K1 (by simpa using g_b4)
  replace Va := Va.keep K1 (by simpa using ne_ar_b4)
  replace Ex_b4 := Ex_b4.keep K1
  have Zs7 := Nat.le_trans Zs4 K1.1
  replace KK := KK.trans K1 (fun x q => by cases List.mem_singleton.mp q; exact Or.inr sz_b4)
  have k8 := fun t_ ht_ => k7 t_ (o_istoreN X7 hx d17_20 #[Lr dco, Lr ar, Lr b4, Li 0] rfl (o_iloadN X7 hx d17_21 rfl (o_aloadN X7 hx d17_22 rfl rfl (o_len X7 hx hZ d17_23 rfl V1 (o_icmpYes X7 hx d17_24 (teq (by decide)).1 33 (o_aloadN X7 hx d17_33 rfl rfl ht_))))))
  exact o_retA X7 hx k8 hlk hret rfl d17_34 (by exact ⟨b4, c4, rfl, N7, KK, V1, sz_b4, g_b4⟩)
theorem ef_106 (m : MethodId) (x0 x1 : Addr) : entryFrame m #[.ref x0, .ref x1] 2 = mkF m 0 #[Lr x0, Lr x1] [] := by first | (simp [entryFrame, mkF, argsToLocals, Value.category]; done) | rfl
def Q106 (Z : State) (dco a1 eno iso utf tbd tbe : Addr) (kd ke : ClassId) (G1 : Int32) (fm : Value) (ar : Addr) (kb : ClassId) (B0 B1 B2 B3 B4 B5 v0 v1 v2 v3 v4 v5 v6 v7 r0 r1 r2 r3 r4 r5 r6 r7 : Int32) (h0 : Heap) (n0 : Nat) (v : Option Value) (h : Heap) (L : List Loc) : Prop := ∃ (ds : Addr) (kc : ClassId), v = some (.ref ds) ∧ Fr n0 L ∧ Keep h0 h [] ∧ Arv Z h ds kc .byte (0 : Int32) [] (.int 0) ∧ h0.size ≤ ds ∧ n0 ≤ ds
set_option maxRecDepth 65536 in
set_option maxHeartbeats 40000000 in
theorem rm106 (hw : own_W a0 Z) (dco a1 eno iso utf tbd tbe : Addr) (kd ke : ClassId) (G1 : Int32) (fm : Value) (ar : Addr) (kb : ClassId) (B0 B1 B2 B3 B4 B5 v0 v1 v2 v3 v4 v5 v6 v7 r0 r1 r2 r3 r4 r5 r6 r7 : Int32) (h0 : Heap) (n0 : Nat) (Z0 : n0 ≤ h0.size) (hG : own_G Z dco eno iso utf tbd tbe kd ke G1 fm) (X00 : Old Z n0 h0) (Es : Exa Z h0 a1 "java/lang/String") (Fc : Fld Z h0 a1 "java/lang/String" "coder" "B" (.int 0)) (Fv : Fld Z h0 a1 "java/lang/String" "value" "[B" (.ref ar)) (Va : Arv Z h0 ar kb .byte (0 : Int32) [] (.int 0)) (Ea : Exa Z h0 ar "[B") (hD : own_D 0 B0 B1 B2 B3 B4 B5 v0 v1 v2 v3 v4 v5 v6 v7 r0 r1 r2 r3 r4 r5 r6 r7) :
    own_M l Z yy18 q18 2 (some (.array .byte)) ⟨5, 2, 8, 76⟩ #[.ref dco, .ref a1] h0 [] (Q106 Z dco a1 eno iso utf tbd tbe kd ke G1 fm ar kb B0 B1 B2 B3 B4 B5 v0 v1 v2 v3 v4 v5 v6 v7 r0 r1 r2 r3 r4 r5 r6 r7 h0 n0) := by
  refine own_body (plainFor_of_name pn_2) ?_
  intro p e s m below meth c s₁ A hx hml hown hnm hlk hret hZ X0 e0 k0
  replace k0 := own_ent (ef_106 m dco a1) k0
  have N0 := Fr.nil n0
  have KK : Keep h0 h0 [] := Keep.refl h0 []
  obtain ⟨sD, sE, eD, eE, fDu, fDm, fEp, fEl, fEu, sI, sU, iu, sTd, sTe, aTd, aTe, sC, gC, sS, fmr⟩ := id hG
  obtain ⟨hq0, hq1, hc0, hc1, hc2, hc3, hc4, hc5, hc6, hc7, hz1, hz2, hz4, hz5⟩ := id hD
  have k1 := fun t_ ht_ => k0 t_ (o_aloadN X0 hx d18_0 rfl rfl (o_aloadN X0 hx d18_1 rfl rfl ht_))
  obtain ⟨T2, X2, e2, k2⟩ := o_getS X0 hx hZ k1 hown (host := "") (Or.inl (hw 50 rfl)) Via.refl e0 (sI.ext X00.2) d18_2
  obtain ⟨_, T3, Lc3, X3, hQ3, k3⟩ := o_virtualM X2 hx hZ k2 yy6 hown (hw 52 rfl) yy6 (hw 53 rfl) (hw 55 rfl) (hw 54 rfl) rfl (rm23 hw a1 iso dco eno utf tbd tbe kd ke G1 fm ar kb (0 : Int32) _ h0 n0 Z0 hG X00 Es Fc Fv Va Ea (by decide)) (hw 56 rfl) (hw 11 rfl) 1 Es [.ref iso] [.ref dco] (lenOf pd_10 rfl) hml e2 d18_5
  obtain ⟨cr, rfl, Nq3, K1, V1, E1, G1_⟩ := hQ3
  have N3 := Fr.app N0 Nq3
  replace k3 := own_pushR k3
  replace X00 := X00.keep K1 (by simp)
  replace Es := Es.keep K1
  replace Fc := Fc.keep K1 (by simp)
  replace Fv := Fv.keep K1 (by simp)
  replace Va := Va.keep K1 (by simp)
  replace Ea := Ea.keep K1
  have Zs3 := Nat.le_trans Z0 K1.1
  replace KK := KK.trans K1 (fun x q => nomatch q)
  have od4 := eD.ext X00.2
  obtain ⟨_, T5, Lc5, X5, hQ5, k5⟩ := o_virtualM X3 hx hZ k3 yy17 hown (hw 83 rfl) yy17 (hw 84 rfl) (hw 86 rfl) (hw 85 rfl) rfl (rm105 hw dco cr eno iso utf tbd tbe kd ke G1 fm kb B0 B1 B2 B3 B4 B5 v0 v1 v2 v3 v4 v5 v6 v7 r0 r1 r2 r3 r4 r5 r6 r7 T3.heap n0 Zs3 hG X00 V1 hD) (hw 87 rfl) (hw 48 rfl) 0 od4 [.ref cr] [] (lenOf pd_11 rfl) hml rfl d18_8
  obtain ⟨ds, kc, rfl, Nq5, K2, V2, G2, g_ds⟩ := hQ5
  have N5 := Fr.app N3 Nq5
  replace k5 := own_pushR k5
  have sz_ds : h0.size ≤ ds := Nat.le_trans KK.1 G2
  replace X00 := X00.keep K2 (by simp)
  replace Es := Es.keep K2
  replace Fc := Fc.keep K2 (by simp)
  replace Fv := Fv.keep K2 (by simp)
  replace Va := Va.keep K2 (by simp)
  replace Ea := Ea.keep K2
  replace V1 := V1.keep K2 (by simp)
  replace E1 := E1.keep K2
  have Zs5 := Nat.le_trans Zs3 K2.1
  replace KK := KK.trans K2 (fun x q => nomatch q)
  exact o_retA X5 hx k5 hlk hret rfl d18_11 (by exact ⟨ds, kc, rfl, N5, KK, V2, sz_ds, g_ds⟩)
theorem ef_108 (m : MethodId) (x0 x1 : Int32) : entryFrame m #[.int x0, .int x1] 3 = mkF m 0 #[Li x0, Li x1, Lu] [] := by first | (simp [entryFrame, mkF, argsToLocals, Value.category]; done) | rfl
def Q108 (Z : State)  (h0 : Heap) (n0 : Nat) (v : Option Value) (h : Heap) (L : List Loc) : Prop := v = some (.int (0 : Int32)) ∧ Fr n0 L ∧ h = h0
set_option maxRecDepth 65536 in
set_option maxHeartbeats 40000000 in
theorem rm108 (hw : own_W a0 Z)  (h0 : Heap) (n0 : Nat) (Z0 : n0 ≤ h0.size) :
    own_M l Z yy20 q21 3 (some .int) ⟨0, 0, 0, 0⟩ #[.int 0, .int 0] h0 [] (Q108 Z  h0 n0) := by
  refine own_body (Jvm.Free.JP.mathPlain rfl (by decide +kernel)) ?_
  intro p e s m below meth c s₁ A hx hml hown hnm hlk hret hZ X0 e0 k0
  replace k0 := own_ent (ef_108 m 0 0) k0
  have N0 := Fr.nil n0
  have k1 := fun t_ ht_ => k0 t_ (o_iloadN X0 hx d21_0 rfl (o_iloadN X0 hx d21_1 rfl (o_iadd X0 hx d21_2 (rfl : _ = (0 : Int32)) (o_istoreN X0 hx d21_3 #[Li 0, Li 0, Li 0] rfl (o_iloadN X0 hx d21_4 rfl (o_iloadN X0 hx d21_5 rfl (o_ixor X0 hx d21_6 rfl (o_iloadN X0 hx d21_7 rfl (o_iloadN X0 hx d21_8 rfl (o_ixor X0 hx d21_9 rfl (o_iand X0 hx d21_10 rfl (o_ifYes X0 hx d21_11 ((if0 _ _).trans (flt (by decide)).2.1) 24 (o_iloadN X0 hx d21_24 rfl ht_)))))))))))))
  exact o_retI X0 hx k1 hlk hret d21_25 (by rw [e0]; exact ⟨congrArg (fun z => some (Value.int z)) (show (0 : Int32) = (0 : Int32) from by decide), N0, rfl⟩)
theorem ef_107 (m : MethodId) (x0 : Addr) (x1 x2 : Int32) : entryFrame m #[.ref x0, .int x1, .int x2] 5 = mkF m 0 #[Lr x0, Li x1, Li x2, Lu, Lu] [] := by first | (simp [entryFrame, mkF, argsToLocals, Value.category]; done) | rfl
def Q107 (Z : State) (eno dco iso utf tbd tbe : Addr) (kd ke : ClassId) (G1 : Int32) (fm : Value) (h0 : Heap) (n0 : Nat) (v : Option Value) (h : Heap) (L : List Loc) : Prop := v = some (.int (0 : Int32)) ∧ Fr n0 L ∧ h = h0
set_option maxRecDepth 65536 in
set_option maxHeartbeats 40000000 in
theorem rm107 (hw : own_W a0 Z) (eno dco iso utf tbd tbe : Addr) (kd ke : ClassId) (G1 : Int32) (fm : Value) (h0 : Heap) (n0 : Nat) (Z0 : n0 ≤ h0.size) (hG : own_G Z dco eno iso utf tbd tbe kd ke G1 fm) (X00 : Old Z n0 h0) :
    own_MH l Z yy21 q19 5 (some .int) [(2, 79, 82, 33)] ⟨1, 0, 0, 15⟩ #[.ref eno, .int 0, .int 1] h0 [] (Q107 Z eno dco iso utf tbd tbe kd ke G1 fm h0 n0) := by
  refine own_bodyH (plainFor_of_name pn_3) ?_
  intro p e s m below meth c s₁ A hx hml hown hnm hlk hret hZ X0 e0 k0
  replace k0 := own_ent (ef_107 m eno 0 1) k0
  have N0 := Fr.nil n0
  obtain ⟨sD, sE, eD, eE, fDu, fDm, fEp, fEl, fEu, sI, sU, iu, sTd, sTe, aTd, aTe, sC, gC, sS, fmr⟩ := id hG
  have od1 := fEp.ext X00.2
  have k2 := fun t_ ht_ => k0 t_ (o_iconst X0 hx d19_0 0 rfl (o_istoreN X0 hx d19_1 #[Lr eno, Li 0, Li 1, Li 0, Lu] rfl (o_aloadN X0 hx d19_2 rfl rfl ht_)))
  obtain ⟨T3, X3, e3, k3⟩ := o_getF X0 hx hZ k2 hown (host := "") (Or.inl (hw 123 rfl)) Via.refl e0 od1 d19_3
  have k4 := fun t_ ht_ => k3 t_ (o_ifYes X3 hx d19_6 ((if0 _ _).trans (teq (by decide)).1) 24 (o_iloadN X3 hx d19_24 rfl (o_iconst X3 hx d19_25 3 rfl (o_irem X3 hx d19_26 (by decide) ht_))))
  rw [show ((0 : Int32) - ((0 : Int32) / (3 : Int32)) * (3 : Int32)) = (0 : Int32) from by decide] at k4
  have k5 := fun t_ ht_ => k4 t_ (o_istore X3 hx d19_27 #[Lr eno, Li 0, Li 1, Li 0, Li 0] rfl (o_iconst X3 hx d19_29 4 rfl (o_iloadN X3 hx d19_30 rfl (o_iconst X3 hx d19_31 3 rfl (o_idiv X3 hx d19_32 (by decide) ht_)))))
  rw [show ((0 : Int32) / (3 : Int32)) = (0 : Int32) from by decide] at k5
  obtain ⟨_, T6, Lc6, X6, hQ6, k6⟩ := o_callSM X3 hx hZ k5 yy19 hown (hw 125 rfl) (hw 126 rfl) (hw 127 rfl) (hw 128 rfl) (rm42 hw h0 n0 Z0) 0 [.int 4, .int 0] [] (lenOf pd_12 rfl) hml e3 d19_33
  obtain ⟨rfl, Nq6, e6⟩ := hQ6
  have N6 := Fr.app N0 Nq6
  replace k6 := own_pushR k6
  have k7 := fun t_ ht_ => k6 t_ (o_iload X6 hx d19_36 rfl (o_ifNo X6 hx d19_38 ((if0 _ _).trans (teq (by decide)).2) (o_iconst X6 hx d19_41 0 rfl (o_goto X6 hx d19_42 49 ht_))))
  obtain ⟨_, T8, Lc8, X8, hQ8, k8⟩ := o_callSM X6 hx hZ k7 yy20 hown (hw 129 rfl) (hw 130 rfl) (hw 127 rfl) (hw 131 rfl) (rm108 hw h0 n0 Z0) 0 [.int 0, .int 0] [] (lenOf pd_12 rfl) hml e6 d19_49
  obtain ⟨rfl, Nq8, e8⟩ := hQ8
  have N8 := Fr.app N6 Nq8
  replace k8 := own_pushR k8
  have od9 := fEl.ext X00.2
  have k10 := fun t_ ht_ => k8 t_ (o_istoreN X8 hx d19_52 #[Lr eno, Li 0, Li 1, Li 0, Li 0] rfl (o_aloadN X8 hx d19_53 rfl rfl ht_))
  obtain ⟨T11, X11, e11, k11⟩ := o_getF X8 hx hZ k10 hown (host := "") (Or.inl (hw 132 rfl)) Via.refl e8 od9 d19_54
  have k12 := fun t_ ht_ => k11 t_ (o_ifYes X11 hx d19_57 ((if0 _ _).trans (flt (by decide)).2.2.2) 79 (o_goto X11 hx d19_79 100 (o_iloadN X11 hx d19_100 rfl ht_)))
  exact o_retI X11 hx k12 hlk hret d19_101 (by rw [e11]; exact ⟨rfl, N8, rfl⟩)
theorem ef_109 (m : MethodId) (x0 x1 : Addr) (x2 x3 : Int32) (x4 : Addr) : entryFrame m #[.ref x0, .ref x1, .int x2, .int x3, .ref x4] 16 = mkF m 0 #[Lr x0, Lr x1, Li x2, Li x3, Lr x4, Lu, Lu, Lu, Lu, Lu, Lu, Lu, Lu, Lu, Lu, Lu] [] := by first | (simp [entryFrame, mkF, argsToLocals, Value.category]; done) | rfl
def Q109 (Z : State) (eno ar ds dco iso utf tbd tbe : Addr) (kd ke : ClassId) (G1 : Int32) (fm : Value) (kb kc : ClassId) (B0 B1 B2 B3 B4 B5 v0 v1 v2 v3 v4 v5 v6 v7 r0 r1 r2 r3 r4 r5 r6 r7 : Int32) (h0 : Heap) (n0 : Nat) (v : Option Value) (h : Heap) (L : List Loc) : Prop := v = some (.int (0 : Int32)) ∧ Fr n0 L ∧ Keep h0 h [ds] ∧ Arv Z h ds kc .byte (0 : Int32) [] (.int 0)
set_option maxRecDepth 65536 in
set_option maxHeartbeats 40000000 in
theorem rm109 (hw : own_W a0 Z) (eno ar ds dco iso utf tbd tbe : Addr) (kd ke : ClassId) (G1 : Int32) (fm : Value) (kb kc : ClassId) (B0 B1 B2 B3 B4 B5 v0 v1 v2 v3 v4 v5 v6 v7 r0 r1 r2 r3 r4 r5 r6 r7 : Int32) (h0 : Heap) (n0 : Nat) (Z0 : n0 ≤ h0.size) (hG : own_G Z dco eno iso utf tbd tbe kd ke G1 fm) (X00 : Old Z n0 h0) (Va : Arv Z h0 ar kb .byte (0 : Int32) [] (.int 0)) (Vd : Arv Z h0 ds kc .byte (0 : Int32) [] (.int 0)) (hne : ar ≠ ds) (g_ds : n0 ≤ ds) (hD : own_D 0 B0 B1 B2 B3 B4 B5 v0 v1 v2 v3 v4 v5 v6 v7 r0 r1 r2 r3 r4 r5 r6 r7) :
    own_M l Z yy22 q22 16 (some .int) ⟨0, 0, 0, 0⟩ #[.ref eno, .ref ar, .int 0, .int 0, .ref ds] h0 [] (Q109 Z eno ar ds dco iso utf tbd tbe kd ke G1 fm kb kc B0 B1 B2 B3 B4 B5 v0 v1 v2 v3 v4 v5 v6 v7 r0 r1 r2 r3 r4 r5 r6 r7 h0 n0) := by
  refine own_body (plainFor_of_name pn_3) ?_
  intro p e s m below meth c s₁ A hx hml hown hnm hlk hret hZ X0 e0 k0
  replace k0 := own_ent (ef_109 m eno ar 0 0 ds) k0
  have N0 := Fr.nil n0
  have KK : Keep h0 h0 [ds] := Keep.refl h0 [ds]
  obtain ⟨sD, sE, eD, eE, fDu, fDm, fEp, fEl, fEu, sI, sU, iu, sTd, sTe, aTd, aTe, sC, gC, sS, fmr⟩ := id hG
  obtain ⟨hq0, hq1, hc0, hc1, hc2, hc3, hc4, hc5, hc6, hc7, hz1, hz2, hz4, hz5⟩ := id hD
  have od1 := fEu.ext X00.2
  have k2 := fun t_ ht_ => k0 t_ (o_aloadN X0 hx d22_0 rfl rfl ht_)
  obtain ⟨T3, X3, e3, k3⟩ := o_getF X0 hx hZ k2 hown (host := "") (Or.inl (hw 139 rfl)) Via.refl e0 od1 d22_1
  have k4 := fun t_ ht_ => k3 t_ (o_ifNo X3 hx d22_4 ((if0 _ _).trans (feq (by decide)).1) ht_)
  obtain ⟨T5, X5, e5, k5⟩ := o_getS X3 hx hZ k4 hown (host := "") (Or.inl (hw 141 rfl)) Via.refl e3 (sTe.ext X00.2) d22_7
  have k6 := fun t_ ht_ => k5 t_ (o_goto X5 hx d22_10 16 (o_astore X5 hx d22_16 #[Lr eno, Lr ar, Li 0, Li 0, Lr ds, Lr tbe, Lu, Lu, Lu, Lu, Lu, Lu, Lu, Lu, Lu, Lu] rfl rfl (o_iloadN X5 hx d22_18 rfl (o_istore X5 hx d22_19 #[Lr eno, Lr ar, Li 0, Li 0, Lr ds, Lr tbe, Li 0, Lu, Lu, Lu, Lu, Lu, Lu, Lu, Lu, Lu] rfl (o_iloadN X5 hx d22_21 rfl (o_iloadN X5 hx d22_22 rfl (o_isub X5 hx d22_23 (rfl : _ = (0 : Int32)) (o_iconst X5 hx d22_24 3 rfl (o_idiv X5 hx d22_25 (by decide) ht_)))))))))
  rw [show ((0 : Int32) / (3 : Int32)) = (0 : Int32) from by decide] at k6
  have od7 := fEl.ext X00.2
  have k8 := fun t_ ht_ => k6 t_ (o_iconst X5 hx d22_26 3 rfl (o_imul X5 hx d22_27 (rfl : _ = (0 : Int32)) (o_istore X5 hx d22_28 #[Lr eno, Lr ar, Li 0, Li 0, Lr ds, Lr tbe, Li 0, Li 0, Lu, Lu, Lu, Lu, Lu, Lu, Lu, Lu] rfl (o_iloadN X5 hx d22_30 rfl (o_iload X5 hx d22_31 rfl (o_iadd X5 hx d22_33 (rfl : _ = (0 : Int32)) (o_istore X5 hx d22_34 #[Lr eno, Lr ar, Li 0, Li 0, Lr ds, Lr tbe, Li 0, Li 0, Li 0, Lu, Lu, Lu, Lu, Lu, Lu, Lu] rfl (o_aloadN X5 hx d22_36 rfl rfl ht_))))))))
  obtain ⟨T9, X9, e9, k9⟩ := o_getF X5 hx hZ k8 hown (host := "") (Or.inl (hw 132 rfl)) Via.refl e5 od7 d22_37
  have k10 := fun t_ ht_ => k9 t_ (o_ifYes X9 hx d22_40 ((if0 _ _).trans (flt (by decide)).2.2.2) 66 (o_iconst X9 hx d22_66 0 rfl (o_istore X9 hx d22_67 #[Lr eno, Lr ar, Li 0, Li 0, Lr ds, Lr tbe, Li 0, Li 0, Li 0, Li 0, Lu, Lu, Lu, Lu, Lu, Lu] rfl (o_iload X9 hx d22_69 rfl (o_iload X9 hx d22_71 rfl (o_icmpYes X9 hx d22_73 (flt (by decide)).2.1 189 (o_iload X9 hx d22_189 rfl (o_iloadN X9 hx d22_191 rfl (o_icmpYes X9 hx d22_192 (flt (by decide)).2.1 352 (o_iload X9 hx d22_352 rfl ht_))))))))))
  exact o_retI X9 hx k10 hlk hret d22_354 (by rw [e9]; exact ⟨rfl, N0, KK, Vd⟩)
theorem ef_110 (m : MethodId) (x0 x1 : Addr) : entryFrame m #[.ref x0, .ref x1] 5 = mkF m 0 #[Lr x0, Lr x1, Lu, Lu, Lu] [] := by first | (simp [entryFrame, mkF, argsToLocals, Value.category]; done) | rfl
def Q110 (Z : State) (eno ar dco iso utf tbd tbe : Addr) (kd ke : ClassId) (G1 : Int32) (fm : Value) (kb : ClassId) (B0 B1 B2 B3 B4 B5 v0 v1 v2 v3 v4 v5 v6 v7 r0 r1 r2 r3 r4 r5 r6 r7 : Int32) (h0 : Heap) (n0 : Nat) (v : Option Value) (h : Heap) (L : List Loc) : Prop := ∃ (ds : Addr) (kc : ClassId), v = some (.ref ds) ∧ Fr n0 L ∧ Keep h0 h [] ∧ Arv Z h ds kc .byte (0 : Int32) [] (.int 0) ∧ Exa Z h ds "[B" ∧ h0.size ≤ ds
set_option maxRecDepth 65536 in
set_option maxHeartbeats 40000000 in
theorem rm110 (hw : own_W a0 Z) (eno ar dco iso utf tbd tbe : Addr) (kd ke : ClassId) (G1 : Int32) (fm : Value) (kb : ClassId) (B0 B1 B2 B3 B4 B5 v0 v1 v2 v3 v4 v5 v6 v7 r0 r1 r2 r3 r4 r5 r6 r7 : Int32) (h0 : Heap) (n0 : Nat) (Z0 : n0 ≤ h0.size) (hG : own_G Z dco eno iso utf tbd tbe kd ke G1 fm) (X00 : Old Z n0 h0) (Va : Arv Z h0 ar kb .byte (0 : Int32) [] (.int 0)) (hD : own_D 0 B0 B1 B2 B3 B4 B5 v0 v1 v2 v3 v4 v5 v6 v7 r0 r1 r2 r3 r4 r5 r6 r7) :
    own_M l Z yy23 q23 5 (some (.array .byte)) ⟨2, 1, 0, 31⟩ #[.ref eno, .ref ar] h0 [] (Q110 Z eno ar dco iso utf tbd tbe kd ke G1 fm kb B0 B1 B2 B3 B4 B5 v0 v1 v2 v3 v4 v5 v6 v7 r0 r1 r2 r3 r4 r5 r6 r7 h0 n0) := by
  refine own_body (plainFor_of_name pn_3) ?_
  intro p e s m below meth c s₁ A hx hml hown hnm hlk hret hZ X0 e0 k0
  replace k0 := own_ent (ef_110 m eno ar) k0
  have N0 := Fr.nil n0
  have KK : Keep h0 h0 [] := Keep.refl h0 []
  obtain ⟨sD, sE, eD, eE, fDu, fDm, fEp, fEl, fEu, sI, sU, iu, sTd, sTe, aTd, aTe, sC, gC, sS, fmr⟩ := id hG
  obtain ⟨hq0, hq1, hc0, hc1, hc2, hc3, hc4, hc5, hc6, hc7, hz1, hz2, hz4, hz5⟩ := id hD
  have od1 := eE.ext X00.2
  have k2 := fun t_ ht_ => k0 t_ (o_aloadN X0 hx d23_0 rfl rfl (o_aloadN X0 hx d23_1 rfl rfl (o_len X0 hx hZ d23_2 e0 Va (o_iconst X0 hx d23_3 1 rfl ht_))))
  obtain ⟨_, T3, Lc3, X3, hQ3, k3⟩ := o_privateH X0 hx hZ k2 yy21 hown (hw 118 rfl) (hw 119 rfl) (hw 121 rfl) (hw 120 rfl) (hw 122 rfl) (backOfWith (W := 0) (rm107 hw eno dco iso utf tbd tbe kd ke G1 fm h0 n0 Z0 hG X00) hZ (hw 122 rfl) (hw 111 rfl) (by decide) (by decide)) od1 [.int 0, .int 1] [] (lenOf pd_13 rfl) hml e0 d23_4
  obtain ⟨rfl, Nq3, e3⟩ := hQ3
  have N3 := Fr.app N0 Nq3
  replace k3 := own_pushR k3
  have k4 := fun t_ ht_ => k3 t_ (o_istoreN X3 hx d23_7 #[Lr eno, Lr ar, Li 0, Lu, Lu] rfl (o_iloadN X3 hx d23_8 rfl ht_))
  obtain ⟨T5, h5, c5, X5, e5, E5, Ax5, Bx5, k5⟩ := o_newP X3 hx hZ k4 (hw 27 rfl) e3 (by decide) 0 (by decide) "[B" d23_9
  obtain ⟨b5, g5⟩ : ∃ z, z = h0.size := ⟨_, rfl⟩
  rw [← g5] at Ax5 Bx5 k5
  have ne_ar_b5 : ar ≠ b5 := Nat.ne_of_lt (Nat.lt_of_lt_of_le Va.lt (Nat.le_of_eq g5.symm))
  have g_b5 : n0 ≤ b5 := Nat.le_trans Z0 (Nat.le_of_eq g5.symm)
  have sz_b5 : h0.size ≤ b5 := Nat.le_trans KK.1 (Nat.le_of_eq g5.symm)
  replace X00 : Old Z n0 h5 := ⟨X00.1, Nat.le_trans X00.2.1 E5.1, fun x c r => E5.2 x c (X00.2.2 x c r)⟩
  replace Va := Va.ext E5
  have Zs5 := Nat.le_trans Z0 E5.1
  replace KK := KK.ext E5
  have Ex_b5 := Bx5
  have V_b5 : Arv Z h5 b5 c5 .byte 0 [] (.int 0) := Arv.new Ax5 (by decide)
  have od6 := eE.ext X00.2
  have k7 := fun t_ ht_ => k5 t_ (o_astoreN X5 hx d23_11 #[Lr eno, Lr ar, Li 0, Lr b5, Lu] rfl rfl (o_aloadN X5 hx d23_12 rfl rfl (o_aloadN X5 hx d23_13 rfl rfl (o_iconst X5 hx d23_14 0 rfl (o_aloadN X5 hx d23_15 rfl rfl (o_len X5 hx hZ d23_16 e5 Va (o_aloadN X5 hx d23_17 rfl rfl ht_)))))))
  obtain ⟨_, T8, Lc8, X8, hQ8, k8⟩ := o_privateM X5 hx hZ k7 yy22 hown (hw 134 rfl) (hw 135 rfl) (hw 137 rfl) (hw 136 rfl) (hw 138 rfl) (rm109 hw eno ar b5 dco iso utf tbd tbe kd ke G1 fm kb c5 B0 B1 B2 B3 B4 B5 v0 v1 v2 v3 v4 v5 v6 v7 r0 r1 r2 r3 r4 r5 r6 r7  h5 n0 Zs5 hG X00 Va V_b5 ne_ar_b5 g_b5 hD) (hw 111 rfl) 0 od6 [.ref ar, .int 0, .int 0, .ref b5] [] (lenOf pd_9 rfl) hml e5 d23_18
  obtain ⟨rfl, Nq8, K1, V1⟩ := hQ8
  have N8 := Fr.app N3 Nq8
  replace k8 := own_pushR k8
  replace X00 := X00.keep K1 (by simpa using g_b5)
  replace Va := Va.keep K1 (by simpa using ne_ar_b5)
  replace Ex_b5 := Ex_b5.keep K1
  have Zs8 := Nat.le_trans Zs5 K1.1
  replace KK := KK.trans K1 (fun x q => by cases List.mem_singleton.mp q; exact Or.inr sz_b5)
  have k9 := fun t_ ht_ => k8 t_ (o_istore X8 hx d23_21 #[Lr eno, Lr ar, Li 0, Lr b5, Li 0] rfl (o_iload X8 hx d23_23 rfl (o_aloadN X8 hx d23_25 rfl rfl (o_len X8 hx hZ d23_26 rfl V1 (o_icmpYes X8 hx d23_27 (teq (by decide)).1 37 (o_aloadN X8 hx d23_37 rfl rfl ht_))))))
  exact o_retA X8 hx k9 hlk hret rfl d23_38 (by exact ⟨b5, c5, rfl, N8, KK, V1, Ex_b5, sz_b5⟩)
theorem ef_111 (m : MethodId) (x0 x1 : Addr) : entryFrame m #[.ref x0, .ref x1] 3 = mkF m 0 #[Lr x0, Lr x1, Lu] [] := by first | (simp [entryFrame, mkF, argsToLocals, Value.category]; done) | rfl
def Q111 (Z : State) (eno ar dco iso utf tbd tbe : Addr) (kd ke : ClassId) (G1 : Int32) (fm : Value) (al bl : Addr) (kb : ClassId) (B0 B1 B2 B3 B4 B5 v0 v1 v2 v3 v4 v5 v6 v7 r0 r1 r2 r3 r4 r5 r6 r7 : Int32) (h0 : Heap) (n0 : Nat) (v : Option Value) (h : Heap) (L : List Loc) : Prop := ∃ (so : Addr), v = some (.ref so) ∧ Fr n0 L ∧ Keep h0 h [] ∧ Exa Z h so "java/lang/String" ∧ Fld Z h so "java/lang/String" "coder" "B" (.int 0) ∧ Fld Z h so "java/lang/String" "value" "[B" (.ref bl) ∧ h0.size ≤ so
set_option maxRecDepth 65536 in
set_option maxHeartbeats 40000000 in
theorem rm111 (hw : own_W a0 Z) (eno ar dco iso utf tbd tbe : Addr) (kd ke : ClassId) (G1 : Int32) (fm : Value) (al bl : Addr) (kb : ClassId) (B0 B1 B2 B3 B4 B5 v0 v1 v2 v3 v4 v5 v6 v7 r0 r1 r2 r3 r4 r5 r6 r7 : Int32) (h0 : Heap) (n0 : Nat) (Z0 : n0 ≤ h0.size) (hG : own_G Z dco eno iso utf tbd tbe kd ke G1 fm) (X00 : Old Z n0 h0) (Fal : Fld Z h0 al "java/lang/String" "value" "[B" (.ref bl)) (Fac : Fld Z h0 al "java/lang/String" "coder" "B" (.int 0)) (Va : Arv Z h0 ar kb .byte (0 : Int32) [] (.int 0)) (hD : own_D 0 B0 B1 B2 B3 B4 B5 v0 v1 v2 v3 v4 v5 v6 v7 r0 r1 r2 r3 r4 r5 r6 r7) :
    own_ML l Z yy24 q24 3 (some (.object "java/lang/String")) ⟨3, 2, 4, 48⟩ #[.ref eno, .ref ar] h0 al [] (Q111 Z eno ar dco iso utf tbd tbe kd ke G1 fm al bl kb B0 B1 B2 B3 B4 B5 v0 v1 v2 v3 v4 v5 v6 v7 r0 r1 r2 r3 r4 r5 r6 r7 h0 n0) := by
  refine own_bodyL (plainFor_of_name pn_3) ?_
  intro p e s m below meth c s₁ A hx hml hown hnm hlk hret hZ hL X0 e0 k0
  replace k0 := own_ent (ef_111 m eno ar) k0
  have N0 := Fr.nil n0
  have KK : Keep h0 h0 [] := Keep.refl h0 []
  obtain ⟨sD, sE, eD, eE, fDu, fDm, fEp, fEl, fEu, sI, sU, iu, sTd, sTe, aTd, aTe, sC, gC, sS, fmr⟩ := id hG
  obtain ⟨hq0, hq1, hc0, hc1, hc2, hc3, hc4, hc5, hc6, hc7, hz1, hz2, hz4, hz5⟩ := id hD
  have od1 := eE.ext X00.2
  have k2 := fun t_ ht_ => k0 t_ (o_aloadN X0 hx d24_0 rfl rfl (o_aloadN X0 hx d24_1 rfl rfl ht_))
  obtain ⟨_, T3, Lc3, X3, hQ3, k3⟩ := o_virtualM X0 hx hZ k2 yy23 hown (hw 113 rfl) yy23 (hw 114 rfl) (hw 116 rfl) (hw 115 rfl) rfl (rm110 hw eno ar dco iso utf tbd tbe kd ke G1 fm kb B0 B1 B2 B3 B4 B5 v0 v1 v2 v3 v4 v5 v6 v7 r0 r1 r2 r3 r4 r5 r6 r7 h0 n0 Z0 hG X00 Va hD) (hw 117 rfl) (hw 111 rfl) 0 od1 [.ref ar] [] (lenOf pd_11 rfl) hml e0 d24_2
  obtain ⟨ds, kc, rfl, Nq3, K1, V1, E1, G1_⟩ := hQ3
  have N3 := Fr.app N0 Nq3
  replace k3 := own_pushR k3
  replace X00 := X00.keep K1 (by simp)
  replace Fal := Fal.keep K1 (by simp)
  replace Fac := Fac.keep K1 (by simp)
  replace Va := Va.keep K1 (by simp)
  have Zs3 := Nat.le_trans Z0 K1.1
  replace KK := KK.trans K1 (fun x q => nomatch q)
  have k4 := fun t_ ht_ => k3 t_ (o_astoreN X3 hx d24_5 #[Lr eno, Lr ar, Lr ds] rfl rfl ht_)
  obtain ⟨T5, h5, X5, e5, E5, A5, D5, k5⟩ := o_newO X3 hx hZ k4 hown (hw 142 rfl) (hw 10 rfl) (hw 11 rfl) rfl d24_6
  obtain ⟨b5, g5⟩ : ∃ z, z = T3.heap.size := ⟨_, rfl⟩
  rw [← g5] at A5 D5 k5
  have ne_al_b5 : al ≠ b5 := Nat.ne_of_lt (Nat.lt_of_lt_of_le Fal.lt (Nat.le_of_eq g5.symm))
  have ne_ar_b5 : ar ≠ b5 := Nat.ne_of_lt (Nat.lt_of_lt_of_le Va.lt (Nat.le_of_eq g5.symm))
  have ne_ds_b5 : ds ≠ b5 := Nat.ne_of_lt (Nat.lt_of_lt_of_le V1.lt (Nat.le_of_eq g5.symm))
  have g_b5 : n0 ≤ b5 := Nat.le_trans Zs3 (Nat.le_of_eq g5.symm)
  have sz_b5 : h0.size ≤ b5 := Nat.le_trans KK.1 (Nat.le_of_eq g5.symm)
  replace X00 : Old Z n0 h5 := ⟨X00.1, Nat.le_trans X00.2.1 E5.1, fun x c r => E5.2 x c (X00.2.2 x c r)⟩
  replace Fal := Fal.ext E5
  replace Fac := Fac.ext E5
  replace Va := Va.ext E5
  replace V1 := V1.ext E5
  have Zs5 := Nat.le_trans Zs3 E5.1
  replace KK := KK.ext E5
  have Ex_b5 := A5
  have F_coder_b5 : Fld Z h5 b5 "java/lang/String" "coder" "B" (.int 0) := D5 (Or.inr (hw 35 rfl)) (ty := .byte) (by decide)
  have F_value_b5 : Fld Z h5 b5 "java/lang/String" "value" "[B" (.null) := D5 (Or.inr (hw 37 rfl)) (ty := (.array .byte)) (by decide)
  have k6 := fun t_ ht_ => k5 t_ (o_dup X5 hx d24_9 rfl (o_aloadN X5 hx d24_10 rfl rfl (o_iconst X5 hx d24_11 0 rfl (o_iconst X5 hx d24_12 0 rfl (o_aloadN X5 hx d24_13 rfl rfl (o_len X5 hx hZ d24_14 e5 V1 ht_))))))
  obtain ⟨_, T7, Lc7, X7, hQ7, k7⟩ := o_special X5 hx hZ k6 yy12 rfl hown (hw 143 rfl) (hw 144 rfl) (hw 145 rfl) (own_backL hL (W := 1) (rm102 hw b5 ds dco eno iso utf tbd tbe kd ke G1 fm al bl kc h5 n0 Zs5 hG X00 Fal Fac Ex_b5 F_value_b5 F_coder_b5 V1 (Ne.symm ne_ds_b5) (Ne.symm ne_al_b5) g_b5) hZ (hw 145 rfl) (hw 11 rfl) (by decide) (by decide)) b5 [.ref ds, .int 0, .int 0, .int 0] [.ref b5] (lenOf pd_14 rfl) hml e5 d24_15
  obtain ⟨rfl, Nq7, K2, E2, Fc, Fv⟩ := hQ7
  have N7 := Fr.app N3 Nq7
  replace k7 := own_pushV k7
  replace X00 := X00.keep K2 (by simpa using g_b5)
  replace Fal := Fal.keep K2 (by simpa using ne_al_b5)
  replace Fac := Fac.keep K2 (by simpa using ne_al_b5)
  replace Va := Va.keep K2 (by simpa using ne_ar_b5)
  replace V1 := V1.keep K2 (by simpa using ne_ds_b5)
  replace Ex_b5 := Ex_b5.keep K2
  have Zs7 := Nat.le_trans Zs5 K2.1
  replace KK := KK.trans K2 (fun x q => by cases List.mem_singleton.mp q; exact Or.inr sz_b5)
  exact o_retA X7 hx k7 hlk hret rfl d24_18 (by exact ⟨b5, rfl, N7, KK, E2, Fc, Fv, sz_b5⟩)
theorem ef_112 (m : MethodId) (x0 : Addr) : entryFrame m #[.ref x0] 2 = mkF m 0 #[Lr x0, Lu] [] := by first | (simp [entryFrame, mkF, argsToLocals, Value.category]; done) | rfl
def Q112 (Z : State) (a1 dco eno iso utf tbd tbe : Addr) (kd ke : ClassId) (G1 : Int32) (fm : Value) (al bl : Addr) (kb : ClassId) (B0 B1 B2 B3 B4 B5 v0 v1 v2 v3 v4 v5 v6 v7 r0 r1 r2 r3 r4 r5 r6 r7 : Int32) (h0 : Heap) (n0 : Nat) (v : Option Value) (h : Heap) (L : List Loc) : Prop := ∃ (ds : Addr) (kc : ClassId), v = some (.ref ds) ∧ Fr n0 L ∧ Keep h0 h [] ∧ Arv Z h ds kc .byte (0 : Int32) [] (.int 0) ∧ h0.size ≤ ds
set_option maxRecDepth 65536 in
set_option maxHeartbeats 40000000 in
theorem rm112 (hw : own_W a0 Z) (a1 dco eno iso utf tbd tbe : Addr) (kd ke : ClassId) (G1 : Int32) (fm : Value) (al bl : Addr) (kb : ClassId) (B0 B1 B2 B3 B4 B5 v0 v1 v2 v3 v4 v5 v6 v7 r0 r1 r2 r3 r4 r5 r6 r7 : Int32) (h0 : Heap) (n0 : Nat) (Z0 : n0 ≤ h0.size) (hG : own_G Z dco eno iso utf tbd tbe kd ke G1 fm) (X00 : Old Z n0 h0) (Fal : Fld Z h0 al "java/lang/String" "value" "[B" (.ref bl)) (Fac : Fld Z h0 al "java/lang/String" "coder" "B" (.int 0)) (Es : Exa Z h0 a1 "java/lang/String") (Fc : Fld Z h0 a1 "java/lang/String" "coder" "B" (.int 0)) (Fv : Fld Z h0 a1 "java/lang/String" "value" "[B" (.ref bl)) (Va : Arv Z h0 bl kb .byte (0 : Int32) [] (.int 0)) (Ea : Exa Z h0 bl "[B") (hD : own_D 0 B0 B1 B2 B3 B4 B5 v0 v1 v2 v3 v4 v5 v6 v7 r0 r1 r2 r3 r4 r5 r6 r7) :
    own_ML l Z yy25 q25 2 (some (.array .byte)) ⟨6, 4, 12, 89⟩ #[.ref a1] h0 al [] (Q112 Z a1 dco eno iso utf tbd tbe kd ke G1 fm al bl kb B0 B1 B2 B3 B4 B5 v0 v1 v2 v3 v4 v5 v6 v7 r0 r1 r2 r3 r4 r5 r6 r7 h0 n0) := by
  refine own_bodyL (plainFor_of_name pn_7) ?_
  intro p e s m below meth c s₁ A hx hml hown hnm hlk hret hZ hL X0 e0 k0
  replace k0 := own_ent (ef_112 m a1) k0
  have N0 := Fr.nil n0
  have KK : Keep h0 h0 [] := Keep.refl h0 []
  obtain ⟨sD, sE, eD, eE, fDu, fDm, fEp, fEl, fEu, sI, sU, iu, sTd, sTe, aTd, aTe, sC, gC, sS, fmr⟩ := id hG
  obtain ⟨hq0, hq1, hc0, hc1, hc2, hc3, hc4, hc5, hc6, hc7, hz1, hz2, hz4, hz5⟩ := id hD
  obtain ⟨T1, X1, e1, k1⟩ := o_getS X0 hx hZ k0 hown (host := "") (Or.inl (hw 42 rfl)) Via.refl e0 (sD.ext X00.2) d25_0
  have od2 := eD.ext X00.2
  have k3 := fun t_ ht_ => k1 t_ (o_aloadN X1 hx d25_3 rfl rfl ht_)
  obtain ⟨_, T4, Lc4, X4, hQ4, k4⟩ := o_virtualM X1 hx hZ k3 yy18 hown (hw 44 rfl) yy18 (hw 45 rfl) (hw 47 rfl) (hw 46 rfl) rfl (rm106 hw dco a1 eno iso utf tbd tbe kd ke G1 fm bl kb B0 B1 B2 B3 B4 B5 v0 v1 v2 v3 v4 v5 v6 v7 r0 r1 r2 r3 r4 r5 r6 r7 h0 n0 Z0 hG X00 Es Fc Fv Va Ea hD) (hw 49 rfl) (hw 48 rfl) 0 od2 [.ref a1] [] (lenOf pd_15 rfl) hml e1 d25_4
  obtain ⟨ds, kc, rfl, Nq4, K1, V1, G1_, g_ds⟩ := hQ4
  have N4 := Fr.app N0 Nq4
  replace k4 := own_pushR k4
  have sz_ds : h0.size ≤ ds := Nat.le_trans KK.1 G1_
  replace X00 := X00.keep K1 (by simp)
  replace Fal := Fal.keep K1 (by simp)
  replace Fac := Fac.keep K1 (by simp)
  replace Es := Es.keep K1
  replace Fc := Fc.keep K1 (by simp)
  replace Fv := Fv.keep K1 (by simp)
  replace Va := Va.keep K1 (by simp)
  replace Ea := Ea.keep K1
  have Zs4 := Nat.le_trans Z0 K1.1
  replace KK := KK.trans K1 (fun x q => nomatch q)
  have k5 := fun t_ ht_ => k4 t_ (o_astoreN X4 hx d25_7 #[Lr a1, Lr ds] rfl rfl ht_)
  obtain ⟨T6, X6, e6, k6⟩ := o_getS X4 hx hZ k5 hown (host := "") (Or.inl (hw 105 rfl)) Via.refl rfl (sE.ext X00.2) d25_8
  have od7 := eE.ext X00.2
  have k8 := fun t_ ht_ => k6 t_ (o_aloadN X6 hx d25_11 rfl rfl ht_)
  obtain ⟨_, T9, Lc9, X9, hQ9, k9⟩ := o_virtual X6 hx hZ k8 yy24 hown (hw 107 rfl) yy24 (hw 108 rfl) (hw 110 rfl) (hw 109 rfl) rfl (own_backL hL (W := 0) (rm111 hw eno ds dco iso utf tbd tbe kd ke G1 fm al bl kc B0 B1 B2 B3 B4 B5 v0 v1 v2 v3 v4 v5 v6 v7 r0 r1 r2 r3 r4 r5 r6 r7 T4.heap n0 Zs4 hG X00 Fal Fac V1 hD) hZ (hw 112 rfl) (hw 111 rfl) (by decide) (by decide)) od7 [.ref ds] [] (lenOf pd_16 rfl) hml e6 d25_12
  obtain ⟨so, rfl, Nq9, K2, E2, Fc2, Fv2, G2⟩ := hQ9
  have N9 := Fr.app N4 Nq9
  replace k9 := own_pushR k9
  have ne_so : so ≠ a1 := Ne.symm (Nat.ne_of_lt (Nat.lt_of_lt_of_le Es.lt G2))
  replace X00 := X00.keep K2 (by simp)
  replace Fal := Fal.keep K2 (by simp)
  replace Fac := Fac.keep K2 (by simp)
  replace Es := Es.keep K2
  replace Fc := Fc.keep K2 (by simp)
  replace Fv := Fv.keep K2 (by simp)
  replace Va := Va.keep K2 (by simp)
  replace Ea := Ea.keep K2
  replace V1 := V1.keep K2 (by simp)
  have Zs9 := Nat.le_trans Zs4 K2.1
  replace KK := KK.trans K2 (fun x q => nomatch q)
  have k10 := fun t_ ht_ => k9 t_ (o_aloadN X9 hx d25_15 rfl rfl ht_)
  obtain ⟨_, T11, Lc11, X11, hQ11, k11⟩ := o_virtualM X9 hx hZ k10 yy14 hown (hw 160 rfl) yy14 (hw 161 rfl) (hw 163 rfl) (hw 162 rfl) rfl (rm36 hw so a1 dco eno iso utf tbd tbe kd ke G1 fm bl bl kb kb (0 : Int32) [] T9.heap n0 Zs9 hG X00 E2 Fc2 Fv2 Es Fc Fv Va Va ne_so) (hw 164 rfl) (hw 11 rfl) 0 E2 [.ref a1] [] (lenOf pd_17 rfl) hml rfl d25_16
  obtain ⟨rfl, Nq11, e11⟩ := hQ11
  have N11 := Fr.app N9 Nq11
  replace k11 := own_pushR k11
  have k12 := fun t_ ht_ => k11 t_ (o_ifYes X11 hx d25_19 ((if0 _ _).trans (feq (by decide)).2) 32 (o_aloadN X11 hx d25_32 rfl rfl ht_))
  exact o_retA X11 hx k12 hlk hret rfl d25_33 (by rw [e11]; exact ⟨ds, kc, rfl, N11, KK, V1, sz_ds⟩)
theorem ef_113 (m : MethodId) (x0 x1 : Addr) (x2 x3 : Int32) : entryFrame m #[.ref x0, .ref x1, .int x2, .int x3, .null] 6 = mkF m 0 #[Lr x0, Lr x1, Li x2, Li x3, Ln, Lu] [] := by first | (simp [entryFrame, mkF, argsToLocals, Value.category]; done) | rfl
def Q113 (Z : State) (a1 ca : Addr) (h0 : Heap) (n0 : Nat) (al : Addr) (v : Option Value) (h : Heap) (L : List Loc) : Prop := ∃ (bl : Addr) (kb : ClassId), v = none ∧ Fr n0 L ∧ Keep h0 h [a1] ∧ Exa Z h a1 "java/lang/String" ∧ Fld Z h a1 "java/lang/String" "coder" "B" (.int 0) ∧ Fld Z h a1 "java/lang/String" "value" "[B" (.ref bl) ∧ Fld Z h al "java/lang/String" "value" "[B" (.ref bl) ∧ Fld Z h al "java/lang/String" "coder" "B" (.int 0) ∧ Arv Z h bl kb .byte 0 [] (.int 0) ∧ Exa Z h bl "[B"
set_option maxRecDepth 65536 in
set_option maxHeartbeats 40000000 in
theorem rm113 (hw : own_W a0 Z) (a1 ca : Addr) (h0 : Heap) (n0 : Nat) (Z0 : n0 ≤ h0.size) (Es : Exa Z h0 a1 "java/lang/String") (Fv : Fld Z h0 a1 "java/lang/String" "value" "[B" .null) (Fc : Fld Z h0 a1 "java/lang/String" "coder" "B" (.int 0)) (g_a1 : n0 ≤ a1) :
    own_MS l Z yy27 q27 6 none ⟨1, 2, 4, 12⟩ #[.ref a1, .ref ca, .int 0, .int 0, .null] h0 (Q113 Z a1 ca h0 n0) := by
  refine own_bodyS (plainFor_of_name pn_1) ?_
  intro p e s m below meth c s₁ A hx hml hown hnm hlk hret hZ hCH X0 e0 k0
  replace k0 := own_ent (ef_113 m a1 ca 0 0) k0
  have N0 := Fr.nil n0
  have KK : Keep h0 h0 [a1] := Keep.refl h0 [a1]
  have k1 := fun t_ ht_ => k0 t_ (o_aloadN X0 hx d27_0 rfl rfl ht_)
  obtain ⟨T2, X2, e2, k2⟩ := o_initO X0 hx hZ k1 hown (hw 19 rfl) (hw 20 rfl) (hw 21 rfl) e0 d27_1 hml 0
  have k3 := fun t_ ht_ => k2 t_ (o_iloadN X2 hx d27_4 rfl (o_ifNo X2 hx d27_5 ((if0 _ _).trans (teq (by decide)).2) (o_aloadN X2 hx d27_8 rfl rfl ht_)))
  obtain ⟨al, T4, h4, k14, bl, kb, X4, e4, E4, hS4, hk4, hZ, hown, Fac, Fal, Va, Ea, hL, k4⟩ := o_ldcC X2 hx hZ k3 hown (hw 186 rfl) (own_wS hw) e2 (own_hEL hw) hCH d27_9
  replace Es := Es.ext E4
  replace Fv := Fv.ext E4
  replace Fc := Fc.ext E4
  have Zs4 := Nat.le_trans Z0 E4.1
  replace KK := KK.ext E4
  have hna : a1 ≠ al := Fld.ne Fv Fal (by simp)
  have hnb : a1 ≠ bl := Es.ne Ea (by decide)
  obtain ⟨T5, X5, e5, k5⟩ := o_getF X4 hx hZ k4 hown (host := "") (Or.inl (hw 36 rfl)) Via.refl e4 Fal d27_11
  obtain ⟨T6, h6, X6, e6, W6, k6⟩ := o_putF X5 hx hZ k5 hown (host := "") (Or.inl (hw 36 rfl)) Via.refl e5 Fv Es (Or.inr ⟨(hw 37 rfl), rfl, hnm⟩) (hw 10 rfl) d27_14 (.array .byte)
  replace Es := Es.wr W6
  replace Fc := Fc.other W6 (Or.inr (slot_ne (Or.inr (hw 35 rfl)) (Or.inr (hw 37 rfl)) (by decide) (t := .byte) (t' := (.array .byte)) (by decide) (by decide)))
  replace Fal := Fal.other W6 (Or.inl (Ne.symm hna))
  replace Fac := Fac.other W6 (Or.inl (Ne.symm hna))
  replace Va := Va.other W6 (Ne.symm hnb)
  replace Ea := Ea.wr W6
  have Zs6 := Nat.le_trans Zs4 (Keep.of_wr W6).1
  replace KK := KK.wr W6 (Or.inl (by simp))
  replace Fv := Fv.same W6
  have N6 := Fr.snoc X6 N0 g_a1
  have k7 := fun t_ ht_ => k6 t_ (o_aloadN X6 hx d27_17 rfl rfl (o_ldcA X6 hx d27_18 hZ hown (hw 186 rfl) hL ht_))
  obtain ⟨T8, X8, e8, k8⟩ := o_getF X6 hx hZ k7 hown (host := "") (Or.inl (hw 34 rfl)) Via.refl e6 Fac d27_20
  obtain ⟨T9, h9, X9, e9, W9, k9⟩ := o_putFN X8 hx hZ k8 hown (hw 34 rfl) Via.refl e8 Fc Es (Or.inr ⟨(hw 35 rfl), rfl, hnm⟩) (hw 10 rfl) d27_23 .byte (.int 0) rfl (rfl)
  replace Es := Es.wr W9
  replace Fv := Fv.other W9 (Or.inr (slot_ne (Or.inr (hw 37 rfl)) (Or.inr (hw 35 rfl)) (by decide) (t := (.array .byte)) (t' := .byte) (by decide) (by decide)))
  replace Fal := Fal.other W9 (Or.inl (Ne.symm hna))
  replace Fac := Fac.other W9 (Or.inl (Ne.symm hna))
  replace Va := Va.other W9 (Ne.symm hnb)
  replace Ea := Ea.wr W9
  have Zs9 := Nat.le_trans Zs6 (Keep.of_wr W9).1
  replace KK := KK.wr W9 (Or.inl (by simp))
  replace Fc := Fc.same W9
  have N9 := Fr.snoc X9 N6 g_a1
  exact o_retVS (vm := T4.vm) X9 hx k9 hlk hret d27_26 hS4 (by rw [e9]; exact Nat.le_trans (Nat.le_trans hk4 (Keep.of_wr W6).1) (Keep.of_wr W9).1) hL (by rw [e9]; exact ⟨bl, kb, rfl, N9, KK, Es, Fc, Fv, Fal, Fac, Va, Ea⟩)
theorem ef_114 (m : MethodId) (x0 x1 : Addr) : entryFrame m #[.ref x0, .ref x1] 2 = mkF m 0 #[Lr x0, Lr x1] [] := by first | (simp [entryFrame, mkF, argsToLocals, Value.category]; done) | rfl
def Q114 (Z : State) (a1 ca : Addr) (kca : ClassId) (h0 : Heap) (n0 : Nat) (al : Addr) (v : Option Value) (h : Heap) (L : List Loc) : Prop := ∃ (bl : Addr) (kb : ClassId), v = none ∧ Fr n0 L ∧ Keep h0 h [a1] ∧ Exa Z h a1 "java/lang/String" ∧ Fld Z h a1 "java/lang/String" "coder" "B" (.int 0) ∧ Fld Z h a1 "java/lang/String" "value" "[B" (.ref bl) ∧ Fld Z h al "java/lang/String" "value" "[B" (.ref bl) ∧ Fld Z h al "java/lang/String" "coder" "B" (.int 0) ∧ Arv Z h bl kb .byte 0 [] (.int 0) ∧ Exa Z h bl "[B"
set_option maxRecDepth 65536 in
set_option maxHeartbeats 40000000 in
theorem rm114 (hw : own_W a0 Z) (a1 ca : Addr) (kca : ClassId) (h0 : Heap) (n0 : Nat) (Z0 : n0 ≤ h0.size) (Es : Exa Z h0 a1 "java/lang/String") (Fv : Fld Z h0 a1 "java/lang/String" "value" "[B" .null) (Fc : Fld Z h0 a1 "java/lang/String" "coder" "B" (.int 0)) (g_a1 : n0 ≤ a1) (Vc : Arv Z h0 ca kca .char 0 [] (.int 0)) :
    own_MS l Z yy28 q28 2 none ⟨2, 2, 4, 29⟩ #[.ref a1, .ref ca] h0 (Q114 Z a1 ca kca h0 n0) := by
  refine own_bodyS (plainFor_of_name pn_1) ?_
  intro p e s m below meth c s₁ A hx hml hown hnm hlk hret hZ hCH X0 e0 k0
  replace k0 := own_ent (ef_114 m a1 ca) k0
  have N0 := Fr.nil n0
  have k1 := fun t_ ht_ => k0 t_ (o_aloadN X0 hx d28_0 rfl rfl (o_aloadN X0 hx d28_1 rfl rfl (o_iconst X0 hx d28_2 0 rfl (o_aloadN X0 hx d28_3 rfl rfl (o_len X0 hx hZ d28_4 e0 Vc (o_aconstNull X0 hx d28_5 ht_))))))
  obtain ⟨_, T2, Lc2, al, X2, hQ2, hL, hS2, hZ, hown, k2⟩ := o_specialS X0 hx hZ k1 yy27 rfl hown (hw 15 rfl) (hw 16 rfl) (hw 18 rfl) (rm113 hw a1 ca  h0 n0 Z0 Es Fv Fc g_a1) (hw 11 rfl) (own_hEL hw) hCH 0 a1 [.ref ca, .int 0, .int 0, .null] [] (lenOf pd_20 rfl) hml e0 d28_6
  obtain ⟨bl, kb, rfl, Nq2, K1, E1, Fc1, Fv1, Fal, Fac, Va, Ea⟩ := hQ2
  have N2 := Fr.app N0 Nq2
  replace k2 := own_pushV k2
  exact o_retVS (vm := T2.vm) X2 hx k2 hlk hret d28_9 hS2 (Nat.le_refl _) hL (by exact ⟨bl, kb, rfl, N2, K1, E1, Fc1, Fv1, Fal, Fac, Va, Ea⟩)
theorem ef_115 (m : MethodId) (x0 : Addr) (x1 x2 x3 : Int32) : entryFrame m #[.ref x0, .int x1, .int x2, .int x3] 4 = mkF m 0 #[Lr x0, Li x1, Li x2, Li x3] [] := by first | (simp [entryFrame, mkF, argsToLocals, Value.category]; done) | rfl
def Q115 (Z : State) (ar : Addr) (p2 p3 p4 : Int32) (h0 : Heap) (n0 : Nat) (v : Option Value) (h : Heap) (L : List Loc) : Prop := v = some (.int (1 : Int32)) ∧ Fr n0 L ∧ h = h0
set_option maxRecDepth 65536 in
set_option maxHeartbeats 40000000 in
theorem rm115 (hw : own_W a0 Z) (ar : Addr) (p2 p3 p4 : Int32) (h0 : Heap) (n0 : Nat) (Z0 : n0 ≤ h0.size) (hge : ¬ (p2 < p3)) :
    own_M l Z yy29 q29 4 (some .boolean) ⟨0, 0, 0, 0⟩ #[.ref ar, .int p2, .int p3, .int p4] h0 [] (Q115 Z ar p2 p3 p4 h0 n0) := by
  refine own_body (plainFor_of_name pn_0) ?_
  intro p e s m below meth c s₁ A hx hml hown hnm hlk hret hZ X0 e0 k0
  replace k0 := own_ent (ef_115 m ar p2 p3 p4) k0
  have N0 := Fr.nil n0
  have k1 := fun t_ ht_ => k0 t_ (o_iloadN X0 hx d29_0 rfl (o_iloadN X0 hx d29_1 rfl (o_icmpYes X0 hx d29_2 (flt (hge)).2.1 16 (o_iconst X0 hx d29_16 1 rfl (o_goto X0 hx d29_17 21 ht_)))))
  exact o_retN X0 hx k1 hlk hret (by simp) d29_21 (by rw [e0]; exact ⟨rfl, N0, rfl⟩)
theorem ef_116 (m : MethodId) (x0 : Addr) (x1 x2 x3 : Int32) : entryFrame m #[.ref x0, .int x1, .int x2, .int x3] 4 = mkF m 0 #[Lr x0, Li x1, Li x2, Li x3] [] := by first | (simp [entryFrame, mkF, argsToLocals, Value.category]; done) | rfl
def Q116 (Z : State) (ar : Addr) (p2 p3 p4 : Int32) (kb : ClassId) (Nb : Int32) (vs : List Value) (yv : Int32) (h0 : Heap) (n0 : Nat) (v : Option Value) (h : Heap) (L : List Loc) : Prop := v = some (.int (1 : Int32)) ∧ Fr n0 L ∧ h = h0
set_option maxRecDepth 65536 in
set_option maxHeartbeats 40000000 in
theorem rm116 (hw : own_W a0 Z) (ar : Addr) (p2 p3 p4 : Int32) (kb : ClassId) (Nb : Int32) (vs : List Value) (yv : Int32) (h0 : Heap) (n0 : Nat) (Z0 : n0 ≤ h0.size) (Va : Arv Z h0 ar kb .byte Nb vs (.int 0)) (hlt : p2 < p3) (hin0 : ¬ p2 < 0 ∧ p2 < Nb) (hat : vs.getD p2.toNatClampNeg (.int 0) = .int yv) (he : (yv &&& (255 : Int32)) = p4) :
    own_M l Z yy29 q29 4 (some .boolean) ⟨0, 0, 0, 0⟩ #[.ref ar, .int p2, .int p3, .int p4] h0 [] (Q116 Z ar p2 p3 p4 kb Nb vs yv h0 n0) := by
  refine own_body (plainFor_of_name pn_0) ?_
  intro p e s m below meth c s₁ A hx hml hown hnm hlk hret hZ X0 e0 k0
  replace k0 := own_ent (ef_116 m ar p2 p3 p4) k0
  have N0 := Fr.nil n0
  have k1 := fun t_ ht_ => k0 t_ (o_iloadN X0 hx d29_0 rfl (o_iloadN X0 hx d29_1 rfl (o_icmpNo X0 hx d29_2 (tlt (hlt)).2.1 (o_aloadN X0 hx d29_5 rfl rfl (o_iloadN X0 hx d29_6 rfl (o_ldB X0 hx hZ d29_7 e0 Va hin0 hat (o_sipush X0 hx d29_8 255 rfl (o_iand X0 hx d29_11 rfl (o_iloadN X0 hx d29_12 rfl (o_icmpNo X0 hx d29_13 (teq (he)).2 (o_iconst X0 hx d29_16 1 rfl (o_goto X0 hx d29_17 21 ht_))))))))))))
  exact o_retN X0 hx k1 hlk hret (by simp) d29_21 (by rw [e0]; exact ⟨rfl, N0, rfl⟩)
theorem ef_0 (m : MethodId) (x0 x1 x2 : Int32) : entryFrame m #[.int x0, .int x1, .int x2] maxLocals = mkF m 0 #[Li x0, Li x1, Li x2, Lu, Lu, Lu, Lu, Lu, Lu, Lu, Lu, Lu, Lu, Lu, Lu, Lu, Lu, Lu, Lu, Lu] [] := by first | (simp [entryFrame, mkF, argsToLocals, Value.category, maxLocals]; done) | rfl
def Q0 (Z : State) (p1 p2 p3 : Int32) (dco eno iso utf tbd tbe : Addr) (kd ke : ClassId) (G1 : Int32) (fm : Value) (h0 : Heap) (n0 : Nat) (v : Option Value) (h : Heap) (L : List Loc) : Prop := v = some (.int 1) ∧ Fr n0 L
set_option maxRecDepth 65536 in
set_option maxHeartbeats 40000000 in
theorem rm0 (hw : own_W a0 Z) (ws : List Jvm.Cond) (p1 p2 p3 : Int32) (dco eno iso utf tbd tbe : Addr) (kd ke : ClassId) (G1 : Int32) (fm : Value) (h0 : Heap) (n0 : Nat) (Z0 : n0 ≤ h0.size) (hG : own_G Z dco eno iso utf tbd tbe kd ke G1 fm) (X00 : Old Z n0 h0) :
    own_MW l Z x code maxLocals ret room_1 #[.int p1, .int p2, .int p3] h0 own_EL ws (Q0 Z p1 p2 p3 dco eno iso utf tbd tbe kd ke G1 fm h0 n0) := by
  refine own_bodyW (plainFor_of_name pn_0) ?_
  intro p e s m below meth c s₁ A hx hml hown hnm hlk hret hZ hCH X0 e0 k0
  replace k0 := own_ent (ef_0 m p1 p2 p3) k0
  have N0 := Fr.nil n0
  have hS0 : s.Since s.vm 0 := (Jvm.State.WarmedH.refl s).since 0
  obtain ⟨sD, sE, eD, eE, fDu, fDm, fEp, fEl, fEu, sI, sU, iu, sTd, sTe, aTd, aTe, sC, gC, sS, fmr⟩ := id hG
  have hws : ∀ d ∈ StrChars.Road.words, d.before a0 Z = true := fun d hd => own_Wj hw d ((by decide +kernel : ∀ d ∈ StrChars.Road.words, d ∈ tables_1) d hd)
  have k1 := fun t_ ht_ => k0 t_ (o_iloadN X0 hx at_0 rfl (o_ldcInt X0 hx at_1 hown (mvT hZ (hw 0 rfl)) (o_iand X0 hx at_3 rfl (o_bipush X0 hx at_4 7 rfl (o_irem X0 hx at_6 (by decide) ht_)))))
  obtain ⟨nn, hnn⟩ : ∃ z : Int32, z = ((p3 &&& (2147483647 : Int32)) - ((p3 &&& (2147483647 : Int32)) / (7 : Int32)) * (7 : Int32)) := ⟨_, rfl⟩
  rw [← hnn] at k1
  have k2 := fun t_ ht_ => k1 t_ (o_istoreN X0 hx at_7 #[Li p1, Li p2, Li p3, Li nn, Lu, Lu, Lu, Lu, Lu, Lu, Lu, Lu, Lu, Lu, Lu, Lu, Lu, Lu, Lu, Lu] rfl (o_iloadN X0 hx at_8 rfl ht_))
  obtain ⟨u0, hu0, k3⟩ : ∃ z : Int32, (((0 : Int32) < nn) ∧ z = (p1 &&& (255 : Int32)) ∨ ¬ ((0 : Int32) < nn) ∧ z = (0 : Int32)) ∧ ∀ t_, Steps p.tables e below (s₁.setTop (mkF m 21 #[Li p1, Li p2, Li p3, Li nn, Lu, Lu, Lu, Lu, Lu, Lu, Lu, Lu, Lu, Lu, Lu, Lu, Lu, Lu, Lu, Lu] [.int z])) t_ → Steps p.tables e below A t_ := by
    by_cases hbu0 : (0 : Int32) < nn
    · exact ⟨(p1 &&& (255 : Int32)), Or.inl ⟨hbu0, rfl⟩, fun t_ ht_ => k2 t_ (o_ifNo X0 hx at_9 ((if0 _ _).trans (tlt (hbu0)).2.2.2) (o_iloadN X0 hx at_12 rfl (o_sipush X0 hx at_13 255 rfl (o_iand X0 hx at_16 rfl (o_goto X0 hx at_17 21 ht_)))))⟩
    · exact ⟨(0 : Int32), Or.inr ⟨hbu0, rfl⟩, fun t_ ht_ => k2 t_ (o_ifYes X0 hx at_9 ((if0 _ _).trans (flt (hbu0)).2.2.2) 20 (o_iconst X0 hx at_20 0 rfl ht_))⟩
  have hB0 : own_B8 u0 := own_b8 hu0
  have k4 := fun t_ ht_ => k3 t_ (o_istore X0 hx at_21 #[Li p1, Li p2, Li p3, Li nn, Li u0, Lu, Lu, Lu, Lu, Lu, Lu, Lu, Lu, Lu, Lu, Lu, Lu, Lu, Lu, Lu] rfl (o_iloadN X0 hx at_23 rfl (o_iconst X0 hx at_24 1 rfl ht_)))
  obtain ⟨u1, hu1, k5⟩ : ∃ z : Int32, (((1 : Int32) < nn) ∧ z = (((p1.toUInt32 >>> ((8 : Int32) &&& 31).toUInt32).toInt32) &&& (255 : Int32)) ∨ ¬ ((1 : Int32) < nn) ∧ z = (0 : Int32)) ∧ ∀ t_, Steps p.tables e below (s₁.setTop (mkF m 40 #[Li p1, Li p2, Li p3, Li nn, Li u0, Lu, Lu, Lu, Lu, Lu, Lu, Lu, Lu, Lu, Lu, Lu, Lu, Lu, Lu, Lu] [.int z])) t_ → Steps p.tables e below A t_ := by
    by_cases hbu1 : (1 : Int32) < nn
    · exact ⟨(((p1.toUInt32 >>> ((8 : Int32) &&& 31).toUInt32).toInt32) &&& (255 : Int32)), Or.inl ⟨hbu1, rfl⟩, fun t_ ht_ => k4 t_ (o_icmpNo X0 hx at_25 (tlt (hbu1)).2.2.2 (o_iloadN X0 hx at_28 rfl (o_bipush X0 hx at_29 8 rfl (o_iushr X0 hx at_31 (o_sipush X0 hx at_32 255 rfl (o_iand X0 hx at_35 rfl (o_goto X0 hx at_36 40 ht_)))))))⟩
    · exact ⟨(0 : Int32), Or.inr ⟨hbu1, rfl⟩, fun t_ ht_ => k4 t_ (o_icmpYes X0 hx at_25 (flt (hbu1)).2.2.2 39 (o_iconst X0 hx at_39 0 rfl ht_))⟩
  have hB1 : own_B8 u1 := own_b8 hu1
  have k6 := fun t_ ht_ => k5 t_ (o_istore X0 hx at_40 #[Li p1, Li p2, Li p3, Li nn, Li u0, Li u1, Lu, Lu, Lu, Lu, Lu, Lu, Lu, Lu, Lu, Lu, Lu, Lu, Lu, Lu] rfl (o_iloadN X0 hx at_42 rfl (o_iconst X0 hx at_43 2 rfl ht_)))
  obtain ⟨u2, hu2, k7⟩ : ∃ z : Int32, (((2 : Int32) < nn) ∧ z = (((p1.toUInt32 >>> ((16 : Int32) &&& 31).toUInt32).toInt32) &&& (255 : Int32)) ∨ ¬ ((2 : Int32) < nn) ∧ z = (0 : Int32)) ∧ ∀ t_, Steps p.tables e below (s₁.setTop (mkF m 59 #[Li p1, Li p2, Li p3, Li nn, Li u0, Li u1, Lu, Lu, Lu, Lu, Lu, Lu, Lu, Lu, Lu, Lu, Lu, Lu, Lu, Lu] [.int z])) t_ → Steps p.tables e below A t_ := by
    by_cases hbu2 : (2 : Int32) < nn
    · exact ⟨(((p1.toUInt32 >>> ((16 : Int32) &&& 31).toUInt32).toInt32) &&& (255 : Int32)), Or.inl ⟨hbu2, rfl⟩, fun t_ ht_ => k6 t_ (o_icmpNo X0 hx at_44 (tlt (hbu2)).2.2.2 (o_iloadN X0 hx at_47 rfl (o_bipush X0 hx at_48 16 rfl (o_iushr X0 hx at_50 (o_sipush X0 hx at_51 255 rfl (o_iand X0 hx at_54 rfl (o_goto X0 hx at_55 59 ht_)))))))⟩
    · exact ⟨(0 : Int32), Or.inr ⟨hbu2, rfl⟩, fun t_ ht_ => k6 t_ (o_icmpYes X0 hx at_44 (flt (hbu2)).2.2.2 58 (o_iconst X0 hx at_58 0 rfl ht_))⟩
  have hB2 : own_B8 u2 := own_b8 hu2
  have k8 := fun t_ ht_ => k7 t_ (o_istore X0 hx at_59 #[Li p1, Li p2, Li p3, Li nn, Li u0, Li u1, Li u2, Lu, Lu, Lu, Lu, Lu, Lu, Lu, Lu, Lu, Lu, Lu, Lu, Lu] rfl (o_iloadN X0 hx at_61 rfl (o_iconst X0 hx at_62 3 rfl ht_)))
  obtain ⟨u3, hu3, k9⟩ : ∃ z : Int32, (((3 : Int32) < nn) ∧ z = (((p1.toUInt32 >>> ((24 : Int32) &&& 31).toUInt32).toInt32) &&& (255 : Int32)) ∨ ¬ ((3 : Int32) < nn) ∧ z = (0 : Int32)) ∧ ∀ t_, Steps p.tables e below (s₁.setTop (mkF m 78 #[Li p1, Li p2, Li p3, Li nn, Li u0, Li u1, Li u2, Lu, Lu, Lu, Lu, Lu, Lu, Lu, Lu, Lu, Lu, Lu, Lu, Lu] [.int z])) t_ → Steps p.tables e below A t_ := by
    by_cases hbu3 : (3 : Int32) < nn
    · exact ⟨(((p1.toUInt32 >>> ((24 : Int32) &&& 31).toUInt32).toInt32) &&& (255 : Int32)), Or.inl ⟨hbu3, rfl⟩, fun t_ ht_ => k8 t_ (o_icmpNo X0 hx at_63 (tlt (hbu3)).2.2.2 (o_iloadN X0 hx at_66 rfl (o_bipush X0 hx at_67 24 rfl (o_iushr X0 hx at_69 (o_sipush X0 hx at_70 255 rfl (o_iand X0 hx at_73 rfl (o_goto X0 hx at_74 78 ht_)))))))⟩
    · exact ⟨(0 : Int32), Or.inr ⟨hbu3, rfl⟩, fun t_ ht_ => k8 t_ (o_icmpYes X0 hx at_63 (flt (hbu3)).2.2.2 77 (o_iconst X0 hx at_77 0 rfl ht_))⟩
  have hB3 : own_B8 u3 := own_b8 hu3
  have k10 := fun t_ ht_ => k9 t_ (o_istore X0 hx at_78 #[Li p1, Li p2, Li p3, Li nn, Li u0, Li u1, Li u2, Li u3, Lu, Lu, Lu, Lu, Lu, Lu, Lu, Lu, Lu, Lu, Lu, Lu] rfl (o_iloadN X0 hx at_80 rfl (o_iconst X0 hx at_81 4 rfl ht_)))
  obtain ⟨u4, hu4, k11⟩ : ∃ z : Int32, (((4 : Int32) < nn) ∧ z = (p2 &&& (255 : Int32)) ∨ ¬ ((4 : Int32) < nn) ∧ z = (0 : Int32)) ∧ ∀ t_, Steps p.tables e below (s₁.setTop (mkF m 94 #[Li p1, Li p2, Li p3, Li nn, Li u0, Li u1, Li u2, Li u3, Lu, Lu, Lu, Lu, Lu, Lu, Lu, Lu, Lu, Lu, Lu, Lu] [.int z])) t_ → Steps p.tables e below A t_ := by
    by_cases hbu4 : (4 : Int32) < nn
    · exact ⟨(p2 &&& (255 : Int32)), Or.inl ⟨hbu4, rfl⟩, fun t_ ht_ => k10 t_ (o_icmpNo X0 hx at_82 (tlt (hbu4)).2.2.2 (o_iloadN X0 hx at_85 rfl (o_sipush X0 hx at_86 255 rfl (o_iand X0 hx at_89 rfl (o_goto X0 hx at_90 94 ht_)))))⟩
    · exact ⟨(0 : Int32), Or.inr ⟨hbu4, rfl⟩, fun t_ ht_ => k10 t_ (o_icmpYes X0 hx at_82 (flt (hbu4)).2.2.2 93 (o_iconst X0 hx at_93 0 rfl ht_))⟩
  have hB4 : own_B8 u4 := own_b8 hu4
  have k12 := fun t_ ht_ => k11 t_ (o_istore X0 hx at_94 #[Li p1, Li p2, Li p3, Li nn, Li u0, Li u1, Li u2, Li u3, Li u4, Lu, Lu, Lu, Lu, Lu, Lu, Lu, Lu, Lu, Lu, Lu] rfl (o_iloadN X0 hx at_96 rfl (o_iconst X0 hx at_97 5 rfl ht_)))
  obtain ⟨u5, hu5, k13⟩ : ∃ z : Int32, (((5 : Int32) < nn) ∧ z = (((p2.toUInt32 >>> ((8 : Int32) &&& 31).toUInt32).toInt32) &&& (255 : Int32)) ∨ ¬ ((5 : Int32) < nn) ∧ z = (0 : Int32)) ∧ ∀ t_, Steps p.tables e below (s₁.setTop (mkF m 113 #[Li p1, Li p2, Li p3, Li nn, Li u0, Li u1, Li u2, Li u3, Li u4, Lu, Lu, Lu, Lu, Lu, Lu, Lu, Lu, Lu, Lu, Lu] [.int z])) t_ → Steps p.tables e below A t_ := by
    by_cases hbu5 : (5 : Int32) < nn
    · exact ⟨(((p2.toUInt32 >>> ((8 : Int32) &&& 31).toUInt32).toInt32) &&& (255 : Int32)), Or.inl ⟨hbu5, rfl⟩, fun t_ ht_ => k12 t_ (o_icmpNo X0 hx at_98 (tlt (hbu5)).2.2.2 (o_iloadN X0 hx at_101 rfl (o_bipush X0 hx at_102 8 rfl (o_iushr X0 hx at_104 (o_sipush X0 hx at_105 255 rfl (o_iand X0 hx at_108 rfl (o_goto X0 hx at_109 113 ht_)))))))⟩
    · exact ⟨(0 : Int32), Or.inr ⟨hbu5, rfl⟩, fun t_ ht_ => k12 t_ (o_icmpYes X0 hx at_98 (flt (hbu5)).2.2.2 112 (o_iconst X0 hx at_112 0 rfl ht_))⟩
  have hB5 : own_B8 u5 := own_b8 hu5
  have k14 := fun t_ ht_ => k13 t_ (o_istore X0 hx at_113 #[Li p1, Li p2, Li p3, Li nn, Li u0, Li u1, Li u2, Li u3, Li u4, Li u5, Lu, Lu, Lu, Lu, Lu, Lu, Lu, Lu, Lu, Lu] rfl (o_iload X0 hx at_115 rfl (o_iconst X0 hx at_117 2 rfl (o_ishr X0 hx at_118 ht_))))
  obtain ⟨v0, hv0⟩ : ∃ z : Int32, z = (u0 >>> ((2 : Int32) &&& 31)) := ⟨_, rfl⟩
  rw [← hv0] at k14
  obtain ⟨hw0, hR0⟩ := own_sh0 hB0 hv0
  obtain ⟨_, T15, Lc15, X15, hQ15, k15⟩ := o_callSM X0 hx hZ k14 yy0 hown (hw 1 rfl) (hw 2 rfl) (hw 3 rfl) (hw 4 rfl) (rm11 hw v0 h0 n0 Z0 hR0) 0 [.int v0] [] (lenOf pd_21 rfl) hml e0 at_119
  obtain ⟨r0, rfl, Nq15, eh0, hc0⟩ := hQ15
  have N15 := Fr.app N0 Nq15
  replace k15 := own_pushR k15
  have k16 := fun t_ ht_ => k15 t_ (o_istore X15 hx at_122 #[Li p1, Li p2, Li p3, Li nn, Li u0, Li u1, Li u2, Li u3, Li u4, Li u5, Li r0, Lu, Lu, Lu, Lu, Lu, Lu, Lu, Lu, Lu] rfl (o_iload X15 hx at_124 rfl (o_iconst X15 hx at_126 3 rfl (o_iand X15 hx at_127 rfl (o_iconst X15 hx at_128 4 rfl (o_ishl X15 hx at_129 (o_iload X15 hx at_130 rfl (o_iconst X15 hx at_132 4 rfl (o_ishr X15 hx at_133 (o_ior X15 hx at_134 rfl ht_))))))))))
  obtain ⟨v1, hv1⟩ : ∃ z : Int32, z = (((u0 &&& (3 : Int32)) <<< ((4 : Int32) &&& 31)) ||| (u1 >>> ((4 : Int32) &&& 31))) := ⟨_, rfl⟩
  rw [← hv1] at k16
  obtain ⟨hw1, hR1⟩ := own_sh1 hB0 hB1 hv1
  obtain ⟨_, T17, Lc17, X17, hQ17, k17⟩ := o_callSM X15 hx hZ k16 yy0 hown (hw 1 rfl) (hw 2 rfl) (hw 3 rfl) (hw 4 rfl) (rm11 hw v1 h0 n0 Z0 hR1) 0 [.int v1] [] (lenOf pd_21 rfl) hml eh0 at_135
  obtain ⟨r1, rfl, Nq17, eh1, hc1⟩ := hQ17
  have N17 := Fr.app N15 Nq17
  replace k17 := own_pushR k17
  have k18 := fun t_ ht_ => k17 t_ (o_istore X17 hx at_138 #[Li p1, Li p2, Li p3, Li nn, Li u0, Li u1, Li u2, Li u3, Li u4, Li u5, Li r0, Li r1, Lu, Lu, Lu, Lu, Lu, Lu, Lu, Lu] rfl (o_iload X17 hx at_140 rfl (o_bipush X17 hx at_142 15 rfl (o_iand X17 hx at_144 rfl (o_iconst X17 hx at_145 2 rfl (o_ishl X17 hx at_146 (o_iload X17 hx at_147 rfl (o_bipush X17 hx at_149 6 rfl (o_ishr X17 hx at_151 (o_ior X17 hx at_152 rfl ht_))))))))))
  obtain ⟨v2, hv2⟩ : ∃ z : Int32, z = (((u1 &&& (15 : Int32)) <<< ((2 : Int32) &&& 31)) ||| (u2 >>> ((6 : Int32) &&& 31))) := ⟨_, rfl⟩
  rw [← hv2] at k18
  obtain ⟨hw2, hR2⟩ := own_sh2 hB1 hB2 hv2
  obtain ⟨_, T19, Lc19, X19, hQ19, k19⟩ := o_callSM X17 hx hZ k18 yy0 hown (hw 1 rfl) (hw 2 rfl) (hw 3 rfl) (hw 4 rfl) (rm11 hw v2 h0 n0 Z0 hR2) 0 [.int v2] [] (lenOf pd_21 rfl) hml eh1 at_153
  obtain ⟨r2, rfl, Nq19, eh2, hc2⟩ := hQ19
  have N19 := Fr.app N17 Nq19
  replace k19 := own_pushR k19
  have k20 := fun t_ ht_ => k19 t_ (o_istore X19 hx at_156 #[Li p1, Li p2, Li p3, Li nn, Li u0, Li u1, Li u2, Li u3, Li u4, Li u5, Li r0, Li r1, Li r2, Lu, Lu, Lu, Lu, Lu, Lu, Lu] rfl (o_iload X19 hx at_158 rfl (o_bipush X19 hx at_160 63 rfl (o_iand X19 hx at_162 rfl ht_))))
  obtain ⟨v3, hv3⟩ : ∃ z : Int32, z = (u2 &&& (63 : Int32)) := ⟨_, rfl⟩
  rw [← hv3] at k20
  obtain ⟨hw3, hR3⟩ := own_sh3 hB2 hv3
  obtain ⟨_, T21, Lc21, X21, hQ21, k21⟩ := o_callSM X19 hx hZ k20 yy0 hown (hw 1 rfl) (hw 2 rfl) (hw 3 rfl) (hw 4 rfl) (rm11 hw v3 h0 n0 Z0 hR3) 0 [.int v3] [] (lenOf pd_21 rfl) hml eh2 at_163
  obtain ⟨r3, rfl, Nq21, eh3, hc3⟩ := hQ21
  have N21 := Fr.app N19 Nq21
  replace k21 := own_pushR k21
  have k22 := fun t_ ht_ => k21 t_ (o_istore X21 hx at_166 #[Li p1, Li p2, Li p3, Li nn, Li u0, Li u1, Li u2, Li u3, Li u4, Li u5, Li r0, Li r1, Li r2, Li r3, Lu, Lu, Lu, Lu, Lu, Lu] rfl (o_iload X21 hx at_168 rfl (o_iconst X21 hx at_170 2 rfl (o_ishr X21 hx at_171 ht_))))
  obtain ⟨v4, hv4⟩ : ∃ z : Int32, z = (u3 >>> ((2 : Int32) &&& 31)) := ⟨_, rfl⟩
  rw [← hv4] at k22
  obtain ⟨hw4, hR4⟩ := own_sh0 hB3 hv4
  obtain ⟨_, T23, Lc23, X23, hQ23, k23⟩ := o_callSM X21 hx hZ k22 yy0 hown (hw 1 rfl) (hw 2 rfl) (hw 3 rfl) (hw 4 rfl) (rm11 hw v4 h0 n0 Z0 hR4) 0 [.int v4] [] (lenOf pd_21 rfl) hml eh3 at_172
  obtain ⟨r4, rfl, Nq23, eh4, hc4⟩ := hQ23
  have N23 := Fr.app N21 Nq23
  replace k23 := own_pushR k23
  have k24 := fun t_ ht_ => k23 t_ (o_istore X23 hx at_175 #[Li p1, Li p2, Li p3, Li nn, Li u0, Li u1, Li u2, Li u3, Li u4, Li u5, Li r0, Li r1, Li r2, Li r3, Li r4, Lu, Lu, Lu, Lu, Lu] rfl (o_iload X23 hx at_177 rfl (o_iconst X23 hx at_179 3 rfl (o_iand X23 hx at_180 rfl (o_iconst X23 hx at_181 4 rfl (o_ishl X23 hx at_182 (o_iload X23 hx at_183 rfl (o_iconst X23 hx at_185 4 rfl (o_ishr X23 hx at_186 (o_ior X23 hx at_187 rfl ht_))))))))))
  obtain ⟨v5, hv5⟩ : ∃ z : Int32, z = (((u3 &&& (3 : Int32)) <<< ((4 : Int32) &&& 31)) ||| (u4 >>> ((4 : Int32) &&& 31))) := ⟨_, rfl⟩
  rw [← hv5] at k24
  obtain ⟨hw5, hR5⟩ := own_sh1 hB3 hB4 hv5
  obtain ⟨_, T25, Lc25, X25, hQ25, k25⟩ := o_callSM X23 hx hZ k24 yy0 hown (hw 1 rfl) (hw 2 rfl) (hw 3 rfl) (hw 4 rfl) (rm11 hw v5 h0 n0 Z0 hR5) 0 [.int v5] [] (lenOf pd_21 rfl) hml eh4 at_188
  obtain ⟨r5, rfl, Nq25, eh5, hc5⟩ := hQ25
  have N25 := Fr.app N23 Nq25
  replace k25 := own_pushR k25
  have k26 := fun t_ ht_ => k25 t_ (o_istore X25 hx at_191 #[Li p1, Li p2, Li p3, Li nn, Li u0, Li u1, Li u2, Li u3, Li u4, Li u5, Li r0, Li r1, Li r2, Li r3, Li r4, Li r5, Lu, Lu, Lu, Lu] rfl (o_iload X25 hx at_193 rfl (o_bipush X25 hx at_195 15 rfl (o_iand X25 hx at_197 rfl (o_iconst X25 hx at_198 2 rfl (o_ishl X25 hx at_199 (o_iload X25 hx at_200 rfl (o_bipush X25 hx at_202 6 rfl (o_ishr X25 hx at_204 (o_ior X25 hx at_205 rfl ht_))))))))))
  obtain ⟨v6, hv6⟩ : ∃ z : Int32, z = (((u4 &&& (15 : Int32)) <<< ((2 : Int32) &&& 31)) ||| (u5 >>> ((6 : Int32) &&& 31))) := ⟨_, rfl⟩
  rw [← hv6] at k26
  obtain ⟨hw6, hR6⟩ := own_sh2 hB4 hB5 hv6
  obtain ⟨_, T27, Lc27, X27, hQ27, k27⟩ := o_callSM X25 hx hZ k26 yy0 hown (hw 1 rfl) (hw 2 rfl) (hw 3 rfl) (hw 4 rfl) (rm11 hw v6 h0 n0 Z0 hR6) 0 [.int v6] [] (lenOf pd_21 rfl) hml eh5 at_206
  obtain ⟨r6, rfl, Nq27, eh6, hc6⟩ := hQ27
  have N27 := Fr.app N25 Nq27
  replace k27 := own_pushR k27
  have k28 := fun t_ ht_ => k27 t_ (o_istore X27 hx at_209 #[Li p1, Li p2, Li p3, Li nn, Li u0, Li u1, Li u2, Li u3, Li u4, Li u5, Li r0, Li r1, Li r2, Li r3, Li r4, Li r5, Li r6, Lu, Lu, Lu] rfl (o_iload X27 hx at_211 rfl (o_bipush X27 hx at_213 63 rfl (o_iand X27 hx at_215 rfl ht_))))
  obtain ⟨v7, hv7⟩ : ∃ z : Int32, z = (u5 &&& (63 : Int32)) := ⟨_, rfl⟩
  rw [← hv7] at k28
  obtain ⟨hw7, hR7⟩ := own_sh3 hB5 hv7
  obtain ⟨_, T29, Lc29, X29, hQ29, k29⟩ := o_callSM X27 hx hZ k28 yy0 hown (hw 1 rfl) (hw 2 rfl) (hw 3 rfl) (hw 4 rfl) (rm11 hw v7 h0 n0 Z0 hR7) 0 [.int v7] [] (lenOf pd_21 rfl) hml eh6 at_216
  obtain ⟨r7, rfl, Nq29, eh7, hc7⟩ := hQ29
  have N29 := Fr.app N27 Nq29
  replace k29 := own_pushR k29
  have hq0 : own_q u0 u1 u2 v0 v1 v2 v3 := ⟨hB0, hB1, hB2, hw0, hw1, hw2, hw3⟩
  have hq1 : own_q u3 u4 u5 v4 v5 v6 v7 := ⟨hB3, hB4, hB5, hw4, hw5, hw6, hw7⟩
  have k30 := fun t_ ht_ => k29 t_ (o_istore X29 hx at_219 #[Li p1, Li p2, Li p3, Li nn, Li u0, Li u1, Li u2, Li u3, Li u4, Li u5, Li r0, Li r1, Li r2, Li r3, Li r4, Li r5, Li r6, Li r7, Lu, Lu] rfl ht_)
  rcases own_n7 hnn with rfl | rfl | rfl | rfl | rfl | rfl | rfl
  · have hD : own_D 0 u0 u1 u2 u3 u4 u5 v0 v1 v2 v3 v4 v5 v6 v7 r0 r1 r2 r3 r4 r5 r6 r7 := ⟨hq0, hq1, hc0, hc1, hc2, hc3, hc4, hc5, hc6, hc7, (fun _ => own_lz hu1 (by decide)), (fun _ => own_lz hu2 (by decide)), (fun _ => own_lz hu4 (by decide)), (fun _ => own_lz hu5 (by decide))⟩
    have k31 := fun t_ ht_ => k30 t_ (o_iloadN X29 hx at_221 rfl (o_iload X29 hx at_222 rfl (o_iload X29 hx at_224 rfl (o_iload X29 hx at_226 rfl (o_iload X29 hx at_228 rfl (o_iload X29 hx at_230 rfl (o_iload X29 hx at_232 rfl (o_iload X29 hx at_234 rfl (o_iload X29 hx at_236 rfl ht_)))))))))
    obtain ⟨_, T32, Lc32, X32, hQ32, k32⟩ := o_callSM X29 hx hZ k31 yy1 hown (hw 5 rfl) (hw 6 rfl) (hw 3 rfl) (hw 7 rfl) (rm12 hw r0 r1 r2 r3 r4 r5 r6 r7 h0 n0 Z0) 0 [.int 0, .int r0, .int r1, .int r2, .int r3, .int r4, .int r5, .int r6, .int r7] [] (lenOf pd_22 rfl) hml eh7 at_238
    obtain ⟨ca, kca, rfl, Nq32, Kc, Vc, Gc⟩ := hQ32
    have N32 := Fr.app N29 Nq32
    replace k32 := own_pushR k32
    replace hCH := hCH.keep Kc (fun _ q => by cases q)
    replace X00 := X00.keep Kc (by simp)
    have Zs32 := Nat.le_trans Z0 Kc.1
    have k33 := fun t_ ht_ => k32 t_ (o_astore X32 hx at_241 #[Li p1, Li p2, Li p3, Li 0, Li u0, Li u1, Li u2, Li u3, Li u4, Li u5, Li r0, Li r1, Li r2, Li r3, Li r4, Li r5, Li r6, Li r7, Lr ca, Lu] rfl rfl ht_)
    obtain ⟨T34, h34, X34, e34, E34, A34, D34, k34⟩ := o_newO X32 hx hZ k33 hown (hw 9 rfl) (hw 10 rfl) (hw 11 rfl) rfl at_243
    obtain ⟨b34, g34⟩ : ∃ z, z = T32.heap.size := ⟨_, rfl⟩
    rw [← g34] at A34 D34 k34
    have ne_ca_b34 : ca ≠ b34 := Nat.ne_of_lt (Nat.lt_of_lt_of_le Vc.lt (Nat.le_of_eq g34.symm))
    have g_b34 : n0 ≤ b34 := Nat.le_trans Zs32 (Nat.le_of_eq g34.symm)
    replace X00 : Old Z n0 h34 := ⟨X00.1, Nat.le_trans X00.2.1 E34.1, fun x c r => E34.2 x c (X00.2.2 x c r)⟩
    replace Vc := Vc.ext E34
    have Zs34 := Nat.le_trans Zs32 E34.1
    have Ex_b34 := A34
    have F_coder_b34 : Fld Z h34 b34 "java/lang/String" "coder" "B" (.int 0) := D34 (Or.inr (hw 35 rfl)) (ty := .byte) (by decide)
    have F_value_b34 : Fld Z h34 b34 "java/lang/String" "value" "[B" (.null) := D34 (Or.inr (hw 37 rfl)) (ty := (.array .byte)) (by decide)
    replace hCH := hCH.ext E34
    have k35 := fun t_ ht_ => k34 t_ (o_dup X34 hx at_246 rfl (o_aload X34 hx at_247 rfl rfl ht_))
    obtain ⟨_, T36, Lc36, al, X36, hQ36, hL, hS36, hZ, hown, k36⟩ := o_specialS X34 hx hZ k35 yy28 rfl hown (hw 12 rfl) (hw 13 rfl) (hw 14 rfl) (rm114 hw b34 ca kca h34 n0 Zs34 Ex_b34 F_value_b34 F_coder_b34 g_b34 Vc) (hw 11 rfl) (own_hEL hw) hCH 1 b34 [.ref ca] [.ref b34] (lenOf pd_23 rfl) hml e34 at_249
    obtain ⟨bl, kb, rfl, Nq36, Kq, Es, Fc, Fv, Fal, Fac, Va, Ea⟩ := hQ36
    have N36 := Fr.app N32 Nq36
    replace k36 := own_pushV k36
    replace X00 := X00.keep Kq (by simpa using g_b34)
    replace Vc := Vc.keep Kq (by simpa using ne_ca_b34)
    have Zs36 := Nat.le_trans Zs34 Kq.1
    obtain ⟨_, T37, Lc37, X37, hQ37, k37⟩ := o_callS X36 hx hZ k36 yy25 hown (hw 38 rfl) (hw 39 rfl) (hw 40 rfl) (hw 41 rfl) (own_backL hL (W := 0) (rm112 hw b34 dco eno iso utf tbd tbe kd ke G1 fm al bl kb u0 u1 u2 u3 u4 u5 v0 v1 v2 v3 v4 v5 v6 v7 r0 r1 r2 r3 r4 r5 r6 r7 T36.heap n0 Zs36 hG X00 Fal Fac Es Fc Fv Va Ea hD) hZ (hw 41 rfl) (hw 40 rfl) (by decide) (by decide)) [.ref b34] [] (lenOf pd_15 rfl) hml rfl at_252
    obtain ⟨ds, kd2, rfl, Nq37, Kd, Vd, Gd⟩ := hQ37
    have N37 := Fr.app N36 Nq37
    replace k37 := own_pushR k37
    replace X00 := X00.keep Kd (by simp)
    replace Vc := Vc.keep Kd (by simp)
    replace Es := Es.keep Kd
    replace Fc := Fc.keep Kd (by simp)
    replace Fv := Fv.keep Kd (by simp)
    replace Va := Va.keep Kd (by simp)
    replace Fal := Fal.keep Kd (by simp)
    replace Fac := Fac.keep Kd (by simp)
    replace Ea := Ea.keep Kd
    have Zs37 := Nat.le_trans Zs36 Kd.1
    have k38 := fun t_ ht_ => k37 t_ (o_astore X37 hx at_255 #[Li p1, Li p2, Li p3, Li 0, Li u0, Li u1, Li u2, Li u3, Li u4, Li u5, Li r0, Li r1, Li r2, Li r3, Li r4, Li r5, Li r6, Li r7, Lr ca, Lr ds] rfl rfl (o_aload X37 hx at_257 rfl rfl (o_ifnullNo X37 hx at_259 rfl (o_aload X37 hx at_262 rfl rfl (o_len X37 hx hZ at_264 rfl Vd (o_iloadN X37 hx at_265 rfl (o_icmpYes X37 hx at_266 (teq (by decide)).1 271 (o_aload X37 hx at_271 rfl rfl (o_iconst X37 hx at_273 0 rfl (o_iloadN X37 hx at_274 rfl (o_iload X37 hx at_275 rfl ht_)))))))))))
    obtain ⟨_, T39, Lc39, X39, hQ39, k39⟩ := o_callSM X37 hx hZ k38 yy29 hown (hw 170 rfl) (hw 171 rfl) (hw 3 rfl) (hw 172 rfl) (rm115 hw ds (0 : Int32) (0 : Int32) u0 T37.heap n0 Zs37 (by decide)) 0 [.ref ds, .int 0, .int 0, .int u0] [] (lenOf pd_24 rfl) hml rfl at_277
    obtain ⟨rfl, Nq39, e39⟩ := hQ39
    have N39 := Fr.app N37 Nq39
    replace k39 := own_pushR k39
    have k40 := fun t_ ht_ => k39 t_ (o_ifNo X39 hx at_280 ((if0 _ _).trans (feq (by decide)).1) (o_aload X39 hx at_283 rfl rfl (o_iconst X39 hx at_285 1 rfl (o_iloadN X39 hx at_286 rfl (o_iload X39 hx at_287 rfl ht_)))))
    obtain ⟨_, T41, Lc41, X41, hQ41, k41⟩ := o_callSM X39 hx hZ k40 yy29 hown (hw 170 rfl) (hw 171 rfl) (hw 3 rfl) (hw 172 rfl) (rm115 hw ds (1 : Int32) (0 : Int32) u1 T37.heap n0 Zs37 (by decide)) 0 [.ref ds, .int 1, .int 0, .int u1] [] (lenOf pd_24 rfl) hml e39 at_289
    obtain ⟨rfl, Nq41, e41⟩ := hQ41
    have N41 := Fr.app N39 Nq41
    replace k41 := own_pushR k41
    have k42 := fun t_ ht_ => k41 t_ (o_ifNo X41 hx at_292 ((if0 _ _).trans (feq (by decide)).1) (o_aload X41 hx at_295 rfl rfl (o_iconst X41 hx at_297 2 rfl (o_iloadN X41 hx at_298 rfl (o_iload X41 hx at_299 rfl ht_)))))
    obtain ⟨_, T43, Lc43, X43, hQ43, k43⟩ := o_callSM X41 hx hZ k42 yy29 hown (hw 170 rfl) (hw 171 rfl) (hw 3 rfl) (hw 172 rfl) (rm115 hw ds (2 : Int32) (0 : Int32) u2 T37.heap n0 Zs37 (by decide)) 0 [.ref ds, .int 2, .int 0, .int u2] [] (lenOf pd_24 rfl) hml e41 at_301
    obtain ⟨rfl, Nq43, e43⟩ := hQ43
    have N43 := Fr.app N41 Nq43
    replace k43 := own_pushR k43
    have k44 := fun t_ ht_ => k43 t_ (o_ifNo X43 hx at_304 ((if0 _ _).trans (feq (by decide)).1) (o_aload X43 hx at_307 rfl rfl (o_iconst X43 hx at_309 3 rfl (o_iloadN X43 hx at_310 rfl (o_iload X43 hx at_311 rfl ht_)))))
    obtain ⟨_, T45, Lc45, X45, hQ45, k45⟩ := o_callSM X43 hx hZ k44 yy29 hown (hw 170 rfl) (hw 171 rfl) (hw 3 rfl) (hw 172 rfl) (rm115 hw ds (3 : Int32) (0 : Int32) u3 T37.heap n0 Zs37 (by decide)) 0 [.ref ds, .int 3, .int 0, .int u3] [] (lenOf pd_24 rfl) hml e43 at_313
    obtain ⟨rfl, Nq45, e45⟩ := hQ45
    have N45 := Fr.app N43 Nq45
    replace k45 := own_pushR k45
    have k46 := fun t_ ht_ => k45 t_ (o_ifNo X45 hx at_316 ((if0 _ _).trans (feq (by decide)).1) (o_aload X45 hx at_319 rfl rfl (o_iconst X45 hx at_321 4 rfl (o_iloadN X45 hx at_322 rfl (o_iload X45 hx at_323 rfl ht_)))))
    obtain ⟨_, T47, Lc47, X47, hQ47, k47⟩ := o_callSM X45 hx hZ k46 yy29 hown (hw 170 rfl) (hw 171 rfl) (hw 3 rfl) (hw 172 rfl) (rm115 hw ds (4 : Int32) (0 : Int32) u4 T37.heap n0 Zs37 (by decide)) 0 [.ref ds, .int 4, .int 0, .int u4] [] (lenOf pd_24 rfl) hml e45 at_325
    obtain ⟨rfl, Nq47, e47⟩ := hQ47
    have N47 := Fr.app N45 Nq47
    replace k47 := own_pushR k47
    have k48 := fun t_ ht_ => k47 t_ (o_ifNo X47 hx at_328 ((if0 _ _).trans (feq (by decide)).1) (o_aload X47 hx at_331 rfl rfl (o_iconst X47 hx at_333 5 rfl (o_iloadN X47 hx at_334 rfl (o_iload X47 hx at_335 rfl ht_)))))
    obtain ⟨_, T49, Lc49, X49, hQ49, k49⟩ := o_callSM X47 hx hZ k48 yy29 hown (hw 170 rfl) (hw 171 rfl) (hw 3 rfl) (hw 172 rfl) (rm115 hw ds (5 : Int32) (0 : Int32) u5 T37.heap n0 Zs37 (by decide)) 0 [.ref ds, .int 5, .int 0, .int u5] [] (lenOf pd_24 rfl) hml e47 at_337
    obtain ⟨rfl, Nq49, e49⟩ := hQ49
    have N49 := Fr.app N47 Nq49
    replace k49 := own_pushR k49
    have k50 := fun t_ ht_ => k49 t_ (o_ifNo X49 hx at_340 ((if0 _ _).trans (feq (by decide)).1) (o_iconst X49 hx at_343 1 rfl (o_goto X49 hx at_344 348 ht_)))
    exact o_retNW (vm := T36.vm) X49 hx k50 hlk hret (by simp) at_348 hS36 (by rw [e49]; exact Kd.1) (by rw [e49]; exact ⟨rfl, N49⟩)
  · have hD : own_D 1 u0 u1 u2 u3 u4 u5 v0 v1 v2 v3 v4 v5 v6 v7 r0 r1 r2 r3 r4 r5 r6 r7 := ⟨hq0, hq1, hc0, hc1, hc2, hc3, hc4, hc5, hc6, hc7, (fun _ => own_lz hu1 (by decide)), (fun _ => own_lz hu2 (by decide)), (fun _ => own_lz hu4 (by decide)), (fun _ => own_lz hu5 (by decide))⟩
    have k51 := fun t_ ht_ => k30 t_ (o_iloadN X29 hx at_221 rfl (o_iload X29 hx at_222 rfl (o_iload X29 hx at_224 rfl (o_iload X29 hx at_226 rfl (o_iload X29 hx at_228 rfl (o_iload X29 hx at_230 rfl (o_iload X29 hx at_232 rfl (o_iload X29 hx at_234 rfl (o_iload X29 hx at_236 rfl ht_)))))))))
    obtain ⟨_, T52, Lc52, X52, hQ52, k52⟩ := o_callSM X29 hx hZ k51 yy1 hown (hw 5 rfl) (hw 6 rfl) (hw 3 rfl) (hw 7 rfl) (rm13 hw r0 r1 r2 r3 r4 r5 r6 r7 h0 n0 Z0) 0 [.int 1, .int r0, .int r1, .int r2, .int r3, .int r4, .int r5, .int r6, .int r7] [] (lenOf pd_22 rfl) hml eh7 at_238
    obtain ⟨ca, kca, rfl, Nq52, Kc, Vc, Gc⟩ := hQ52
    have N52 := Fr.app N29 Nq52
    replace k52 := own_pushR k52
    replace X00 := X00.keep Kc (by simp)
    have Zs52 := Nat.le_trans Z0 Kc.1
    rw [own_rc hc0, own_rc hc1] at Vc
    have k53 := fun t_ ht_ => k52 t_ (o_astore X52 hx at_241 #[Li p1, Li p2, Li p3, Li 1, Li u0, Li u1, Li u2, Li u3, Li u4, Li u5, Li r0, Li r1, Li r2, Li r3, Li r4, Li r5, Li r6, Li r7, Lr ca, Lu] rfl rfl ht_)
    obtain ⟨T54, h54, X54, e54, E54, A54, D54, k54⟩ := o_newO X52 hx hZ k53 hown (hw 9 rfl) (hw 10 rfl) (hw 11 rfl) rfl at_243
    obtain ⟨b54, g54⟩ : ∃ z, z = T52.heap.size := ⟨_, rfl⟩
    rw [← g54] at A54 D54 k54
    have ne_ca_b54 : ca ≠ b54 := Nat.ne_of_lt (Nat.lt_of_lt_of_le Vc.lt (Nat.le_of_eq g54.symm))
    have g_b54 : n0 ≤ b54 := Nat.le_trans Zs52 (Nat.le_of_eq g54.symm)
    replace X00 : Old Z n0 h54 := ⟨X00.1, Nat.le_trans X00.2.1 E54.1, fun x c r => E54.2 x c (X00.2.2 x c r)⟩
    replace Vc := Vc.ext E54
    have Zs54 := Nat.le_trans Zs52 E54.1
    have Ex_b54 := A54
    have F_coder_b54 : Fld Z h54 b54 "java/lang/String" "coder" "B" (.int 0) := D54 (Or.inr (hw 35 rfl)) (ty := .byte) (by decide)
    have F_value_b54 : Fld Z h54 b54 "java/lang/String" "value" "[B" (.null) := D54 (Or.inr (hw 37 rfl)) (ty := (.array .byte)) (by decide)
    have k55 := fun t_ ht_ => k54 t_ (o_dup X54 hx at_246 rfl (o_aload X54 hx at_247 rfl rfl ht_))
    obtain ⟨_, T56, Lc56, X56, hQ56, k56⟩ := o_special X54 hx hZ k55 yy28 rfl hown (hw 12 rfl) (hw 13 rfl) (hw 14 rfl) (own_backVE (W := 1) hZ hws (kI := 4) (hw 10 rfl) (cs := [r0, r1]) (n := 2) g_b54 Zs54 Ex_b54 F_value_b54 F_coder_b54 Vc (sC.ext X00.2) gC rfl rfl (by decide) (by decide) (own_lats hc0 (own_lats hc1 own_latn)) (by decide) (by decide)) b54 [.ref ca] [.ref b54] (lenOf pd_23 rfl) hml e54 at_249
    obtain ⟨rfl, Nq56, Kq, Es, Fc, t_, kb, gt, Gt, ne_t, Fv, Va, Ea⟩ := hQ56
    have N56 := Fr.app N52 Nq56
    replace k56 := own_pushV k56
    replace X00 := X00.keep Kq (by simpa using g_b54)
    replace Vc := Vc.keep Kq (by simpa using ne_ca_b54)
    have Zs56 := Nat.le_trans Zs54 Kq.1
    replace Va : Arv Z _ t_ kb .byte (2 : Int32) [.int (r0.toInt8.toInt32), .int (r1.toInt8.toInt32)] (.int 0) := Va
    rw [own_rb hc0, own_rb hc1] at Va
    obtain ⟨_, T57, Lc57, X57, hQ57, k57⟩ := o_callSM X56 hx hZ k56 yy25 hown (hw 38 rfl) (hw 39 rfl) (hw 40 rfl) (hw 41 rfl) (rm47 hw b54 dco eno iso utf tbd tbe kd ke G1 fm t_ kb u0 u1 u2 u3 u4 u5 v0 v1 v2 v3 v4 v5 v6 v7 r0 r1 r2 r3 r4 r5 r6 r7 T56.heap n0 Zs56 hG X00 Es Fc Fv Va Ea hD) 0 [.ref b54] [] (lenOf pd_15 rfl) hml rfl at_252
    obtain ⟨ds, kd2, yo0, rfl, Nq57, Kd, Vd, Gd, sb0⟩ := hQ57
    have N57 := Fr.app N56 Nq57
    replace k57 := own_pushR k57
    replace X00 := X00.keep Kd (by simp)
    replace Vc := Vc.keep Kd (by simp)
    replace Es := Es.keep Kd
    replace Fc := Fc.keep Kd (by simp)
    replace Fv := Fv.keep Kd (by simp)
    replace Va := Va.keep Kd (by simp)
    replace Ea := Ea.keep Kd
    have Zs57 := Nat.le_trans Zs56 Kd.1
    have k58 := fun t_ ht_ => k57 t_ (o_astore X57 hx at_255 #[Li p1, Li p2, Li p3, Li 1, Li u0, Li u1, Li u2, Li u3, Li u4, Li u5, Li r0, Li r1, Li r2, Li r3, Li r4, Li r5, Li r6, Li r7, Lr ca, Lr ds] rfl rfl (o_aload X57 hx at_257 rfl rfl (o_ifnullNo X57 hx at_259 rfl (o_aload X57 hx at_262 rfl rfl (o_len X57 hx hZ at_264 rfl Vd (o_iloadN X57 hx at_265 rfl (o_icmpYes X57 hx at_266 (teq (by decide)).1 271 (o_aload X57 hx at_271 rfl rfl (o_iconst X57 hx at_273 0 rfl (o_iloadN X57 hx at_274 rfl (o_iload X57 hx at_275 rfl ht_)))))))))))
    obtain ⟨_, T59, Lc59, X59, hQ59, k59⟩ := o_callSM X57 hx hZ k58 yy29 hown (hw 170 rfl) (hw 171 rfl) (hw 3 rfl) (hw 172 rfl) (rm116 hw ds (0 : Int32) (1 : Int32) u0 kd2 (1 : Int32) [.int yo0] yo0 T57.heap n0 Zs57 Vd (by decide) ⟨by decide, by decide⟩ rfl (own_sb255 sb0)) 0 [.ref ds, .int 0, .int 1, .int u0] [] (lenOf pd_24 rfl) hml rfl at_277
    obtain ⟨rfl, Nq59, e59⟩ := hQ59
    have N59 := Fr.app N57 Nq59
    replace k59 := own_pushR k59
    have k60 := fun t_ ht_ => k59 t_ (o_ifNo X59 hx at_280 ((if0 _ _).trans (feq (by decide)).1) (o_aload X59 hx at_283 rfl rfl (o_iconst X59 hx at_285 1 rfl (o_iloadN X59 hx at_286 rfl (o_iload X59 hx at_287 rfl ht_)))))
    obtain ⟨_, T61, Lc61, X61, hQ61, k61⟩ := o_callSM X59 hx hZ k60 yy29 hown (hw 170 rfl) (hw 171 rfl) (hw 3 rfl) (hw 172 rfl) (rm115 hw ds (1 : Int32) (1 : Int32) u1 T57.heap n0 Zs57 (by decide)) 0 [.ref ds, .int 1, .int 1, .int u1] [] (lenOf pd_24 rfl) hml e59 at_289
    obtain ⟨rfl, Nq61, e61⟩ := hQ61
    have N61 := Fr.app N59 Nq61
    replace k61 := own_pushR k61
    have k62 := fun t_ ht_ => k61 t_ (o_ifNo X61 hx at_292 ((if0 _ _).trans (feq (by decide)).1) (o_aload X61 hx at_295 rfl rfl (o_iconst X61 hx at_297 2 rfl (o_iloadN X61 hx at_298 rfl (o_iload X61 hx at_299 rfl ht_)))))
    obtain ⟨_, T63, Lc63, X63, hQ63, k63⟩ := o_callSM X61 hx hZ k62 yy29 hown (hw 170 rfl) (hw 171 rfl) (hw 3 rfl) (hw 172 rfl) (rm115 hw ds (2 : Int32) (1 : Int32) u2 T57.heap n0 Zs57 (by decide)) 0 [.ref ds, .int 2, .int 1, .int u2] [] (lenOf pd_24 rfl) hml e61 at_301
    obtain ⟨rfl, Nq63, e63⟩ := hQ63
    have N63 := Fr.app N61 Nq63
    replace k63 := own_pushR k63
    have k64 := fun t_ ht_ => k63 t_ (o_ifNo X63 hx at_304 ((if0 _ _).trans (feq (by decide)).1) (o_aload X63 hx at_307 rfl rfl (o_iconst X63 hx at_309 3 rfl (o_iloadN X63 hx at_310 rfl (o_iload X63 hx at_311 rfl ht_)))))
    obtain ⟨_, T65, Lc65, X65, hQ65, k65⟩ := o_callSM X63 hx hZ k64 yy29 hown (hw 170 rfl) (hw 171 rfl) (hw 3 rfl) (hw 172 rfl) (rm115 hw ds (3 : Int32) (1 : Int32) u3 T57.heap n0 Zs57 (by decide)) 0 [.ref ds, .int 3, .int 1, .int u3] [] (lenOf pd_24 rfl) hml e63 at_313
    obtain ⟨rfl, Nq65, e65⟩ := hQ65
    have N65 := Fr.app N63 Nq65
    replace k65 := own_pushR k65
    have k66 := fun t_ ht_ => k65 t_ (o_ifNo X65 hx at_316 ((if0 _ _).trans (feq (by decide)).1) (o_aload X65 hx at_319 rfl rfl (o_iconst X65 hx at_321 4 rfl (o_iloadN X65 hx at_322 rfl (o_iload X65 hx at_323 rfl ht_)))))
    obtain ⟨_, T67, Lc67, X67, hQ67, k67⟩ := o_callSM X65 hx hZ k66 yy29 hown (hw 170 rfl) (hw 171 rfl) (hw 3 rfl) (hw 172 rfl) (rm115 hw ds (4 : Int32) (1 : Int32) u4 T57.heap n0 Zs57 (by decide)) 0 [.ref ds, .int 4, .int 1, .int u4] [] (lenOf pd_24 rfl) hml e65 at_325
    obtain ⟨rfl, Nq67, e67⟩ := hQ67
    have N67 := Fr.app N65 Nq67
    replace k67 := own_pushR k67
    have k68 := fun t_ ht_ => k67 t_ (o_ifNo X67 hx at_328 ((if0 _ _).trans (feq (by decide)).1) (o_aload X67 hx at_331 rfl rfl (o_iconst X67 hx at_333 5 rfl (o_iloadN X67 hx at_334 rfl (o_iload X67 hx at_335 rfl ht_)))))
    obtain ⟨_, T69, Lc69, X69, hQ69, k69⟩ := o_callSM X67 hx hZ k68 yy29 hown (hw 170 rfl) (hw 171 rfl) (hw 3 rfl) (hw 172 rfl) (rm115 hw ds (5 : Int32) (1 : Int32) u5 T57.heap n0 Zs57 (by decide)) 0 [.ref ds, .int 5, .int 1, .int u5] [] (lenOf pd_24 rfl) hml e67 at_337
    obtain ⟨rfl, Nq69, e69⟩ := hQ69
    have N69 := Fr.app N67 Nq69
    replace k69 := own_pushR k69
    have k70 := fun t_ ht_ => k69 t_ (o_ifNo X69 hx at_340 ((if0 _ _).trans (feq (by decide)).1) (o_iconst X69 hx at_343 1 rfl (o_goto X69 hx at_344 348 ht_)))
    exact o_retNW (vm := s.vm) X69 hx k70 hlk hret (by simp) at_348 hS0 (Nat.zero_le _) (by rw [e69]; exact ⟨rfl, N69⟩)
  · have hD : own_D 2 u0 u1 u2 u3 u4 u5 v0 v1 v2 v3 v4 v5 v6 v7 r0 r1 r2 r3 r4 r5 r6 r7 := ⟨hq0, hq1, hc0, hc1, hc2, hc3, hc4, hc5, hc6, hc7, (fun q => absurd q (by decide)), (fun _ => own_lz hu2 (by decide)), (fun _ => own_lz hu4 (by decide)), (fun _ => own_lz hu5 (by decide))⟩
    have k71 := fun t_ ht_ => k30 t_ (o_iloadN X29 hx at_221 rfl (o_iload X29 hx at_222 rfl (o_iload X29 hx at_224 rfl (o_iload X29 hx at_226 rfl (o_iload X29 hx at_228 rfl (o_iload X29 hx at_230 rfl (o_iload X29 hx at_232 rfl (o_iload X29 hx at_234 rfl (o_iload X29 hx at_236 rfl ht_)))))))))
    obtain ⟨_, T72, Lc72, X72, hQ72, k72⟩ := o_callSM X29 hx hZ k71 yy1 hown (hw 5 rfl) (hw 6 rfl) (hw 3 rfl) (hw 7 rfl) (rm14 hw r0 r1 r2 r3 r4 r5 r6 r7 h0 n0 Z0) 0 [.int 2, .int r0, .int r1, .int r2, .int r3, .int r4, .int r5, .int r6, .int r7] [] (lenOf pd_22 rfl) hml eh7 at_238
    obtain ⟨ca, kca, rfl, Nq72, Kc, Vc, Gc⟩ := hQ72
    have N72 := Fr.app N29 Nq72
    replace k72 := own_pushR k72
    replace X00 := X00.keep Kc (by simp)
    have Zs72 := Nat.le_trans Z0 Kc.1
    rw [own_rc hc0, own_rc hc1, own_rc hc2] at Vc
    have k73 := fun t_ ht_ => k72 t_ (o_astore X72 hx at_241 #[Li p1, Li p2, Li p3, Li 2, Li u0, Li u1, Li u2, Li u3, Li u4, Li u5, Li r0, Li r1, Li r2, Li r3, Li r4, Li r5, Li r6, Li r7, Lr ca, Lu] rfl rfl ht_)
    obtain ⟨T74, h74, X74, e74, E74, A74, D74, k74⟩ := o_newO X72 hx hZ k73 hown (hw 9 rfl) (hw 10 rfl) (hw 11 rfl) rfl at_243
    obtain ⟨b74, g74⟩ : ∃ z, z = T72.heap.size := ⟨_, rfl⟩
    rw [← g74] at A74 D74 k74
    have ne_ca_b74 : ca ≠ b74 := Nat.ne_of_lt (Nat.lt_of_lt_of_le Vc.lt (Nat.le_of_eq g74.symm))
    have g_b74 : n0 ≤ b74 := Nat.le_trans Zs72 (Nat.le_of_eq g74.symm)
    replace X00 : Old Z n0 h74 := ⟨X00.1, Nat.le_trans X00.2.1 E74.1, fun x c r => E74.2 x c (X00.2.2 x c r)⟩
    replace Vc := Vc.ext E74
    have Zs74 := Nat.le_trans Zs72 E74.1
    have Ex_b74 := A74
    have F_coder_b74 : Fld Z h74 b74 "java/lang/String" "coder" "B" (.int 0) := D74 (Or.inr (hw 35 rfl)) (ty := .byte) (by decide)
    have F_value_b74 : Fld Z h74 b74 "java/lang/String" "value" "[B" (.null) := D74 (Or.inr (hw 37 rfl)) (ty := (.array .byte)) (by decide)
    have k75 := fun t_ ht_ => k74 t_ (o_dup X74 hx at_246 rfl (o_aload X74 hx at_247 rfl rfl ht_))
    obtain ⟨_, T76, Lc76, X76, hQ76, k76⟩ := o_special X74 hx hZ k75 yy28 rfl hown (hw 12 rfl) (hw 13 rfl) (hw 14 rfl) (own_backVE (W := 1) hZ hws (kI := 4) (hw 10 rfl) (cs := [r0, r1, r2]) (n := 3) g_b74 Zs74 Ex_b74 F_value_b74 F_coder_b74 Vc (sC.ext X00.2) gC rfl rfl (by decide) (by decide) (own_lats hc0 (own_lats hc1 (own_lats hc2 own_latn))) (by decide) (by decide)) b74 [.ref ca] [.ref b74] (lenOf pd_23 rfl) hml e74 at_249
    obtain ⟨rfl, Nq76, Kq, Es, Fc, t_, kb, gt, Gt, ne_t, Fv, Va, Ea⟩ := hQ76
    have N76 := Fr.app N72 Nq76
    replace k76 := own_pushV k76
    replace X00 := X00.keep Kq (by simpa using g_b74)
    replace Vc := Vc.keep Kq (by simpa using ne_ca_b74)
    have Zs76 := Nat.le_trans Zs74 Kq.1
    replace Va : Arv Z _ t_ kb .byte (3 : Int32) [.int (r0.toInt8.toInt32), .int (r1.toInt8.toInt32), .int (r2.toInt8.toInt32)] (.int 0) := Va
    rw [own_rb hc0, own_rb hc1, own_rb hc2] at Va
    obtain ⟨_, T77, Lc77, X77, hQ77, k77⟩ := o_callSM X76 hx hZ k76 yy25 hown (hw 38 rfl) (hw 39 rfl) (hw 40 rfl) (hw 41 rfl) (rm57 hw b74 dco eno iso utf tbd tbe kd ke G1 fm t_ kb u0 u1 u2 u3 u4 u5 v0 v1 v2 v3 v4 v5 v6 v7 r0 r1 r2 r3 r4 r5 r6 r7 T76.heap n0 Zs76 hG X00 Es Fc Fv Va Ea hD) 0 [.ref b74] [] (lenOf pd_15 rfl) hml rfl at_252
    obtain ⟨ds, kd2, yo0, yo1, rfl, Nq77, Kd, Vd, Gd, sb0, sb1⟩ := hQ77
    have N77 := Fr.app N76 Nq77
    replace k77 := own_pushR k77
    replace X00 := X00.keep Kd (by simp)
    replace Vc := Vc.keep Kd (by simp)
    replace Es := Es.keep Kd
    replace Fc := Fc.keep Kd (by simp)
    replace Fv := Fv.keep Kd (by simp)
    replace Va := Va.keep Kd (by simp)
    replace Ea := Ea.keep Kd
    have Zs77 := Nat.le_trans Zs76 Kd.1
    have k78 := fun t_ ht_ => k77 t_ (o_astore X77 hx at_255 #[Li p1, Li p2, Li p3, Li 2, Li u0, Li u1, Li u2, Li u3, Li u4, Li u5, Li r0, Li r1, Li r2, Li r3, Li r4, Li r5, Li r6, Li r7, Lr ca, Lr ds] rfl rfl (o_aload X77 hx at_257 rfl rfl (o_ifnullNo X77 hx at_259 rfl (o_aload X77 hx at_262 rfl rfl (o_len X77 hx hZ at_264 rfl Vd (o_iloadN X77 hx at_265 rfl (o_icmpYes X77 hx at_266 (teq (by decide)).1 271 (o_aload X77 hx at_271 rfl rfl (o_iconst X77 hx at_273 0 rfl (o_iloadN X77 hx at_274 rfl (o_iload X77 hx at_275 rfl ht_)))))))))))
    obtain ⟨_, T79, Lc79, X79, hQ79, k79⟩ := o_callSM X77 hx hZ k78 yy29 hown (hw 170 rfl) (hw 171 rfl) (hw 3 rfl) (hw 172 rfl) (rm116 hw ds (0 : Int32) (2 : Int32) u0 kd2 (2 : Int32) [.int yo0, .int yo1] yo0 T77.heap n0 Zs77 Vd (by decide) ⟨by decide, by decide⟩ rfl (own_sb255 sb0)) 0 [.ref ds, .int 0, .int 2, .int u0] [] (lenOf pd_24 rfl) hml rfl at_277
    obtain ⟨rfl, Nq79, e79⟩ := hQ79
    have N79 := Fr.app N77 Nq79
    replace k79 := own_pushR k79
    have k80 := fun t_ ht_ => k79 t_ (o_ifNo X79 hx at_280 ((if0 _ _).trans (feq (by decide)).1) (o_aload X79 hx at_283 rfl rfl (o_iconst X79 hx at_285 1 rfl (o_iloadN X79 hx at_286 rfl (o_iload X79 hx at_287 rfl ht_)))))
    obtain ⟨_, T81, Lc81, X81, hQ81, k81⟩ := o_callSM X79 hx hZ k80 yy29 hown (hw 170 rfl) (hw 171 rfl) (hw 3 rfl) (hw 172 rfl) (rm116 hw ds (1 : Int32) (2 : Int32) u1 kd2 (2 : Int32) [.int yo0, .int yo1] yo1 T77.heap n0 Zs77 Vd (by decide) ⟨by decide, by decide⟩ rfl (own_sb255 sb1)) 0 [.ref ds, .int 1, .int 2, .int u1] [] (lenOf pd_24 rfl) hml e79 at_289
    obtain ⟨rfl, Nq81, e81⟩ := hQ81
    have N81 := Fr.app N79 Nq81
    replace k81 := own_pushR k81
    have k82 := fun t_ ht_ => k81 t_ (o_ifNo X81 hx at_292 ((if0 _ _).trans (feq (by decide)).1) (o_aload X81 hx at_295 rfl rfl (o_iconst X81 hx at_297 2 rfl (o_iloadN X81 hx at_298 rfl (o_iload X81 hx at_299 rfl ht_)))))
    obtain ⟨_, T83, Lc83, X83, hQ83, k83⟩ := o_callSM X81 hx hZ k82 yy29 hown (hw 170 rfl) (hw 171 rfl) (hw 3 rfl) (hw 172 rfl) (rm115 hw ds (2 : Int32) (2 : Int32) u2 T77.heap n0 Zs77 (by decide)) 0 [.ref ds, .int 2, .int 2, .int u2] [] (lenOf pd_24 rfl) hml e81 at_301
    obtain ⟨rfl, Nq83, e83⟩ := hQ83
    have N83 := Fr.app N81 Nq83
    replace k83 := own_pushR k83
    have k84 := fun t_ ht_ => k83 t_ (o_ifNo X83 hx at_304 ((if0 _ _).trans (feq (by decide)).1) (o_aload X83 hx at_307 rfl rfl (o_iconst X83 hx at_309 3 rfl (o_iloadN X83 hx at_310 rfl (o_iload X83 hx at_311 rfl ht_)))))
    obtain ⟨_, T85, Lc85, X85, hQ85, k85⟩ := o_callSM X83 hx hZ k84 yy29 hown (hw 170 rfl) (hw 171 rfl) (hw 3 rfl) (hw 172 rfl) (rm115 hw ds (3 : Int32) (2 : Int32) u3 T77.heap n0 Zs77 (by decide)) 0 [.ref ds, .int 3, .int 2, .int u3] [] (lenOf pd_24 rfl) hml e83 at_313
    obtain ⟨rfl, Nq85, e85⟩ := hQ85
    have N85 := Fr.app N83 Nq85
    replace k85 := own_pushR k85
    have k86 := fun t_ ht_ => k85 t_ (o_ifNo X85 hx at_316 ((if0 _ _).trans (feq (by decide)).1) (o_aload X85 hx at_319 rfl rfl (o_iconst X85 hx at_321 4 rfl (o_iloadN X85 hx at_322 rfl (o_iload X85 hx at_323 rfl ht_)))))
    obtain ⟨_, T87, Lc87, X87, hQ87, k87⟩ := o_callSM X85 hx hZ k86 yy29 hown (hw 170 rfl) (hw 171 rfl) (hw 3 rfl) (hw 172 rfl) (rm115 hw ds (4 : Int32) (2 : Int32) u4 T77.heap n0 Zs77 (by decide)) 0 [.ref ds, .int 4, .int 2, .int u4] [] (lenOf pd_24 rfl) hml e85 at_325
    obtain ⟨rfl, Nq87, e87⟩ := hQ87
    have N87 := Fr.app N85 Nq87
    replace k87 := own_pushR k87
    have k88 := fun t_ ht_ => k87 t_ (o_ifNo X87 hx at_328 ((if0 _ _).trans (feq (by decide)).1) (o_aload X87 hx at_331 rfl rfl (o_iconst X87 hx at_333 5 rfl (o_iloadN X87 hx at_334 rfl (o_iload X87 hx at_335 rfl ht_)))))
    obtain ⟨_, T89, Lc89, X89, hQ89, k89⟩ := o_callSM X87 hx hZ k88 yy29 hown (hw 170 rfl) (hw 171 rfl) (hw 3 rfl) (hw 172 rfl) (rm115 hw ds (5 : Int32) (2 : Int32) u5 T77.heap n0 Zs77 (by decide)) 0 [.ref ds, .int 5, .int 2, .int u5] [] (lenOf pd_24 rfl) hml e87 at_337
    obtain ⟨rfl, Nq89, e89⟩ := hQ89
    have N89 := Fr.app N87 Nq89
    replace k89 := own_pushR k89
    have k90 := fun t_ ht_ => k89 t_ (o_ifNo X89 hx at_340 ((if0 _ _).trans (feq (by decide)).1) (o_iconst X89 hx at_343 1 rfl (o_goto X89 hx at_344 348 ht_)))
    exact o_retNW (vm := s.vm) X89 hx k90 hlk hret (by simp) at_348 hS0 (Nat.zero_le _) (by rw [e89]; exact ⟨rfl, N89⟩)
  · have hD : own_D 3 u0 u1 u2 u3 u4 u5 v0 v1 v2 v3 v4 v5 v6 v7 r0 r1 r2 r3 r4 r5 r6 r7 := ⟨hq0, hq1, hc0, hc1, hc2, hc3, hc4, hc5, hc6, hc7, (fun q => absurd q (by decide)), (fun q => absurd q (by decide)), (fun _ => own_lz hu4 (by decide)), (fun _ => own_lz hu5 (by decide))⟩
    have k91 := fun t_ ht_ => k30 t_ (o_iloadN X29 hx at_221 rfl (o_iload X29 hx at_222 rfl (o_iload X29 hx at_224 rfl (o_iload X29 hx at_226 rfl (o_iload X29 hx at_228 rfl (o_iload X29 hx at_230 rfl (o_iload X29 hx at_232 rfl (o_iload X29 hx at_234 rfl (o_iload X29 hx at_236 rfl ht_)))))))))
    obtain ⟨_, T92, Lc92, X92, hQ92, k92⟩ := o_callSM X29 hx hZ k91 yy1 hown (hw 5 rfl) (hw 6 rfl) (hw 3 rfl) (hw 7 rfl) (rm15 hw r0 r1 r2 r3 r4 r5 r6 r7 h0 n0 Z0) 0 [.int 3, .int r0, .int r1, .int r2, .int r3, .int r4, .int r5, .int r6, .int r7] [] (lenOf pd_22 rfl) hml eh7 at_238
    obtain ⟨ca, kca, rfl, Nq92, Kc, Vc, Gc⟩ := hQ92
    have N92 := Fr.app N29 Nq92
    replace k92 := own_pushR k92
    replace X00 := X00.keep Kc (by simp)
    have Zs92 := Nat.le_trans Z0 Kc.1
    rw [own_rc hc0, own_rc hc1, own_rc hc2, own_rc hc3] at Vc
    have k93 := fun t_ ht_ => k92 t_ (o_astore X92 hx at_241 #[Li p1, Li p2, Li p3, Li 3, Li u0, Li u1, Li u2, Li u3, Li u4, Li u5, Li r0, Li r1, Li r2, Li r3, Li r4, Li r5, Li r6, Li r7, Lr ca, Lu] rfl rfl ht_)
    obtain ⟨T94, h94, X94, e94, E94, A94, D94, k94⟩ := o_newO X92 hx hZ k93 hown (hw 9 rfl) (hw 10 rfl) (hw 11 rfl) rfl at_243
    obtain ⟨b94, g94⟩ : ∃ z, z = T92.heap.size := ⟨_, rfl⟩
    rw [← g94] at A94 D94 k94
    have ne_ca_b94 : ca ≠ b94 := Nat.ne_of_lt (Nat.lt_of_lt_of_le Vc.lt (Nat.le_of_eq g94.symm))
    have g_b94 : n0 ≤ b94 := Nat.le_trans Zs92 (Nat.le_of_eq g94.symm)
    replace X00 : Old Z n0 h94 := ⟨X00.1, Nat.le_trans X00.2.1 E94.1, fun x c r => E94.2 x c (X00.2.2 x c r)⟩
    replace Vc := Vc.ext E94
    have Zs94 := Nat.le_trans Zs92 E94.1
    have Ex_b94 := A94
    have F_coder_b94 : Fld Z h94 b94 "java/lang/String" "coder" "B" (.int 0) := D94 (Or.inr (hw 35 rfl)) (ty := .byte) (by decide)
    have F_value_b94 : Fld Z h94 b94 "java/lang/String" "value" "[B" (.null) := D94 (Or.inr (hw 37 rfl)) (ty := (.array .byte)) (by decide)
    have k95 := fun t_ ht_ => k94 t_ (o_dup X94 hx at_246 rfl (o_aload X94 hx at_247 rfl rfl ht_))
    obtain ⟨_, T96, Lc96, X96, hQ96, k96⟩ := o_special X94 hx hZ k95 yy28 rfl hown (hw 12 rfl) (hw 13 rfl) (hw 14 rfl) (own_backVE (W := 1) hZ hws (kI := 4) (hw 10 rfl) (cs := [r0, r1, r2, r3]) (n := 4) g_b94 Zs94 Ex_b94 F_value_b94 F_coder_b94 Vc (sC.ext X00.2) gC rfl rfl (by decide) (by decide) (own_lats hc0 (own_lats hc1 (own_lats hc2 (own_lats hc3 own_latn)))) (by decide) (by decide)) b94 [.ref ca] [.ref b94] (lenOf pd_23 rfl) hml e94 at_249
    obtain ⟨rfl, Nq96, Kq, Es, Fc, t_, kb, gt, Gt, ne_t, Fv, Va, Ea⟩ := hQ96
    have N96 := Fr.app N92 Nq96
    replace k96 := own_pushV k96
    replace X00 := X00.keep Kq (by simpa using g_b94)
    replace Vc := Vc.keep Kq (by simpa using ne_ca_b94)
    have Zs96 := Nat.le_trans Zs94 Kq.1
    replace Va : Arv Z _ t_ kb .byte (4 : Int32) [.int (r0.toInt8.toInt32), .int (r1.toInt8.toInt32), .int (r2.toInt8.toInt32), .int (r3.toInt8.toInt32)] (.int 0) := Va
    rw [own_rb hc0, own_rb hc1, own_rb hc2, own_rb hc3] at Va
    obtain ⟨_, T97, Lc97, X97, hQ97, k97⟩ := o_callSM X96 hx hZ k96 yy25 hown (hw 38 rfl) (hw 39 rfl) (hw 40 rfl) (hw 41 rfl) (rm69 hw b94 dco eno iso utf tbd tbe kd ke G1 fm t_ kb u0 u1 u2 u3 u4 u5 v0 v1 v2 v3 v4 v5 v6 v7 r0 r1 r2 r3 r4 r5 r6 r7 T96.heap n0 Zs96 hG X00 Es Fc Fv Va Ea hD) 0 [.ref b94] [] (lenOf pd_15 rfl) hml rfl at_252
    obtain ⟨ds, kd2, yo0, yo1, yo2, rfl, Nq97, Kd, Vd, Gd, sb0, sb1, sb2⟩ := hQ97
    have N97 := Fr.app N96 Nq97
    replace k97 := own_pushR k97
    replace X00 := X00.keep Kd (by simp)
    replace Vc := Vc.keep Kd (by simp)
    replace Es := Es.keep Kd
    replace Fc := Fc.keep Kd (by simp)
    replace Fv := Fv.keep Kd (by simp)
    replace Va := Va.keep Kd (by simp)
    replace Ea := Ea.keep Kd
    have Zs97 := Nat.le_trans Zs96 Kd.1
    have k98 := fun t_ ht_ => k97 t_ (o_astore X97 hx at_255 #[Li p1, Li p2, Li p3, Li 3, Li u0, Li u1, Li u2, Li u3, Li u4, Li u5, Li r0, Li r1, Li r2, Li r3, Li r4, Li r5, Li r6, Li r7, Lr ca, Lr ds] rfl rfl (o_aload X97 hx at_257 rfl rfl (o_ifnullNo X97 hx at_259 rfl (o_aload X97 hx at_262 rfl rfl (o_len X97 hx hZ at_264 rfl Vd (o_iloadN X97 hx at_265 rfl (o_icmpYes X97 hx at_266 (teq (by decide)).1 271 (o_aload X97 hx at_271 rfl rfl (o_iconst X97 hx at_273 0 rfl (o_iloadN X97 hx at_274 rfl (o_iload X97 hx at_275 rfl ht_)))))))))))
    obtain ⟨_, T99, Lc99, X99, hQ99, k99⟩ := o_callSM X97 hx hZ k98 yy29 hown (hw 170 rfl) (hw 171 rfl) (hw 3 rfl) (hw 172 rfl) (rm116 hw ds (0 : Int32) (3 : Int32) u0 kd2 (3 : Int32) [.int yo0, .int yo1, .int yo2] yo0 T97.heap n0 Zs97 Vd (by decide) ⟨by decide, by decide⟩ rfl (own_sb255 sb0)) 0 [.ref ds, .int 0, .int 3, .int u0] [] (lenOf pd_24 rfl) hml rfl at_277
    obtain ⟨rfl, Nq99, e99⟩ := hQ99
    have N99 := Fr.app N97 Nq99
    replace k99 := own_pushR k99
    have k100 := fun t_ ht_ => k99 t_ (o_ifNo X99 hx at_280 ((if0 _ _).trans (feq (by decide)).1) (o_aload X99 hx at_283 rfl rfl (o_iconst X99 hx at_285 1 rfl (o_iloadN X99 hx at_286 rfl (o_iload X99 hx at_287 rfl ht_)))))
    obtain ⟨_, T101, Lc101, X101, hQ101, k101⟩ := o_callSM X99 hx hZ k100 yy29 hown (hw 170 rfl) (hw 171 rfl) (hw 3 rfl) (hw 172 rfl) (rm116 hw ds (1 : Int32) (3 : Int32) u1 kd2 (3 : Int32) [.int yo0, .int yo1, .int yo2] yo1 T97.heap n0 Zs97 Vd (by decide) ⟨by decide, by decide⟩ rfl (own_sb255 sb1)) 0 [.ref ds, .int 1, .int 3, .int u1] [] (lenOf pd_24 rfl) hml e99 at_289
    obtain ⟨rfl, Nq101, e101⟩ := hQ101
    have N101 := Fr.app N99 Nq101
    replace k101 := own_pushR k101
    have k102 := fun t_ ht_ => k101 t_ (o_ifNo X101 hx at_292 ((if0 _ _).trans (feq (by decide)).1) (o_aload X101 hx at_295 rfl rfl (o_iconst X101 hx at_297 2 rfl (o_iloadN X101 hx at_298 rfl (o_iload X101 hx at_299 rfl ht_)))))
    obtain ⟨_, T103, Lc103, X103, hQ103, k103⟩ := o_callSM X101 hx hZ k102 yy29 hown (hw 170 rfl) (hw 171 rfl) (hw 3 rfl) (hw 172 rfl) (rm116 hw ds (2 : Int32) (3 : Int32) u2 kd2 (3 : Int32) [.int yo0, .int yo1, .int yo2] yo2 T97.heap n0 Zs97 Vd (by decide) ⟨by decide, by decide⟩ rfl (own_sb255 sb2)) 0 [.ref ds, .int 2, .int 3, .int u2] [] (lenOf pd_24 rfl) hml e101 at_301
    obtain ⟨rfl, Nq103, e103⟩ := hQ103
    have N103 := Fr.app N101 Nq103
    replace k103 := own_pushR k103
    have k104 := fun t_ ht_ => k103 t_ (o_ifNo X103 hx at_304 ((if0 _ _).trans (feq (by decide)).1) (o_aload X103 hx at_307 rfl rfl (o_iconst X103 hx at_309 3 rfl (o_iloadN X103 hx at_310 rfl (o_iload X103 hx at_311 rfl ht_)))))
    obtain ⟨_, T105, Lc105, X105, hQ105, k105⟩ := o_callSM X103 hx hZ k104 yy29 hown (hw 170 rfl) (hw 171 rfl) (hw 3 rfl) (hw 172 rfl) (rm115 hw ds (3 : Int32) (3 : Int32) u3 T97.heap n0 Zs97 (by decide)) 0 [.ref ds, .int 3, .int 3, .int u3] [] (lenOf pd_24 rfl) hml e103 at_313
    obtain ⟨rfl, Nq105, e105⟩ := hQ105
    have N105 := Fr.app N103 Nq105
    replace k105 := own_pushR k105
    have k106 := fun t_ ht_ => k105 t_ (o_ifNo X105 hx at_316 ((if0 _ _).trans (feq (by decide)).1) (o_aload X105 hx at_319 rfl rfl (o_iconst X105 hx at_321 4 rfl (o_iloadN X105 hx at_322 rfl (o_iload X105 hx at_323 rfl ht_)))))
    obtain ⟨_, T107, Lc107, X107, hQ107, k107⟩ := o_callSM X105 hx hZ k106 yy29 hown (hw 170 rfl) (hw 171 rfl) (hw 3 rfl) (hw 172 rfl) (rm115 hw ds (4 : Int32) (3 : Int32) u4 T97.heap n0 Zs97 (by decide)) 0 [.ref ds, .int 4, .int 3, .int u4] [] (lenOf pd_24 rfl) hml e105 at_325
    obtain ⟨rfl, Nq107, e107⟩ := hQ107
    have N107 := Fr.app N105 Nq107
    replace k107 := own_pushR k107
    have k108 := fun t_ ht_ => k107 t_ (o_ifNo X107 hx at_328 ((if0 _ _).trans (feq (by decide)).1) (o_aload X107 hx at_331 rfl rfl (o_iconst X107 hx at_333 5 rfl (o_iloadN X107 hx at_334 rfl (o_iload X107 hx at_335 rfl ht_)))))
    obtain ⟨_, T109, Lc109, X109, hQ109, k109⟩ := o_callSM X107 hx hZ k108 yy29 hown (hw 170 rfl) (hw 171 rfl) (hw 3 rfl) (hw 172 rfl) (rm115 hw ds (5 : Int32) (3 : Int32) u5 T97.heap n0 Zs97 (by decide)) 0 [.ref ds, .int 5, .int 3, .int u5] [] (lenOf pd_24 rfl) hml e107 at_337
    obtain ⟨rfl, Nq109, e109⟩ := hQ109
    have N109 := Fr.app N107 Nq109
    replace k109 := own_pushR k109
    have k110 := fun t_ ht_ => k109 t_ (o_ifNo X109 hx at_340 ((if0 _ _).trans (feq (by decide)).1) (o_iconst X109 hx at_343 1 rfl (o_goto X109 hx at_344 348 ht_)))
    exact o_retNW (vm := s.vm) X109 hx k110 hlk hret (by simp) at_348 hS0 (Nat.zero_le _) (by rw [e109]; exact ⟨rfl, N109⟩)
  · have hD : own_D 4 u0 u1 u2 u3 u4 u5 v0 v1 v2 v3 v4 v5 v6 v7 r0 r1 r2 r3 r4 r5 r6 r7 := ⟨hq0, hq1, hc0, hc1, hc2, hc3, hc4, hc5, hc6, hc7, (fun q => absurd q (by decide)), (fun q => absurd q (by decide)), (fun _ => own_lz hu4 (by decide)), (fun _ => own_lz hu5 (by decide))⟩
    have k111 := fun t_ ht_ => k30 t_ (o_iloadN X29 hx at_221 rfl (o_iload X29 hx at_222 rfl (o_iload X29 hx at_224 rfl (o_iload X29 hx at_226 rfl (o_iload X29 hx at_228 rfl (o_iload X29 hx at_230 rfl (o_iload X29 hx at_232 rfl (o_iload X29 hx at_234 rfl (o_iload X29 hx at_236 rfl ht_)))))))))
    obtain ⟨_, T112, Lc112, X112, hQ112, k112⟩ := o_callSM X29 hx hZ k111 yy1 hown (hw 5 rfl) (hw 6 rfl) (hw 3 rfl) (hw 7 rfl) (rm16 hw r0 r1 r2 r3 r4 r5 r6 r7 h0 n0 Z0) 0 [.int 4, .int r0, .int r1, .int r2, .int r3, .int r4, .int r5, .int r6, .int r7] [] (lenOf pd_22 rfl) hml eh7 at_238
    obtain ⟨ca, kca, rfl, Nq112, Kc, Vc, Gc⟩ := hQ112
    have N112 := Fr.app N29 Nq112
    replace k112 := own_pushR k112
    replace X00 := X00.keep Kc (by simp)
    have Zs112 := Nat.le_trans Z0 Kc.1
    rw [own_rc hc0, own_rc hc1, own_rc hc2, own_rc hc3, own_rc hc4, own_rc hc5] at Vc
    have k113 := fun t_ ht_ => k112 t_ (o_astore X112 hx at_241 #[Li p1, Li p2, Li p3, Li 4, Li u0, Li u1, Li u2, Li u3, Li u4, Li u5, Li r0, Li r1, Li r2, Li r3, Li r4, Li r5, Li r6, Li r7, Lr ca, Lu] rfl rfl ht_)
    obtain ⟨T114, h114, X114, e114, E114, A114, D114, k114⟩ := o_newO X112 hx hZ k113 hown (hw 9 rfl) (hw 10 rfl) (hw 11 rfl) rfl at_243
    obtain ⟨b114, g114⟩ : ∃ z, z = T112.heap.size := ⟨_, rfl⟩
    rw [← g114] at A114 D114 k114
    have ne_ca_b114 : ca ≠ b114 := Nat.ne_of_lt (Nat.lt_of_lt_of_le Vc.lt (Nat.le_of_eq g114.symm))
    have g_b114 : n0 ≤ b114 := Nat.le_trans Zs112 (Nat.le_of_eq g114.symm)
    replace X00 : Old Z n0 h114 := ⟨X00.1, Nat.le_trans X00.2.1 E114.1, fun x c r => E114.2 x c (X00.2.2 x c r)⟩
    replace Vc := Vc.ext E114
    have Zs114 := Nat.le_trans Zs112 E114.1
    have Ex_b114 := A114
    have F_coder_b114 : Fld Z h114 b114 "java/lang/String" "coder" "B" (.int 0) := D114 (Or.inr (hw 35 rfl)) (ty := .byte) (by decide)
    have F_value_b114 : Fld Z h114 b114 "java/lang/String" "value" "[B" (.null) := D114 (Or.inr (hw 37 rfl)) (ty := (.array .byte)) (by decide)
    have k115 := fun t_ ht_ => k114 t_ (o_dup X114 hx at_246 rfl (o_aload X114 hx at_247 rfl rfl ht_))
    obtain ⟨_, T116, Lc116, X116, hQ116, k116⟩ := o_special X114 hx hZ k115 yy28 rfl hown (hw 12 rfl) (hw 13 rfl) (hw 14 rfl) (own_backVE (W := 1) hZ hws (kI := 4) (hw 10 rfl) (cs := [r0, r1, r2, r3, r4, r5]) (n := 6) g_b114 Zs114 Ex_b114 F_value_b114 F_coder_b114 Vc (sC.ext X00.2) gC rfl rfl (by decide) (by decide) (own_lats hc0 (own_lats hc1 (own_lats hc2 (own_lats hc3 (own_lats hc4 (own_lats hc5 own_latn)))))) (by decide) (by decide)) b114 [.ref ca] [.ref b114] (lenOf pd_23 rfl) hml e114 at_249
    obtain ⟨rfl, Nq116, Kq, Es, Fc, t_, kb, gt, Gt, ne_t, Fv, Va, Ea⟩ := hQ116
    have N116 := Fr.app N112 Nq116
    replace k116 := own_pushV k116
    replace X00 := X00.keep Kq (by simpa using g_b114)
    replace Vc := Vc.keep Kq (by simpa using ne_ca_b114)
    have Zs116 := Nat.le_trans Zs114 Kq.1
    replace Va : Arv Z _ t_ kb .byte (6 : Int32) [.int (r0.toInt8.toInt32), .int (r1.toInt8.toInt32), .int (r2.toInt8.toInt32), .int (r3.toInt8.toInt32), .int (r4.toInt8.toInt32), .int (r5.toInt8.toInt32)] (.int 0) := Va
    rw [own_rb hc0, own_rb hc1, own_rb hc2, own_rb hc3, own_rb hc4, own_rb hc5] at Va
    obtain ⟨_, T117, Lc117, X117, hQ117, k117⟩ := o_callSM X116 hx hZ k116 yy25 hown (hw 38 rfl) (hw 39 rfl) (hw 40 rfl) (hw 41 rfl) (rm79 hw b114 dco eno iso utf tbd tbe kd ke G1 fm t_ kb u0 u1 u2 u3 u4 u5 v0 v1 v2 v3 v4 v5 v6 v7 r0 r1 r2 r3 r4 r5 r6 r7 T116.heap n0 Zs116 hG X00 Es Fc Fv Va Ea hD) 0 [.ref b114] [] (lenOf pd_15 rfl) hml rfl at_252
    obtain ⟨ds, kd2, yo0, yo1, yo2, yo3, rfl, Nq117, Kd, Vd, Gd, sb0, sb1, sb2, sb3⟩ := hQ117
    have N117 := Fr.app N116 Nq117
    replace k117 := own_pushR k117
    replace X00 := X00.keep Kd (by simp)
    replace Vc := Vc.keep Kd (by simp)
    replace Es := Es.keep Kd
    replace Fc := Fc.keep Kd (by simp)
    replace Fv := Fv.keep Kd (by simp)
    replace Va := Va.keep Kd (by simp)
    replace Ea := Ea.keep Kd
    have Zs117 := Nat.le_trans Zs116 Kd.1
    have k118 := fun t_ ht_ => k117 t_ (o_astore X117 hx at_255 #[Li p1, Li p2, Li p3, Li 4, Li u0, Li u1, Li u2, Li u3, Li u4, Li u5, Li r0, Li r1, Li r2, Li r3, Li r4, Li r5, Li r6, Li r7, Lr ca, Lr ds] rfl rfl (o_aload X117 hx at_257 rfl rfl (o_ifnullNo X117 hx at_259 rfl (o_aload X117 hx at_262 rfl rfl (o_len X117 hx hZ at_264 rfl Vd (o_iloadN X117 hx at_265 rfl (o_icmpYes X117 hx at_266 (teq (by decide)).1 271 (o_aload X117 hx at_271 rfl rfl (o_iconst X117 hx at_273 0 rfl (o_iloadN X117 hx at_274 rfl (o_iload X117 hx at_275 rfl ht_)))))))))))
    obtain ⟨_, T119, Lc119, X119, hQ119, k119⟩ := o_callSM X117 hx hZ k118 yy29 hown (hw 170 rfl) (hw 171 rfl) (hw 3 rfl) (hw 172 rfl) (rm116 hw ds (0 : Int32) (4 : Int32) u0 kd2 (4 : Int32) [.int yo0, .int yo1, .int yo2, .int yo3] yo0 T117.heap n0 Zs117 Vd (by decide) ⟨by decide, by decide⟩ rfl (own_sb255 sb0)) 0 [.ref ds, .int 0, .int 4, .int u0] [] (lenOf pd_24 rfl) hml rfl at_277
    obtain ⟨rfl, Nq119, e119⟩ := hQ119
    have N119 := Fr.app N117 Nq119
    replace k119 := own_pushR k119
    have k120 := fun t_ ht_ => k119 t_ (o_ifNo X119 hx at_280 ((if0 _ _).trans (feq (by decide)).1) (o_aload X119 hx at_283 rfl rfl (o_iconst X119 hx at_285 1 rfl (o_iloadN X119 hx at_286 rfl (o_iload X119 hx at_287 rfl ht_)))))
    obtain ⟨_, T121, Lc121, X121, hQ121, k121⟩ := o_callSM X119 hx hZ k120 yy29 hown (hw 170 rfl) (hw 171 rfl) (hw 3 rfl) (hw 172 rfl) (rm116 hw ds (1 : Int32) (4 : Int32) u1 kd2 (4 : Int32) [.int yo0, .int yo1, .int yo2, .int yo3] yo1 T117.heap n0 Zs117 Vd (by decide) ⟨by decide, by decide⟩ rfl (own_sb255 sb1)) 0 [.ref ds, .int 1, .int 4, .int u1] [] (lenOf pd_24 rfl) hml e119 at_289
    obtain ⟨rfl, Nq121, e121⟩ := hQ121
    have N121 := Fr.app N119 Nq121
    replace k121 := own_pushR k121
    have k122 := fun t_ ht_ => k121 t_ (o_ifNo X121 hx at_292 ((if0 _ _).trans (feq (by decide)).1) (o_aload X121 hx at_295 rfl rfl (o_iconst X121 hx at_297 2 rfl (o_iloadN X121 hx at_298 rfl (o_iload X121 hx at_299 rfl ht_)))))
    obtain ⟨_, T123, Lc123, X123, hQ123, k123⟩ := o_callSM X121 hx hZ k122 yy29 hown (hw 170 rfl) (hw 171 rfl) (hw 3 rfl) (hw 172 rfl) (rm116 hw ds (2 : Int32) (4 : Int32) u2 kd2 (4 : Int32) [.int yo0, .int yo1, .int yo2, .int yo3] yo2 T117.heap n0 Zs117 Vd (by decide) ⟨by decide, by decide⟩ rfl (own_sb255 sb2)) 0 [.ref ds, .int 2, .int 4, .int u2] [] (lenOf pd_24 rfl) hml e121 at_301
    obtain ⟨rfl, Nq123, e123⟩ := hQ123
    have N123 := Fr.app N121 Nq123
    replace k123 := own_pushR k123
    have k124 := fun t_ ht_ => k123 t_ (o_ifNo X123 hx at_304 ((if0 _ _).trans (feq (by decide)).1) (o_aload X123 hx at_307 rfl rfl (o_iconst X123 hx at_309 3 rfl (o_iloadN X123 hx at_310 rfl (o_iload X123 hx at_311 rfl ht_)))))
    obtain ⟨_, T125, Lc125, X125, hQ125, k125⟩ := o_callSM X123 hx hZ k124 yy29 hown (hw 170 rfl) (hw 171 rfl) (hw 3 rfl) (hw 172 rfl) (rm116 hw ds (3 : Int32) (4 : Int32) u3 kd2 (4 : Int32) [.int yo0, .int yo1, .int yo2, .int yo3] yo3 T117.heap n0 Zs117 Vd (by decide) ⟨by decide, by decide⟩ rfl (own_sb255 sb3)) 0 [.ref ds, .int 3, .int 4, .int u3] [] (lenOf pd_24 rfl) hml e123 at_313
    obtain ⟨rfl, Nq125, e125⟩ := hQ125
    have N125 := Fr.app N123 Nq125
    replace k125 := own_pushR k125
    have k126 := fun t_ ht_ => k125 t_ (o_ifNo X125 hx at_316 ((if0 _ _).trans (feq (by decide)).1) (o_aload X125 hx at_319 rfl rfl (o_iconst X125 hx at_321 4 rfl (o_iloadN X125 hx at_322 rfl (o_iload X125 hx at_323 rfl ht_)))))
    obtain ⟨_, T127, Lc127, X127, hQ127, k127⟩ := o_callSM X125 hx hZ k126 yy29 hown (hw 170 rfl) (hw 171 rfl) (hw 3 rfl) (hw 172 rfl) (rm115 hw ds (4 : Int32) (4 : Int32) u4 T117.heap n0 Zs117 (by decide)) 0 [.ref ds, .int 4, .int 4, .int u4] [] (lenOf pd_24 rfl) hml e125 at_325
    obtain ⟨rfl, Nq127, e127⟩ := hQ127
    have N127 := Fr.app N125 Nq127
    replace k127 := own_pushR k127
    have k128 := fun t_ ht_ => k127 t_ (o_ifNo X127 hx at_328 ((if0 _ _).trans (feq (by decide)).1) (o_aload X127 hx at_331 rfl rfl (o_iconst X127 hx at_333 5 rfl (o_iloadN X127 hx at_334 rfl (o_iload X127 hx at_335 rfl ht_)))))
    obtain ⟨_, T129, Lc129, X129, hQ129, k129⟩ := o_callSM X127 hx hZ k128 yy29 hown (hw 170 rfl) (hw 171 rfl) (hw 3 rfl) (hw 172 rfl) (rm115 hw ds (5 : Int32) (4 : Int32) u5 T117.heap n0 Zs117 (by decide)) 0 [.ref ds, .int 5, .int 4, .int u5] [] (lenOf pd_24 rfl) hml e127 at_337
    obtain ⟨rfl, Nq129, e129⟩ := hQ129
    have N129 := Fr.app N127 Nq129
    replace k129 := own_pushR k129
    have k130 := fun t_ ht_ => k129 t_ (o_ifNo X129 hx at_340 ((if0 _ _).trans (feq (by decide)).1) (o_iconst X129 hx at_343 1 rfl (o_goto X129 hx at_344 348 ht_)))
    exact o_retNW (vm := s.vm) X129 hx k130 hlk hret (by simp) at_348 hS0 (Nat.zero_le _) (by rw [e129]; exact ⟨rfl, N129⟩)
  · have hD : own_D 5 u0 u1 u2 u3 u4 u5 v0 v1 v2 v3 v4 v5 v6 v7 r0 r1 r2 r3 r4 r5 r6 r7 := ⟨hq0, hq1, hc0, hc1, hc2, hc3, hc4, hc5, hc6, hc7, (fun q => absurd q (by decide)), (fun q => absurd q (by decide)), (fun q => absurd q (by decide)), (fun _ => own_lz hu5 (by decide))⟩
    have k131 := fun t_ ht_ => k30 t_ (o_iloadN X29 hx at_221 rfl (o_iload X29 hx at_222 rfl (o_iload X29 hx at_224 rfl (o_iload X29 hx at_226 rfl (o_iload X29 hx at_228 rfl (o_iload X29 hx at_230 rfl (o_iload X29 hx at_232 rfl (o_iload X29 hx at_234 rfl (o_iload X29 hx at_236 rfl ht_)))))))))
    obtain ⟨_, T132, Lc132, X132, hQ132, k132⟩ := o_callSM X29 hx hZ k131 yy1 hown (hw 5 rfl) (hw 6 rfl) (hw 3 rfl) (hw 7 rfl) (rm17 hw r0 r1 r2 r3 r4 r5 r6 r7 h0 n0 Z0) 0 [.int 5, .int r0, .int r1, .int r2, .int r3, .int r4, .int r5, .int r6, .int r7] [] (lenOf pd_22 rfl) hml eh7 at_238
    obtain ⟨ca, kca, rfl, Nq132, Kc, Vc, Gc⟩ := hQ132
    have N132 := Fr.app N29 Nq132
    replace k132 := own_pushR k132
    replace X00 := X00.keep Kc (by simp)
    have Zs132 := Nat.le_trans Z0 Kc.1
    rw [own_rc hc0, own_rc hc1, own_rc hc2, own_rc hc3, own_rc hc4, own_rc hc5, own_rc hc6] at Vc
    have k133 := fun t_ ht_ => k132 t_ (o_astore X132 hx at_241 #[Li p1, Li p2, Li p3, Li 5, Li u0, Li u1, Li u2, Li u3, Li u4, Li u5, Li r0, Li r1, Li r2, Li r3, Li r4, Li r5, Li r6, Li r7, Lr ca, Lu] rfl rfl ht_)
    obtain ⟨T134, h134, X134, e134, E134, A134, D134, k134⟩ := o_newO X132 hx hZ k133 hown (hw 9 rfl) (hw 10 rfl) (hw 11 rfl) rfl at_243
    obtain ⟨b134, g134⟩ : ∃ z, z = T132.heap.size := ⟨_, rfl⟩
    rw [← g134] at A134 D134 k134
    have ne_ca_b134 : ca ≠ b134 := Nat.ne_of_lt (Nat.lt_of_lt_of_le Vc.lt (Nat.le_of_eq g134.symm))
    have g_b134 : n0 ≤ b134 := Nat.le_trans Zs132 (Nat.le_of_eq g134.symm)
    replace X00 : Old Z n0 h134 := ⟨X00.1, Nat.le_trans X00.2.1 E134.1, fun x c r => E134.2 x c (X00.2.2 x c r)⟩
    replace Vc := Vc.ext E134
    have Zs134 := Nat.le_trans Zs132 E134.1
    have Ex_b134 := A134
    have F_coder_b134 : Fld Z h134 b134 "java/lang/String" "coder" "B" (.int 0) := D134 (Or.inr (hw 35 rfl)) (ty := .byte) (by decide)
    have F_value_b134 : Fld Z h134 b134 "java/lang/String" "value" "[B" (.null) := D134 (Or.inr (hw 37 rfl)) (ty := (.array .byte)) (by decide)
    have k135 := fun t_ ht_ => k134 t_ (o_dup X134 hx at_246 rfl (o_aload X134 hx at_247 rfl rfl ht_))
    obtain ⟨_, T136, Lc136, X136, hQ136, k136⟩ := o_special X134 hx hZ k135 yy28 rfl hown (hw 12 rfl) (hw 13 rfl) (hw 14 rfl) (own_backVE (W := 1) hZ hws (kI := 4) (hw 10 rfl) (cs := [r0, r1, r2, r3, r4, r5, r6]) (n := 7) g_b134 Zs134 Ex_b134 F_value_b134 F_coder_b134 Vc (sC.ext X00.2) gC rfl rfl (by decide) (by decide) (own_lats hc0 (own_lats hc1 (own_lats hc2 (own_lats hc3 (own_lats hc4 (own_lats hc5 (own_lats hc6 own_latn))))))) (by decide) (by decide)) b134 [.ref ca] [.ref b134] (lenOf pd_23 rfl) hml e134 at_249
    obtain ⟨rfl, Nq136, Kq, Es, Fc, t_, kb, gt, Gt, ne_t, Fv, Va, Ea⟩ := hQ136
    have N136 := Fr.app N132 Nq136
    replace k136 := own_pushV k136
    replace X00 := X00.keep Kq (by simpa using g_b134)
    replace Vc := Vc.keep Kq (by simpa using ne_ca_b134)
    have Zs136 := Nat.le_trans Zs134 Kq.1
    replace Va : Arv Z _ t_ kb .byte (7 : Int32) [.int (r0.toInt8.toInt32), .int (r1.toInt8.toInt32), .int (r2.toInt8.toInt32), .int (r3.toInt8.toInt32), .int (r4.toInt8.toInt32), .int (r5.toInt8.toInt32), .int (r6.toInt8.toInt32)] (.int 0) := Va
    rw [own_rb hc0, own_rb hc1, own_rb hc2, own_rb hc3, own_rb hc4, own_rb hc5, own_rb hc6] at Va
    obtain ⟨_, T137, Lc137, X137, hQ137, k137⟩ := o_callSM X136 hx hZ k136 yy25 hown (hw 38 rfl) (hw 39 rfl) (hw 40 rfl) (hw 41 rfl) (rm89 hw b134 dco eno iso utf tbd tbe kd ke G1 fm t_ kb u0 u1 u2 u3 u4 u5 v0 v1 v2 v3 v4 v5 v6 v7 r0 r1 r2 r3 r4 r5 r6 r7 T136.heap n0 Zs136 hG X00 Es Fc Fv Va Ea hD) 0 [.ref b134] [] (lenOf pd_15 rfl) hml rfl at_252
    obtain ⟨ds, kd2, yo0, yo1, yo2, yo3, yo4, rfl, Nq137, Kd, Vd, Gd, sb0, sb1, sb2, sb3, sb4⟩ := hQ137
    have N137 := Fr.app N136 Nq137
    replace k137 := own_pushR k137
    replace X00 := X00.keep Kd (by simp)
    replace Vc := Vc.keep Kd (by simp)
    replace Es := Es.keep Kd
    replace Fc := Fc.keep Kd (by simp)
    replace Fv := Fv.keep Kd (by simp)
    replace Va := Va.keep Kd (by simp)
    replace Ea := Ea.keep Kd
    have Zs137 := Nat.le_trans Zs136 Kd.1
    have k138 := fun t_ ht_ => k137 t_ (o_astore X137 hx at_255 #[Li p1, Li p2, Li p3, Li 5, Li u0, Li u1, Li u2, Li u3, Li u4, Li u5, Li r0, Li r1, Li r2, Li r3, Li r4, Li r5, Li r6, Li r7, Lr ca, Lr ds] rfl rfl (o_aload X137 hx at_257 rfl rfl (o_ifnullNo X137 hx at_259 rfl (o_aload X137 hx at_262 rfl rfl (o_len X137 hx hZ at_264 rfl Vd (o_iloadN X137 hx at_265 rfl (o_icmpYes X137 hx at_266 (teq (by decide)).1 271 (o_aload X137 hx at_271 rfl rfl (o_iconst X137 hx at_273 0 rfl (o_iloadN X137 hx at_274 rfl (o_iload X137 hx at_275 rfl ht_)))))))))))
    obtain ⟨_, T139, Lc139, X139, hQ139, k139⟩ := o_callSM X137 hx hZ k138 yy29 hown (hw 170 rfl) (hw 171 rfl) (hw 3 rfl) (hw 172 rfl) (rm116 hw ds (0 : Int32) (5 : Int32) u0 kd2 (5 : Int32) [.int yo0, .int yo1, .int yo2, .int yo3, .int yo4] yo0 T137.heap n0 Zs137 Vd (by decide) ⟨by decide, by decide⟩ rfl (own_sb255 sb0)) 0 [.ref ds, .int 0, .int 5, .int u0] [] (lenOf pd_24 rfl) hml rfl at_277
    obtain ⟨rfl, Nq139, e139⟩ := hQ139
    have N139 := Fr.app N137 Nq139
    replace k139 := own_pushR k139
    have k140 := fun t_ ht_ => k139 t_ (o_ifNo X139 hx at_280 ((if0 _ _).trans (feq (by decide)).1) (o_aload X139 hx at_283 rfl rfl (o_iconst X139 hx at_285 1 rfl (o_iloadN X139 hx at_286 rfl (o_iload X139 hx at_287 rfl ht_)))))
    obtain ⟨_, T141, Lc141, X141, hQ141, k141⟩ := o_callSM X139 hx hZ k140 yy29 hown (hw 170 rfl) (hw 171 rfl) (hw 3 rfl) (hw 172 rfl) (rm116 hw ds (1 : Int32) (5 : Int32) u1 kd2 (5 : Int32) [.int yo0, .int yo1, .int yo2, .int yo3, .int yo4] yo1 T137.heap n0 Zs137 Vd (by decide) ⟨by decide, by decide⟩ rfl (own_sb255 sb1)) 0 [.ref ds, .int 1, .int 5, .int u1] [] (lenOf pd_24 rfl) hml e139 at_289
    obtain ⟨rfl, Nq141, e141⟩ := hQ141
    have N141 := Fr.app N139 Nq141
    replace k141 := own_pushR k141
    have k142 := fun t_ ht_ => k141 t_ (o_ifNo X141 hx at_292 ((if0 _ _).trans (feq (by decide)).1) (o_aload X141 hx at_295 rfl rfl (o_iconst X141 hx at_297 2 rfl (o_iloadN X141 hx at_298 rfl (o_iload X141 hx at_299 rfl ht_)))))
    obtain ⟨_, T143, Lc143, X143, hQ143, k143⟩ := o_callSM X141 hx hZ k142 yy29 hown (hw 170 rfl) (hw 171 rfl) (hw 3 rfl) (hw 172 rfl) (rm116 hw ds (2 : Int32) (5 : Int32) u2 kd2 (5 : Int32) [.int yo0, .int yo1, .int yo2, .int yo3, .int yo4] yo2 T137.heap n0 Zs137 Vd (by decide) ⟨by decide, by decide⟩ rfl (own_sb255 sb2)) 0 [.ref ds, .int 2, .int 5, .int u2] [] (lenOf pd_24 rfl) hml e141 at_301
    obtain ⟨rfl, Nq143, e143⟩ := hQ143
    have N143 := Fr.app N141 Nq143
    replace k143 := own_pushR k143
    have k144 := fun t_ ht_ => k143 t_ (o_ifNo X143 hx at_304 ((if0 _ _).trans (feq (by decide)).1) (o_aload X143 hx at_307 rfl rfl (o_iconst X143 hx at_309 3 rfl (o_iloadN X143 hx at_310 rfl (o_iload X143 hx at_311 rfl ht_)))))
    obtain ⟨_, T145, Lc145, X145, hQ145, k145⟩ := o_callSM X143 hx hZ k144 yy29 hown (hw 170 rfl) (hw 171 rfl) (hw 3 rfl) (hw 172 rfl) (rm116 hw ds (3 : Int32) (5 : Int32) u3 kd2 (5 : Int32) [.int yo0, .int yo1, .int yo2, .int yo3, .int yo4] yo3 T137.heap n0 Zs137 Vd (by decide) ⟨by decide, by decide⟩ rfl (own_sb255 sb3)) 0 [.ref ds, .int 3, .int 5, .int u3] [] (lenOf pd_24 rfl) hml e143 at_313
    obtain ⟨rfl, Nq145, e145⟩ := hQ145
    have N145 := Fr.app N143 Nq145
    replace k145 := own_pushR k145
    have k146 := fun t_ ht_ => k145 t_ (o_ifNo X145 hx at_316 ((if0 _ _).trans (feq (by decide)).1) (o_aload X145 hx at_319 rfl rfl (o_iconst X145 hx at_321 4 rfl (o_iloadN X145 hx at_322 rfl (o_iload X145 hx at_323 rfl ht_)))))
    obtain ⟨_, T147, Lc147, X147, hQ147, k147⟩ := o_callSM X145 hx hZ k146 yy29 hown (hw 170 rfl) (hw 171 rfl) (hw 3 rfl) (hw 172 rfl) (rm116 hw ds (4 : Int32) (5 : Int32) u4 kd2 (5 : Int32) [.int yo0, .int yo1, .int yo2, .int yo3, .int yo4] yo4 T137.heap n0 Zs137 Vd (by decide) ⟨by decide, by decide⟩ rfl (own_sb255 sb4)) 0 [.ref ds, .int 4, .int 5, .int u4] [] (lenOf pd_24 rfl) hml e145 at_325
    obtain ⟨rfl, Nq147, e147⟩ := hQ147
    have N147 := Fr.app N145 Nq147
    replace k147 := own_pushR k147
    have k148 := fun t_ ht_ => k147 t_ (o_ifNo X147 hx at_328 ((if0 _ _).trans (feq (by decide)).1) (o_aload X147 hx at_331 rfl rfl (o_iconst X147 hx at_333 5 rfl (o_iloadN X147 hx at_334 rfl (o_iload X147 hx at_335 rfl ht_)))))
    obtain ⟨_, T149, Lc149, X149, hQ149, k149⟩ := o_callSM X147 hx hZ k148 yy29 hown (hw 170 rfl) (hw 171 rfl) (hw 3 rfl) (hw 172 rfl) (rm115 hw ds (5 : Int32) (5 : Int32) u5 T137.heap n0 Zs137 (by decide)) 0 [.ref ds, .int 5, .int 5, .int u5] [] (lenOf pd_24 rfl) hml e147 at_337
    obtain ⟨rfl, Nq149, e149⟩ := hQ149
    have N149 := Fr.app N147 Nq149
    replace k149 := own_pushR k149
    have k150 := fun t_ ht_ => k149 t_ (o_ifNo X149 hx at_340 ((if0 _ _).trans (feq (by decide)).1) (o_iconst X149 hx at_343 1 rfl (o_goto X149 hx at_344 348 ht_)))
    exact o_retNW (vm := s.vm) X149 hx k150 hlk hret (by simp) at_348 hS0 (Nat.zero_le _) (by rw [e149]; exact ⟨rfl, N149⟩)
  · have hD : own_D 6 u0 u1 u2 u3 u4 u5 v0 v1 v2 v3 v4 v5 v6 v7 r0 r1 r2 r3 r4 r5 r6 r7 := ⟨hq0, hq1, hc0, hc1, hc2, hc3, hc4, hc5, hc6, hc7, (fun q => absurd q (by decide)), (fun q => absurd q (by decide)), (fun q => absurd q (by decide)), (fun q => absurd q (by decide))⟩
    have k151 := fun t_ ht_ => k30 t_ (o_iloadN X29 hx at_221 rfl (o_iload X29 hx at_222 rfl (o_iload X29 hx at_224 rfl (o_iload X29 hx at_226 rfl (o_iload X29 hx at_228 rfl (o_iload X29 hx at_230 rfl (o_iload X29 hx at_232 rfl (o_iload X29 hx at_234 rfl (o_iload X29 hx at_236 rfl ht_)))))))))
    obtain ⟨_, T152, Lc152, X152, hQ152, k152⟩ := o_callSM X29 hx hZ k151 yy1 hown (hw 5 rfl) (hw 6 rfl) (hw 3 rfl) (hw 7 rfl) (rm18 hw r0 r1 r2 r3 r4 r5 r6 r7 h0 n0 Z0) 0 [.int 6, .int r0, .int r1, .int r2, .int r3, .int r4, .int r5, .int r6, .int r7] [] (lenOf pd_22 rfl) hml eh7 at_238
    obtain ⟨ca, kca, rfl, Nq152, Kc, Vc, Gc⟩ := hQ152
    have N152 := Fr.app N29 Nq152
    replace k152 := own_pushR k152
    replace X00 := X00.keep Kc (by simp)
    have Zs152 := Nat.le_trans Z0 Kc.1
    rw [own_rc hc0, own_rc hc1, own_rc hc2, own_rc hc3, own_rc hc4, own_rc hc5, own_rc hc6, own_rc hc7] at Vc
    have k153 := fun t_ ht_ => k152 t_ (o_astore X152 hx at_241 #[Li p1, Li p2, Li p3, Li 6, Li u0, Li u1, Li u2, Li u3, Li u4, Li u5, Li r0, Li r1, Li r2, Li r3, Li r4, Li r5, Li r6, Li r7, Lr ca, Lu] rfl rfl ht_)
    obtain ⟨T154, h154, X154, e154, E154, A154, D154, k154⟩ := o_newO X152 hx hZ k153 hown (hw 9 rfl) (hw 10 rfl) (hw 11 rfl) rfl at_243
    obtain ⟨b154, g154⟩ : ∃ z, z = T152.heap.size := ⟨_, rfl⟩
    rw [← g154] at A154 D154 k154
    have ne_ca_b154 : ca ≠ b154 := Nat.ne_of_lt (Nat.lt_of_lt_of_le Vc.lt (Nat.le_of_eq g154.symm))
    have g_b154 : n0 ≤ b154 := Nat.le_trans Zs152 (Nat.le_of_eq g154.symm)
    replace X00 : Old Z n0 h154 := ⟨X00.1, Nat.le_trans X00.2.1 E154.1, fun x c r => E154.2 x c (X00.2.2 x c r)⟩
    replace Vc := Vc.ext E154
    have Zs154 := Nat.le_trans Zs152 E154.1
    have Ex_b154 := A154
    have F_coder_b154 : Fld Z h154 b154 "java/lang/String" "coder" "B" (.int 0) := D154 (Or.inr (hw 35 rfl)) (ty := .byte) (by decide)
    have F_value_b154 : Fld Z h154 b154 "java/lang/String" "value" "[B" (.null) := D154 (Or.inr (hw 37 rfl)) (ty := (.array .byte)) (by decide)
    have k155 := fun t_ ht_ => k154 t_ (o_dup X154 hx at_246 rfl (o_aload X154 hx at_247 rfl rfl ht_))
    obtain ⟨_, T156, Lc156, X156, hQ156, k156⟩ := o_special X154 hx hZ k155 yy28 rfl hown (hw 12 rfl) (hw 13 rfl) (hw 14 rfl) (own_backVE (W := 1) hZ hws (kI := 4) (hw 10 rfl) (cs := [r0, r1, r2, r3, r4, r5, r6, r7]) (n := 8) g_b154 Zs154 Ex_b154 F_value_b154 F_coder_b154 Vc (sC.ext X00.2) gC rfl rfl (by decide) (by decide) (own_lats hc0 (own_lats hc1 (own_lats hc2 (own_lats hc3 (own_lats hc4 (own_lats hc5 (own_lats hc6 (own_lats hc7 own_latn)))))))) (by decide) (by decide)) b154 [.ref ca] [.ref b154] (lenOf pd_23 rfl) hml e154 at_249
    obtain ⟨rfl, Nq156, Kq, Es, Fc, t_, kb, gt, Gt, ne_t, Fv, Va, Ea⟩ := hQ156
    have N156 := Fr.app N152 Nq156
    replace k156 := own_pushV k156
    replace X00 := X00.keep Kq (by simpa using g_b154)
    replace Vc := Vc.keep Kq (by simpa using ne_ca_b154)
    have Zs156 := Nat.le_trans Zs154 Kq.1
    replace Va : Arv Z _ t_ kb .byte (8 : Int32) [.int (r0.toInt8.toInt32), .int (r1.toInt8.toInt32), .int (r2.toInt8.toInt32), .int (r3.toInt8.toInt32), .int (r4.toInt8.toInt32), .int (r5.toInt8.toInt32), .int (r6.toInt8.toInt32), .int (r7.toInt8.toInt32)] (.int 0) := Va
    rw [own_rb hc0, own_rb hc1, own_rb hc2, own_rb hc3, own_rb hc4, own_rb hc5, own_rb hc6, own_rb hc7] at Va
    obtain ⟨_, T157, Lc157, X157, hQ157, k157⟩ := o_callSM X156 hx hZ k156 yy25 hown (hw 38 rfl) (hw 39 rfl) (hw 40 rfl) (hw 41 rfl) (rm101 hw b154 dco eno iso utf tbd tbe kd ke G1 fm t_ kb u0 u1 u2 u3 u4 u5 v0 v1 v2 v3 v4 v5 v6 v7 r0 r1 r2 r3 r4 r5 r6 r7 T156.heap n0 Zs156 hG X00 Es Fc Fv Va Ea hD) 0 [.ref b154] [] (lenOf pd_15 rfl) hml rfl at_252
    obtain ⟨ds, kd2, yo0, yo1, yo2, yo3, yo4, yo5, rfl, Nq157, Kd, Vd, Gd, sb0, sb1, sb2, sb3, sb4, sb5⟩ := hQ157
    have N157 := Fr.app N156 Nq157
    replace k157 := own_pushR k157
    replace X00 := X00.keep Kd (by simp)
    replace Vc := Vc.keep Kd (by simp)
    replace Es := Es.keep Kd
    replace Fc := Fc.keep Kd (by simp)
    replace Fv := Fv.keep Kd (by simp)
    replace Va := Va.keep Kd (by simp)
    replace Ea := Ea.keep Kd
    have Zs157 := Nat.le_trans Zs156 Kd.1
    have k158 := fun t_ ht_ => k157 t_ (o_astore X157 hx at_255 #[Li p1, Li p2, Li p3, Li 6, Li u0, Li u1, Li u2, Li u3, Li u4, Li u5, Li r0, Li r1, Li r2, Li r3, Li r4, Li r5, Li r6, Li r7, Lr ca, Lr ds] rfl rfl (o_aload X157 hx at_257 rfl rfl (o_ifnullNo X157 hx at_259 rfl (o_aload X157 hx at_262 rfl rfl (o_len X157 hx hZ at_264 rfl Vd (o_iloadN X157 hx at_265 rfl (o_icmpYes X157 hx at_266 (teq (by decide)).1 271 (o_aload X157 hx at_271 rfl rfl (o_iconst X157 hx at_273 0 rfl (o_iloadN X157 hx at_274 rfl (o_iload X157 hx at_275 rfl ht_)))))))))))
    obtain ⟨_, T159, Lc159, X159, hQ159, k159⟩ := o_callSM X157 hx hZ k158 yy29 hown (hw 170 rfl) (hw 171 rfl) (hw 3 rfl) (hw 172 rfl) (rm116 hw ds (0 : Int32) (6 : Int32) u0 kd2 (6 : Int32) [.int yo0, .int yo1, .int yo2, .int yo3, .int yo4, .int yo5] yo0 T157.heap n0 Zs157 Vd (by decide) ⟨by decide, by decide⟩ rfl (own_sb255 sb0)) 0 [.ref ds, .int 0, .int 6, .int u0] [] (lenOf pd_24 rfl) hml rfl at_277
    obtain ⟨rfl, Nq159, e159⟩ := hQ159
    have N159 := Fr.app N157 Nq159
    replace k159 := own_pushR k159
    have k160 := fun t_ ht_ => k159 t_ (o_ifNo X159 hx at_280 ((if0 _ _).trans (feq (by decide)).1) (o_aload X159 hx at_283 rfl rfl (o_iconst X159 hx at_285 1 rfl (o_iloadN X159 hx at_286 rfl (o_iload X159 hx at_287 rfl ht_)))))
    obtain ⟨_, T161, Lc161, X161, hQ161, k161⟩ := o_callSM X159 hx hZ k160 yy29 hown (hw 170 rfl) (hw 171 rfl) (hw 3 rfl) (hw 172 rfl) (rm116 hw ds (1 : Int32) (6 : Int32) u1 kd2 (6 : Int32) [.int yo0, .int yo1, .int yo2, .int yo3, .int yo4, .int yo5] yo1 T157.heap n0 Zs157 Vd (by decide) ⟨by decide, by decide⟩ rfl (own_sb255 sb1)) 0 [.ref ds, .int 1, .int 6, .int u1] [] (lenOf pd_24 rfl) hml e159 at_289
    obtain ⟨rfl, Nq161, e161⟩ := hQ161
    have N161 := Fr.app N159 Nq161
    replace k161 := own_pushR k161
    have k162 := fun t_ ht_ => k161 t_ (o_ifNo X161 hx at_292 ((if0 _ _).trans (feq (by decide)).1) (o_aload X161 hx at_295 rfl rfl (o_iconst X161 hx at_297 2 rfl (o_iloadN X161 hx at_298 rfl (o_iload X161 hx at_299 rfl ht_)))))
    obtain ⟨_, T163, Lc163, X163, hQ163, k163⟩ := o_callSM X161 hx hZ k162 yy29 hown (hw 170 rfl) (hw 171 rfl) (hw 3 rfl) (hw 172 rfl) (rm116 hw ds (2 : Int32) (6 : Int32) u2 kd2 (6 : Int32) [.int yo0, .int yo1, .int yo2, .int yo3, .int yo4, .int yo5] yo2 T157.heap n0 Zs157 Vd (by decide) ⟨by decide, by decide⟩ rfl (own_sb255 sb2)) 0 [.ref ds, .int 2, .int 6, .int u2] [] (lenOf pd_24 rfl) hml e161 at_301
    obtain ⟨rfl, Nq163, e163⟩ := hQ163
    have N163 := Fr.app N161 Nq163
    replace k163 := own_pushR k163
    have k164 := fun t_ ht_ => k163 t_ (o_ifNo X163 hx at_304 ((if0 _ _).trans (feq (by decide)).1) (o_aload X163 hx at_307 rfl rfl (o_iconst X163 hx at_309 3 rfl (o_iloadN X163 hx at_310 rfl (o_iload X163 hx at_311 rfl ht_)))))
    obtain ⟨_, T165, Lc165, X165, hQ165, k165⟩ := o_callSM X163 hx hZ k164 yy29 hown (hw 170 rfl) (hw 171 rfl) (hw 3 rfl) (hw 172 rfl) (rm116 hw ds (3 : Int32) (6 : Int32) u3 kd2 (6 : Int32) [.int yo0, .int yo1, .int yo2, .int yo3, .int yo4, .int yo5] yo3 T157.heap n0 Zs157 Vd (by decide) ⟨by decide, by decide⟩ rfl (own_sb255 sb3)) 0 [.ref ds, .int 3, .int 6, .int u3] [] (lenOf pd_24 rfl) hml e163 at_313
    obtain ⟨rfl, Nq165, e165⟩ := hQ165
    have N165 := Fr.app N163 Nq165
    replace k165 := own_pushR k165
    have k166 := fun t_ ht_ => k165 t_ (o_ifNo X165 hx at_316 ((if0 _ _).trans (feq (by decide)).1) (o_aload X165 hx at_319 rfl rfl (o_iconst X165 hx at_321 4 rfl (o_iloadN X165 hx at_322 rfl (o_iload X165 hx at_323 rfl ht_)))))
    obtain ⟨_, T167, Lc167, X167, hQ167, k167⟩ := o_callSM X165 hx hZ k166 yy29 hown (hw 170 rfl) (hw 171 rfl) (hw 3 rfl) (hw 172 rfl) (rm116 hw ds (4 : Int32) (6 : Int32) u4 kd2 (6 : Int32) [.int yo0, .int yo1, .int yo2, .int yo3, .int yo4, .int yo5] yo4 T157.heap n0 Zs157 Vd (by decide) ⟨by decide, by decide⟩ rfl (own_sb255 sb4)) 0 [.ref ds, .int 4, .int 6, .int u4] [] (lenOf pd_24 rfl) hml e165 at_325
    obtain ⟨rfl, Nq167, e167⟩ := hQ167
    have N167 := Fr.app N165 Nq167
    replace k167 := own_pushR k167
    have k168 := fun t_ ht_ => k167 t_ (o_ifNo X167 hx at_328 ((if0 _ _).trans (feq (by decide)).1) (o_aload X167 hx at_331 rfl rfl (o_iconst X167 hx at_333 5 rfl (o_iloadN X167 hx at_334 rfl (o_iload X167 hx at_335 rfl ht_)))))
    obtain ⟨_, T169, Lc169, X169, hQ169, k169⟩ := o_callSM X167 hx hZ k168 yy29 hown (hw 170 rfl) (hw 171 rfl) (hw 3 rfl) (hw 172 rfl) (rm116 hw ds (5 : Int32) (6 : Int32) u5 kd2 (6 : Int32) [.int yo0, .int yo1, .int yo2, .int yo3, .int yo4, .int yo5] yo5 T157.heap n0 Zs157 Vd (by decide) ⟨by decide, by decide⟩ rfl (own_sb255 sb5)) 0 [.ref ds, .int 5, .int 6, .int u5] [] (lenOf pd_24 rfl) hml e167 at_337
    obtain ⟨rfl, Nq169, e169⟩ := hQ169
    have N169 := Fr.app N167 Nq169
    replace k169 := own_pushR k169
    have k170 := fun t_ ht_ => k169 t_ (o_ifNo X169 hx at_340 ((if0 _ _).trans (feq (by decide)).1) (o_iconst X169 hx at_343 1 rfl (o_goto X169 hx at_344 348 ht_)))
    exact o_retNW (vm := s.vm) X169 hx k170 hlk hret (by simp) at_348 hS0 (Nat.zero_le _) (by rw [e169]; exact ⟨rfl, N169⟩)
theorem own_gne {args : Array Value} {s : State} {t : Jvm.Term} {k : Int32} (ev : t.eval args s none [] s = some (.int k)) (h : (Jvm.Cond.not (Jvm.Cond.eq t (Jvm.Term.int (0 : Int32)))).value args s none s [] = some true) : ¬ (k = (0 : Int32)) := fun q => by
  subst q
  simp [Jvm.Cond.value, Jvm.Term.eval, ev] at h
theorem own_feq {args : Array Value} {s : State} {t : Jvm.Term} {a : Addr} {C n d : String} {k : Int32} (ev : t.eval args s none [] s = some (.ref a)) (h : (Jvm.Cond.eq (Jvm.Term.field t C n d) (Jvm.Term.int k)).value args s none s [] = some true) : s.fieldOf? a C n d = some (.int k) := by
  cases hf : s.fieldOf? a C n d with
  | none => simp [Jvm.Cond.value, Jvm.Term.eval, ev, hf] at h
  | some v => cases v <;> simp [Jvm.Cond.value, Jvm.Term.eval, ev, hf] at h ⊢; exact h
theorem own_ieq {args : Array Value} {s : State} {t : Jvm.Term} {k : Int32} (h : (Jvm.Cond.eq t (Jvm.Term.int k)).value args s none s [] = some true) : t.eval args s none [] s = some (.int k) := by
  cases hf : t.eval args s none [] s with
  | none => simp [Jvm.Cond.value, hf] at h
  | some v => cases v <;> simp [Jvm.Cond.value, Jvm.Term.eval, hf] at h ⊢; exact h
theorem own_leq {args : Array Value} {s : State} {t : Jvm.Term} {x : Addr} {cl : Cell} {ty : FieldType} {k : Int32} (ev : t.eval args s none [] s = some (.ref x)) (A : Arr s s.heap x cl ty) (h : (Jvm.Cond.eq (Jvm.Term.length t) (Jvm.Term.int k)).value args s none s [] = some true) : cl.slots.size < 2 ^ 31 ∧ cl.slots.size.toInt32 = k := by
  have e := own_ieq h
  have ha : s.arrayAt? x = some cl := Arr.fin (Vm.Alike.refl _) A
  by_cases q : cl.slots.size < 2 ^ 31
  · rw [len_f ev ha q] at e
    exact ⟨q, by simpa using e⟩
  · simp [Jvm.Term.eval, ev, ha, q] at e
theorem own_hasL {c : Cell} : ∀ (L : List Int32) (k : Nat), (∀ i, i < L.length → c.slots[k + i]? = some (.int (L.getD i 0))) → HasL c k (L.map Value.int)
  | [], _, _ => trivial
  | v :: r, k, H => ⟨by simpa using H 0 (by simp), own_hasL r (k + 1) fun i hi => by
      have q := H (i + 1) (by simpa using hi)
      rw [show k + 1 + i = k + (i + 1) from by omega]
      simpa using q⟩
theorem own_tabAt {args : Array Value} {s : State} {t : Jvm.Term} {x : Addr} {cl : Cell} {T : List Int32} {off N : Nat} (hN : T.length = N) (ev : t.eval args s none [] s = some (.ref x)) (hc : s.heap[x]? = some cl) (hsets : ∀ d ∈ jdkStatics_1, d.before args s = true)
    (hT : ∀ i : Fin N, (Int32.ofNat i.val).toNatClampNeg = i.val ∧ jdkStatics_1[off + i.val]? = some (Jvm.Cond.eq (Jvm.Term.elem t (Jvm.Term.int (Int32.ofNat i.val))) (Jvm.Term.int (T.getD i.val 0)))) : HasL cl 0 (T.map Value.int) := by
  refine own_hasL T 0 fun i hi => ?_
  obtain ⟨h1, h2⟩ := hT ⟨i, hN ▸ hi⟩
  have e := own_ieq (Cond.before_iff.mp (hsets _ (List.mem_of_getElem? h2)))
  have q := (elem_in e ev (Term.int_eval _) hc).2
  rw [Nat.zero_add]
  rwa [h1] at q
set_option maxRecDepth 65536 in
theorem own_sD : ∀ i : Fin 256, (Int32.ofNat i.val).toNatClampNeg = i.val ∧ jdkStatics_1[20 + i.val]? = some (Jvm.Cond.eq (Jvm.Term.elem (Jvm.Term.static "java/util/Base64$Decoder" "fromBase64URL" "[I") (Jvm.Term.int (Int32.ofNat i.val))) (Jvm.Term.int (own_tD.getD i.val 0))) := by decide +kernel
set_option maxRecDepth 65536 in
theorem own_sE : ∀ i : Fin 64, (Int32.ofNat i.val).toNatClampNeg = i.val ∧ jdkStatics_1[281 + i.val]? = some (Jvm.Cond.eq (Jvm.Term.elem (Jvm.Term.static "java/util/Base64$Encoder" "toBase64URL" "[C") (Jvm.Term.int (Int32.ofNat i.val))) (Jvm.Term.int (own_tE.getD i.val 0))) := by decide +kernel
set_option maxRecDepth 65536 in
set_option maxHeartbeats 40000000 in
theorem comes_1 {Post : Tables → Env → Array Value → State → Outcome → State → Prop} (hpost : ∀ tb e args s v u, (limb_1_1.after args s (.returned v) u = true ∧ limb_1_2.after args s (.returned v) u = true ∧ True) → ReturnedEndW s (.returned v) u (Jvm.fieldLocs frame_1_writes args s ++ Jvm.arrayLocs frame_1_arrays args s ++ Jvm.staticLocs frame_1_statics s) 32 1216 → Post tb e args s (.returned v) u) :
    ArmFor flags0 classFile x code maxLocals ret World_1 tables_1 room_1 Calls_1 rest_1 Pre_1 Post := by
  intro l hfl _ _ p e ha hc hk s m args below hf hA hF happ hP
  obtain ⟨hcalls, hrest, hpre⟩ := hP
  obtain ⟨-, -, -, hnamed, -, -, -, hat⟩ := (Spec.applies_iff hf).mp happ
  obtain ⟨hg, hn⟩ := and_e (Cond.before_iff.mp (show (Jvm.Cond.and given_1 narrow_1).before args s = true from hpre))
  obtain ⟨gc, gr0⟩ := and_e hg
  obtain ⟨g0, gr1⟩ := and_e gr0
  obtain ⟨g1, gr2⟩ := and_e gr1
  have g2 := gr2
  obtain ⟨w0, w1, w2, rfl⟩ : ∃ w0 w1 w2 : Value, args = #[w0, w1, w2] := by
    have hs : args.size = 3 := by simpa [Cond.value, given_1] using gc
    obtain ⟨L⟩ := args
    match L, hs with
    | [w0, w1, w2], _ => exact ⟨w0, w1, w2, rfl⟩
  have hw := fun d (hd : d ∈ tables_1) => atoms_spec (ws := Jvm.Cond.code x code maxLocals ret :: tables_1) hat d (List.mem_cons_of_mem _ hd)
  have hfit : Fit s := fun {y c} hc i hi => by
    obtain ⟨ha, rfl⟩ := Array.getElem?_eq_some_iff.mp hc
    have q := List.all_eq_true.mp ((Array.all_eq_true_iff_forall_mem.mp hF) _ (Array.getElem_mem ha)) i (List.mem_range.mpr hi)
    simpa [Array.getElem?_eq_getElem hi] using q
  obtain ⟨hsets, hown0⟩ := atoms_of _ (rest_1_c_eq ▸ (show rest_1_c.before _ s = true from hrest))
  have hr0 := Cond.before_iff.mp hown0
  obtain ⟨i0, ei0⟩ := is_v g0
  obtain rfl : w0 = (.int i0) := Option.some.inj ei0
  obtain ⟨i1, ei1⟩ := is_v g1
  obtain rfl : w1 = (.int i1) := Option.some.inj ei1
  obtain ⟨i2, ei2⟩ := is_v g2
  obtain rfl : w2 = (.int i2) := Option.some.inj ei2
  obtain ⟨n1, hn⟩ := and_e hn
  obtain ⟨n2, hn⟩ := and_e hn
  obtain ⟨n3, hn⟩ := and_e hn
  obtain ⟨n4, hn⟩ := and_e hn
  obtain ⟨n5, hn⟩ := and_e hn
  obtain ⟨n6, n7⟩ := and_e hn
  have hwi := own_Wi hw
  obtain ⟨dco, evD⟩ := exa_v n1
  have eD := Exa.start evD n1
  have sD := Sta.start evD (Or.inr ⟨(hwi 40 rfl), (hwi 43 rfl)⟩)
  obtain ⟨eno, evE⟩ := exa_v n4
  have eE := Exa.start evE n4
  have sE := Sta.start evE (Or.inr ⟨(hwi 40 rfl), (hwi 106 rfl)⟩)
  have fDu := Fld.start (own_feq evD n2)
  have fDm := Fld.start (own_feq evD n3)
  have fEp := Fld.start (own_feq evE n5)
  have fEl := Fld.start (own_feq evE n6)
  have fEu := Fld.start (own_feq evE n7)
  obtain ⟨G1, evG⟩ := is_v (Cond.before_iff.mp (hsets _ (List.mem_of_getElem? (i := 1) rfl)))
  have sC := Sta.start evG (Or.inl (hsets _ (List.mem_of_getElem? (i := 0) rfl)))
  have gC : ¬ (G1 = (0 : Int32)) := own_gne evG (Cond.before_iff.mp (hsets _ (List.mem_of_getElem? (i := 2) rfl)))
  obtain ⟨fm, evS, fmr⟩ := isR_v (Cond.before_iff.mp (hsets _ (List.mem_of_getElem? (i := 8) rfl)))
  have sS := Sta.start evS (Or.inl (hsets _ (List.mem_of_getElem? (i := 7) rfl)))
  obtain ⟨iso, evI⟩ := exa_v (Cond.before_iff.mp (hsets _ (List.mem_of_getElem? (i := 11) rfl)))
  have sI := Sta.start evI (Or.inl (hsets _ (List.mem_of_getElem? (i := 10) rfl)))
  have exI := Exa.start evI (Cond.before_iff.mp (hsets _ (List.mem_of_getElem? (i := 11) rfl)))
  obtain ⟨utf, evU⟩ := exa_v (Cond.before_iff.mp (hsets _ (List.mem_of_getElem? (i := 14) rfl)))
  have sU := Sta.start evU (Or.inl (hsets _ (List.mem_of_getElem? (i := 13) rfl)))
  have exU := Exa.start evU (Cond.before_iff.mp (hsets _ (List.mem_of_getElem? (i := 14) rfl)))
  have iu : iso ≠ utf := exI.ne exU (by decide)
  obtain ⟨tbd, evTd⟩ := arr_v (Cond.before_iff.mp (hsets _ (List.mem_of_getElem? (i := 17) rfl)))
  obtain ⟨cd, Ad⟩ := Arr.start evTd (Cond.before_iff.mp (hsets _ (List.mem_of_getElem? (i := 17) rfl)))
  have sTd := Sta.start evTd (Or.inl (hsets _ (List.mem_of_getElem? (i := 16) rfl)))
  obtain ⟨q1d, q2d⟩ := own_leq evTd Ad (Cond.before_iff.mp (hsets _ (List.mem_of_getElem? (i := 19) rfl)))
  have aTd : Arv s s.heap tbd cd.cls _ 256 own_tabD (.int 0) := Arv.start hfit Ad q1d q2d (by decide) (by decide +kernel) (own_tabAt (off := 20) (N := 256) (by decide +kernel) evTd Ad.1 hsets own_sD)
  obtain ⟨tbe, evTe⟩ := arr_v (Cond.before_iff.mp (hsets _ (List.mem_of_getElem? (i := 278) rfl)))
  obtain ⟨ce, Ae⟩ := Arr.start evTe (Cond.before_iff.mp (hsets _ (List.mem_of_getElem? (i := 278) rfl)))
  have sTe := Sta.start evTe (Or.inl (hsets _ (List.mem_of_getElem? (i := 277) rfl)))
  obtain ⟨q1e, q2e⟩ := own_leq evTe Ae (Cond.before_iff.mp (hsets _ (List.mem_of_getElem? (i := 280) rfl)))
  have aTe : Arv s s.heap tbe ce.cls _ 64 own_tabE (.int 0) := Arv.start hfit Ae q1e q2e (by decide) (by decide +kernel) (own_tabAt (off := 281) (N := 64) (by decide +kernel) evTe Ae.1 hsets own_sE)
  have hG : own_G s dco eno iso utf tbd tbe cd.cls ce.cls G1 fm := ⟨sD, sE, eD, eE, fDu, fDm, fEp, fEl, fEu, sI, sU, iu, sTd, sTe, aTd, aTe, sC, gC, sS, fmr⟩
  have X00 : Old s s.heap.size s.heap := ⟨rfl, Nat.le_refl _, fun _ _ q => q⟩
  have hCH0 : CHv s own_EL s.vm s.heap := CHv.start (own_hEL hwi) (fun p hp => by cases List.mem_singleton.mp hp; exact hcalls.1 ("java/lang/String", 7) (by simp [consts_1])) (show Jvm.Lit.compactW.before _ s = true from (hsets _ (List.mem_of_getElem? (i := 2) rfl))) (hwi 27 rfl) (hwi 10 rfl)
  obtain ⟨n, o, h1, h2, h3, _, L, rfl, ⟨rfl, N⟩, hq⟩ := rm0 (l := l) hwi tables_1 i0 i1 i2 dco eno iso utf tbd tbe cd.cls ce.cls G1 fm s.heap s.heap.size (Nat.le_refl _) hG X00 p e ha hc hk s m _ below hf ((Spec.applies_iff_loose hf).mp happ).1 ⟨rfl, State.Warmed39.refl s, rfl, hCH0⟩ trivial
  refine ⟨n, _, h1, h2, h3, hpost _ _ _ _ _ _ ⟨Cond.after_iff.mpr rfl, Cond.after_iff.mpr (eq_i res_at (Term.int_eval (1)) rfl), trivial⟩ ⟨hq.1, hq.2.1, hq.2.2.1, (hq.2.2.2.sift fun y hy => Or.inr (N y hy)).mono (by decide) (by decide)⟩⟩
theorem main_1_1 : Claimed_1_1 := comes_1 fun _ _ _ _ _ _ h hF => ⟨h.1, hF⟩
theorem main_1_2 : Claimed_1_2 := comes_1 fun _ _ _ _ _ _ h hF => ⟨h.2.1, hF⟩

end Jvm.Pilot.@@N@@
namespace Jvm.Pilot.@@N@@
open Jvm Jvm.ClassFile Sem Op Lib Jvm.Free Jvm.Stand Jvm.Pilot.@@N@@.Jvm.D
/-! MADE BY PROGRAM (witnessworld.py) out of the Statement's table words and the real class files: 28 classes; the members and pool entries that the words name. The judged class is class 1, her method 1. -/
namespace start1
open Jvm.ClassFile
def u (s : String) : CpInfo := .utf8 (stringToUtf16 s)
/-- a pool by its gaps: so many unusable entries, then the entry; so many at the end -/
def gap : Nat → List CpInfo → List CpInfo
  | 0, r => r
  | n + 1, r => .unusable :: gap n r
def poolList (es : List (Nat × CpInfo)) (last : Nat) : List CpInfo := es.foldr (fun e r => gap e.1 (e.2 :: r)) (gap last [])
def pool (es : List (Nat × CpInfo)) (last : Nat) : Array CpInfo := ⟨poolList es last⟩
def fileOf (pool : Array CpInfo) (this : Nat) (attrs : Array Attribute := #[]) (ms : Array MethodInfo := #[]) (fl : Nat := 33) (sup : Nat := 0) (ifs : Array Nat := #[]) (fds : Array FieldInfo := #[]) : ClassFile where
  minorVersion := 0
  majorVersion := 65
  constantPool := pool
  accessFlags := fl
  thisClass := this
  superClass := sup
  interfaces := ifs
  fields := fds
  methods := ms
  attributes := attrs
def plain (name : String) (sup : Option ClassId) : Class where
  name := name
  kind := .ordinary
  loader := none
  accessFlags := 33
  super := sup
  interfaces := #[]
  cf := none
  fields := #[]
  methods := #[]
  instanceTypes := #[]
  staticTypes := #[]
  resolved := #[]
  callSites := []
  init := .initialized
  statics := none
  mirror := none

def pool0 : Array CpInfo := pool [(5, u "<init>"), (0, u "()V"), (1, .class_ 10), (1, u "java/lang/Object"), (85, u "clone"), (0, u "()Ljava/lang/Object;")] 26

def k0c0 : Code := { maxStack := 0, maxLocals := 1, code := object_method_1_code, exceptionTable := #[], attributes := #[] }
def k0m0 : Method := { name := "<init>", desc := "()V", sig := { parameters := [], returnType := none }, accessFlags := 1, code := some k0c0 }
def k0m1 : Method := { name := "clone", desc := "()Ljava/lang/Object;", sig := { parameters := [], returnType := some (.object "java/lang/Object") }, accessFlags := 260, code := none }
/-- java/lang/Object -/
def k0 : Class := { plain "java/lang/Object" none with
  accessFlags := 33
  interfaces := #[]
  cf := some (fileOf pool0 8 #[] #[{ accessFlags := 1, nameIndex := 5, descriptorIndex := 6, attributes := #[] }, { accessFlags := 260, nameIndex := 96, descriptorIndex := 97, attributes := #[] }] 33 0 #[] #[])
  fields := #[]
  methods := #[k0m0, k0m1]
  instanceTypes := #[]
  staticTypes := #[]
  resolved := Array.replicate 124 none
  statics := none }

def pool1 : Array CpInfo := pool [(2, .class_ 4), (1, u "java/lang/Object"), (0, u "<init>"), (0, u "()V"), (0, .integer 2147483647), (0, .methodref 9 10), (0, .class_ 11), (0, .nameAndType 12 13), (0, u "com/example/keyset/keyset/crypto/Base64UrlDecodePinLaw"), (0, u "ch"), (0, u "(I)C"), (0, .methodref 9 15), (0, .nameAndType 16 17), (0, u "chars"), (0, u "(ICCCCCCCC)[C"), (0, .class_ 19), (0, u "java/lang/String"), (0, .methodref 18 21), (0, .nameAndType 5 22), (0, u "([C)V"), (0, .methodref 24 25), (0, .class_ 26), (0, .nameAndType 27 28), (0, u "com/example/keyset/keyset/crypto/Base64Url"), (0, u "decode"), (0, u "(Ljava/lang/String;)[B"), (0, .methodref 9 30), (0, .nameAndType 31 32), (0, u "at"), (0, u "([BIII)Z"), (2, u "law"), (0, u "(III)Z")] 7

def k1m0 : Method := { name := "<init>", desc := "()V", sig := { parameters := [], returnType := none }, accessFlags := 1, code := none }
def k1c1 : Code := { maxStack := 9, maxLocals := 20, code := code, exceptionTable := #[], attributes := #[] }
def k1m1 : Method := { name := "law", desc := "(III)Z", sig := { parameters := [.int, .int, .int], returnType := some .boolean }, accessFlags := 9, code := some k1c1 }
def k1c2 : Code := { maxStack := 2, maxLocals := 4, code := method_3_code, exceptionTable := #[], attributes := #[] }
def k1m2 : Method := { name := "at", desc := "([BIII)Z", sig := { parameters := [(.array .byte), .int, .int, .int], returnType := some .boolean }, accessFlags := 10, code := some k1c2 }
def k1c3 : Code := { maxStack := 3, maxLocals := 1, code := method_4_code, exceptionTable := #[], attributes := #[] }
def k1m3 : Method := { name := "ch", desc := "(I)C", sig := { parameters := [.int], returnType := some .char }, accessFlags := 10, code := some k1c3 }
def k1c4 : Code := { maxStack := 4, maxLocals := 9, code := method_5_code, exceptionTable := #[], attributes := #[] }
def k1m4 : Method := { name := "chars", desc := "(ICCCCCCCC)[C", sig := { parameters := [.int, .char, .char, .char, .char, .char, .char, .char, .char], returnType := some (.array .char) }, accessFlags := 10, code := some k1c4 }
/-- com/example/keyset/keyset/crypto/Base64UrlDecodePinLaw -/
def k1 : Class := { plain "com/example/keyset/keyset/crypto/Base64UrlDecodePinLaw" (some 0) with
  accessFlags := 49
  interfaces := #[]
  cf := some (fileOf pool1 9 #[] #[{ accessFlags := 1, nameIndex := 5, descriptorIndex := 6, attributes := #[] }, { accessFlags := 9, nameIndex := 35, descriptorIndex := 36, attributes := #[] }, { accessFlags := 10, nameIndex := 31, descriptorIndex := 32, attributes := #[] }, { accessFlags := 10, nameIndex := 12, descriptorIndex := 13, attributes := #[] }, { accessFlags := 10, nameIndex := 16, descriptorIndex := 17, attributes := #[] }] 49 2 #[] #[])
  fields := #[]
  methods := #[k1m0, k1m1, k1m2, k1m3, k1m4]
  instanceTypes := #[]
  staticTypes := #[]
  resolved := Array.replicate 44 none
  statics := none }

def pool2 : Array CpInfo := pool [(1, .class_ 2), (0, u "java/io/Serializable"), (0, .class_ 4), (0, u "java/lang/Object")] 2

/-- java/io/Serializable -/
def k2 : Class := { plain "java/io/Serializable" (some 0) with
  accessFlags := 1537
  interfaces := #[]
  cf := some (fileOf pool2 1 #[] #[] 1537 3 #[] #[])
  fields := #[]
  methods := #[]
  instanceTypes := #[]
  staticTypes := #[]
  resolved := Array.replicate 7 none
  statics := none }

def pool3 : Array CpInfo := pool [(1, .class_ 2), (0, u "java/lang/Comparable"), (0, .class_ 4), (0, u "java/lang/Object")] 7

/-- java/lang/Comparable -/
def k3 : Class := { plain "java/lang/Comparable" (some 0) with
  accessFlags := 1537
  interfaces := #[]
  cf := some (fileOf pool3 1 #[] #[] 1537 3 #[] #[])
  fields := #[]
  methods := #[]
  instanceTypes := #[]
  staticTypes := #[]
  resolved := Array.replicate 12 none
  statics := none }

def pool4 : Array CpInfo := pool [(2, .class_ 4), (1, u "java/lang/CharSequence"), (42, .class_ 48), (0, u "java/lang/CharSequence$1CodePointIterator"), (10, .class_ 60), (0, u "java/lang/CharSequence$1CharIterator"), (5, .class_ 67), (0, u "java/lang/Object")] 63

/-- java/lang/CharSequence -/
def k4 : Class := { plain "java/lang/CharSequence" (some 0) with
  accessFlags := 1537
  interfaces := #[]
  cf := some (fileOf pool4 2 #[.nestMembers #[47, 59]] #[] 1537 66 #[] #[])
  fields := #[]
  methods := #[]
  instanceTypes := #[]
  staticTypes := #[]
  resolved := Array.replicate 131 none
  statics := none }

def pool5 : Array CpInfo := pool [(1, .class_ 2), (0, u "java/lang/constant/Constable"), (0, .class_ 4), (0, u "java/lang/Object")] 6

/-- java/lang/constant/Constable -/
def k5 : Class := { plain "java/lang/constant/Constable" (some 0) with
  accessFlags := 1537
  interfaces := #[]
  cf := some (fileOf pool5 1 #[] #[] 1537 3 #[] #[])
  fields := #[]
  methods := #[]
  instanceTypes := #[]
  staticTypes := #[]
  resolved := Array.replicate 11 none
  statics := none }

def pool6 : Array CpInfo := pool [(1, .class_ 2), (0, u "java/lang/constant/ConstantDesc"), (0, .class_ 4), (0, u "java/lang/Object")] 32

/-- java/lang/constant/ConstantDesc -/
def k6 : Class := { plain "java/lang/constant/ConstantDesc" (some 0) with
  accessFlags := 1537
  interfaces := #[]
  cf := some (fileOf pool6 1 #[] #[] 1537 3 #[] #[])
  fields := #[]
  methods := #[]
  instanceTypes := #[]
  staticTypes := #[]
  resolved := Array.replicate 37 none
  statics := none }

def pool7 : Array CpInfo := pool [(1, .methodref 2 3), (0, .class_ 4), (0, .nameAndType 5 6), (0, u "java/lang/Object"), (0, u "<init>"), (0, u "()V"), (0, .string 8), (0, u ""), (0, .fieldref 10 11), (0, .class_ 12), (0, .nameAndType 13 14), (0, u "java/lang/String"), (0, u "value"), (0, u "[B"), (0, .fieldref 10 16), (0, .nameAndType 17 18), (0, u "coder"), (0, u "B"), (2, u "hash"), (0, u "I"), (2, u "hashIsZero"), (0, u "Z"), (0, .methodref 10 28), (0, .nameAndType 5 29), (0, u "([CIILjava/lang/Void;)V"), (4, .methodref 10 35), (0, .nameAndType 36 37), (0, u "checkBoundsOffCount"), (0, u "(III)I"), (0, .fieldref 10 39), (0, .nameAndType 40 26), (0, u "COMPACT_STRINGS"), (1, .class_ 44), (1, u "java/lang/StringUTF16"), (0, u "compress"), (1, .methodref 42 48), (0, .nameAndType 49 50), (0, u "coderFromArrayLen"), (0, u "([BI)B"), (3, .methodref 55 56), (0, .class_ 57), (0, .nameAndType 58 59), (0, u "java/util/Arrays"), (0, u "copyOfRange"), (0, u "([BII)[B"), (10, u "([BIII)V"), (15, .fieldref 87 88), (0, .class_ 89), (0, .nameAndType 90 91), (0, u "sun/nio/cs/UTF_8"), (0, u "INSTANCE"), (0, u "Lsun/nio/cs/UTF_8;"), (15, .class_ 109), (1, u "java/lang/StringLatin1"), (6, .fieldref 117 118), (0, .class_ 119), (0, .nameAndType 90 120), (0, u "sun/nio/cs/ISO_8859_1"), (0, u "Lsun/nio/cs/ISO_8859_1;"), (56, .methodref 42 178), (0, .nameAndType 45 179), (0, u "([CII)[B"), (75, u "(B[BZ)[B"), (0, .methodref 10 257), (0, .nameAndType 258 259), (0, u "encode8859_1"), (0, u "(B[B)[B"), (19, .methodref 280 281), (0, .class_ 14), (0, .nameAndType 282 283), (0, u "clone"), (0, u "()Ljava/lang/Object;"), (33, u "encode"), (17, .methodref 10 336), (0, .nameAndType 17 337), (0, u "()B"), (13, .methodref 10 352), (0, .nameAndType 258 255), (179, u "getBytes"), (2, .methodref 10 536), (0, .nameAndType 317 537), (0, u "(Ljava/nio/charset/Charset;B[B)[B"), (3, .methodref 107 542), (0, .nameAndType 543 544), (0, u "equals"), (0, u "([B[B)Z"), (28, u "(Ljava/lang/Object;)Z"), (1, .class_ 576), (0, u "java/lang/CharSequence"), (22, u "CASE_INSENSITIVE_ORDER"), (0, u "Ljava/util/Comparator;"), (409, u "([C)V"), (42, .fieldref 1054 1055), (0, .class_ 1056), (0, .nameAndType 1057 1058), (0, u "jdk/internal/util/Preconditions"), (0, u "SIOOBE_FORMATTER"), (0, u "Ljava/util/function/BiFunction;"), (5, u "(IIILjava/util/function/BiFunction;)I"), (0, .methodref 1054 1066), (0, .nameAndType 1067 1064), (0, u "checkFromIndexSize"), (33, u "serialPersistentFields"), (0, u "[Ljava/io/ObjectStreamField;"), (0, .class_ 1104), (0, u "java/lang/String$CaseInsensitiveComparator"), (1, .class_ 1107), (0, u "java/io/Serializable"), (0, .class_ 1109), (0, u "java/lang/Comparable"), (0, .class_ 1111), (0, u "java/lang/constant/Constable"), (0, .class_ 1113), (0, u "java/lang/constant/ConstantDesc"), (2, u "serialVersionUID"), (0, u "J"), (3, u "REPL"), (0, u "C"), (2, u "LATIN1"), (1, u "UTF16"), (117, u "(Ljava/nio/charset/Charset;)[B")] 205

def k7m0 : Method := { name := "<init>", desc := "()V", sig := { parameters := [], returnType := none }, accessFlags := 1, code := none }
def k7c1 : Code := { maxStack := 5, maxLocals := 2, code := jdk_42_method_3_code, exceptionTable := #[], attributes := #[] }
def k7m1 : Method := { name := "<init>", desc := "([C)V", sig := { parameters := [(.array .char)], returnType := none }, accessFlags := 1, code := some k7c1 }
def k7c2 : Code := { maxStack := 5, maxLocals := 7, code := jdk_42_method_7_code, exceptionTable := #[], attributes := #[] }
def k7m2 : Method := { name := "<init>", desc := "([BIII)V", sig := { parameters := [(.array .byte), .int, .int, .int], returnType := none }, accessFlags := 1, code := some k7c2 }
def k7c3 : Code := { maxStack := 4, maxLocals := 3, code := jdk_42_method_18_code, exceptionTable := #[], attributes := #[] }
def k7m3 : Method := { name := "encode", desc := "(Ljava/nio/charset/Charset;B[B)[B", sig := { parameters := [(.object "java/nio/charset/Charset"), .byte, (.array .byte)], returnType := some (.array .byte) }, accessFlags := 10, code := some k7c3 }
def k7c4 : Code := { maxStack := 3, maxLocals := 2, code := jdk_42_method_26_code, exceptionTable := #[], attributes := #[] }
def k7m4 : Method := { name := "encode8859_1", desc := "(B[B)[B", sig := { parameters := [.byte, (.array .byte)], returnType := some (.array .byte) }, accessFlags := 10, code := some k7c4 }
def k7c5 : Code := { maxStack := 5, maxLocals := 10, code := jdk_42_method_27_code, exceptionTable := #[], attributes := #[] }
def k7m5 : Method := { name := "encode8859_1", desc := "(B[BZ)[B", sig := { parameters := [.byte, (.array .byte), .boolean], returnType := some (.array .byte) }, accessFlags := 10, code := some k7c5 }
def k7c6 : Code := { maxStack := 3, maxLocals := 2, code := jdk_42_method_64_code, exceptionTable := #[], attributes := #[] }
def k7m6 : Method := { name := "getBytes", desc := "(Ljava/nio/charset/Charset;)[B", sig := { parameters := [(.object "java/nio/charset/Charset")], returnType := some (.array .byte) }, accessFlags := 1, code := some k7c6 }
def k7c7 : Code := { maxStack := 2, maxLocals := 3, code := jdk_42_method_66_code, exceptionTable := #[], attributes := #[] }
def k7m7 : Method := { name := "equals", desc := "(Ljava/lang/Object;)Z", sig := { parameters := [(.object "java/lang/Object")], returnType := some .boolean }, accessFlags := 1, code := some k7c7 }
def k7c8 : Code := { maxStack := 4, maxLocals := 6, code := jdk_42_method_149_code, exceptionTable := #[], attributes := #[] }
def k7m8 : Method := { name := "<init>", desc := "([CIILjava/lang/Void;)V", sig := { parameters := [(.array .char), .int, .int, (.object "java/lang/Void")], returnType := none }, accessFlags := 2, code := some k7c8 }
def k7c9 : Code := { maxStack := 1, maxLocals := 1, code := jdk_42_method_152_code, exceptionTable := #[], attributes := #[] }
def k7m9 : Method := { name := "coder", desc := "()B", sig := { parameters := [], returnType := some .byte }, accessFlags := 0, code := some k7c9 }
def k7c10 : Code := { maxStack := 4, maxLocals := 3, code := jdk_42_method_157_code, exceptionTable := #[], attributes := #[] }
def k7m10 : Method := { name := "checkBoundsOffCount", desc := "(III)I", sig := { parameters := [.int, .int, .int], returnType := some .int }, accessFlags := 8, code := some k7c10 }
/-- java/lang/String -/
def k7 : Class := { plain "java/lang/String" (some 0) with
  accessFlags := 49
  interfaces := #[2, 3, 4, 5, 6]
  cf := some (fileOf pool7 10 #[.nestMembers #[1103]] #[{ accessFlags := 1, nameIndex := 5, descriptorIndex := 6, attributes := #[] }, { accessFlags := 1, nameIndex := 5, descriptorIndex := 1010, attributes := #[] }, { accessFlags := 1, nameIndex := 5, descriptorIndex := 70, attributes := #[] }, { accessFlags := 10, nameIndex := 317, descriptorIndex := 537, attributes := #[] }, { accessFlags := 10, nameIndex := 258, descriptorIndex := 259, attributes := #[] }, { accessFlags := 10, nameIndex := 258, descriptorIndex := 255, attributes := #[] }, { accessFlags := 1, nameIndex := 532, descriptorIndex := 1245, attributes := #[] }, { accessFlags := 1, nameIndex := 543, descriptorIndex := 573, attributes := #[] }, { accessFlags := 2, nameIndex := 5, descriptorIndex := 29, attributes := #[] }, { accessFlags := 0, nameIndex := 17, descriptorIndex := 337, attributes := #[] }, { accessFlags := 8, nameIndex := 36, descriptorIndex := 37, attributes := #[] }] 49 2 #[1106, 1108, 575, 1110, 1112] #[{ accessFlags := 18, nameIndex := 13, descriptorIndex := 14, attributes := #[] }, { accessFlags := 18, nameIndex := 17, descriptorIndex := 18, attributes := #[] }, { accessFlags := 2, nameIndex := 21, descriptorIndex := 22, attributes := #[] }, { accessFlags := 2, nameIndex := 25, descriptorIndex := 26, attributes := #[] }, { accessFlags := 26, nameIndex := 1116, descriptorIndex := 1117, attributes := #[] }, { accessFlags := 24, nameIndex := 40, descriptorIndex := 26, attributes := #[] }, { accessFlags := 26, nameIndex := 1101, descriptorIndex := 1102, attributes := #[] }, { accessFlags := 26, nameIndex := 1121, descriptorIndex := 1122, attributes := #[] }, { accessFlags := 25, nameIndex := 599, descriptorIndex := 600, attributes := #[] }, { accessFlags := 24, nameIndex := 1125, descriptorIndex := 18, attributes := #[] }, { accessFlags := 24, nameIndex := 1127, descriptorIndex := 18, attributes := #[] }])
  fields := #[{ name := "value", type := (.array .byte), accessFlags := 18, slot := 0, constantValue := 0 }, { name := "coder", type := .byte, accessFlags := 18, slot := 1, constantValue := 0 }, { name := "hash", type := .int, accessFlags := 2, slot := 2, constantValue := 0 }, { name := "hashIsZero", type := .boolean, accessFlags := 2, slot := 3, constantValue := 0 }, { name := "serialVersionUID", type := .long, accessFlags := 26, slot := 0, constantValue := 0 }, { name := "COMPACT_STRINGS", type := .boolean, accessFlags := 24, slot := 1, constantValue := 0 }, { name := "serialPersistentFields", type := (.array (.object "java/io/ObjectStreamField")), accessFlags := 26, slot := 2, constantValue := 0 }, { name := "REPL", type := .char, accessFlags := 26, slot := 3, constantValue := 0 }, { name := "CASE_INSENSITIVE_ORDER", type := (.object "java/util/Comparator"), accessFlags := 25, slot := 4, constantValue := 0 }, { name := "LATIN1", type := .byte, accessFlags := 24, slot := 5, constantValue := 0 }, { name := "UTF16", type := .byte, accessFlags := 24, slot := 6, constantValue := 0 }]
  methods := #[k7m0, k7m1, k7m2, k7m3, k7m4, k7m5, k7m6, k7m7, k7m8, k7m9, k7m10]
  instanceTypes := #[(.array .byte), .byte, .int, .boolean]
  staticTypes := #[.long, .boolean, (.array (.object "java/io/ObjectStreamField")), .char, (.object "java/util/Comparator"), .byte, .byte]
  resolved := Array.replicate 1451 none
  statics := some 0 }

def pool8 : Array CpInfo := pool [(6, .class_ 8), (1, u "java/lang/Object"), (0, u "<init>"), (0, u "()V"), (1, .class_ 14), (1, u "java/lang/StringUTF16"), (31, u "$assertionsDisabled"), (0, u "Z"), (13, u "HI_BYTE_SHIFT"), (0, u "I"), (2, u "LO_BYTE_SHIFT"), (49, .methodref 12 116), (0, .nameAndType 117 118), (0, u "compress"), (0, u "([CI[BII)I"), (3, u "([CII)[B"), (138, u "coderFromArrayLen"), (0, u "([BI)B"), (106, .class_ 371), (1, u "java/lang/StringUTF16$LinesSpliterator"), (58, u "MAX_LENGTH"), (196, .class_ 628), (0, u "java/lang/StringUTF16$CodePointsSpliterator"), (0, .class_ 630), (0, u "java/lang/StringUTF16$CharsSpliterator")] 4

def k8m0 : Method := { name := "<init>", desc := "()V", sig := { parameters := [], returnType := none }, accessFlags := 0, code := none }
def k8c1 : Code := { maxStack := 2, maxLocals := 2, code := jdk_52_method_15_code, exceptionTable := #[], attributes := #[] }
def k8m1 : Method := { name := "coderFromArrayLen", desc := "([BI)B", sig := { parameters := [(.array .byte), .int], returnType := some .byte }, accessFlags := 8, code := some k8c1 }
def k8c2 : Code := { maxStack := 5, maxLocals := 6, code := jdk_52_method_16_code, exceptionTable := #[], attributes := #[] }
def k8m2 : Method := { name := "compress", desc := "([CII)[B", sig := { parameters := [(.array .char), .int, .int], returnType := some (.array .byte) }, accessFlags := 9, code := some k8c2 }
def k8c3 : Code := { maxStack := 3, maxLocals := 7, code := jdk_52_method_21_code, exceptionTable := #[], attributes := #[] }
def k8m3 : Method := { name := "compress", desc := "([CI[BII)I", sig := { parameters := [(.array .char), .int, (.array .byte), .int, .int], returnType := some .int }, accessFlags := 9, code := some k8c3 }
/-- java/lang/StringUTF16 -/
def k8 : Class := { plain "java/lang/StringUTF16" (some 0) with
  accessFlags := 48
  interfaces := #[]
  cf := some (fileOf pool8 12 #[.nestMembers #[627, 629, 369]] #[{ accessFlags := 0, nameIndex := 9, descriptorIndex := 10, attributes := #[] }, { accessFlags := 8, nameIndex := 261, descriptorIndex := 262, attributes := #[] }, { accessFlags := 9, nameIndex := 117, descriptorIndex := 122, attributes := #[] }, { accessFlags := 9, nameIndex := 117, descriptorIndex := 118, attributes := #[] }] 48 6 #[] #[{ accessFlags := 26, nameIndex := 61, descriptorIndex := 62, attributes := #[] }, { accessFlags := 26, nameIndex := 65, descriptorIndex := 62, attributes := #[] }, { accessFlags := 24, nameIndex := 430, descriptorIndex := 62, attributes := #[] }, { accessFlags := 4120, nameIndex := 46, descriptorIndex := 47, attributes := #[] }])
  fields := #[{ name := "HI_BYTE_SHIFT", type := .int, accessFlags := 26, slot := 0, constantValue := 0 }, { name := "LO_BYTE_SHIFT", type := .int, accessFlags := 26, slot := 1, constantValue := 0 }, { name := "MAX_LENGTH", type := .int, accessFlags := 24, slot := 2, constantValue := 0 }, { name := "$assertionsDisabled", type := .boolean, accessFlags := 4120, slot := 3, constantValue := 0 }]
  methods := #[k8m0, k8m1, k8m2, k8m3]
  instanceTypes := #[]
  staticTypes := #[.int, .int, .int, .boolean]
  resolved := Array.replicate 635 none
  statics := none }

def pool9 : Array CpInfo := pool [(2, .class_ 4), (1, u "java/lang/Object"), (0, u "<init>"), (0, u "()V"), (0, .fieldref 8 9), (0, .class_ 10), (0, .nameAndType 11 12), (0, u "com/example/keyset/keyset/crypto/Base64Url"), (0, u "ENCODER"), (0, u "Ljava/util/Base64$Encoder;"), (0, .methodref 14 15), (0, .class_ 16), (0, .nameAndType 17 18), (0, u "java/util/Base64$Encoder"), (0, u "encodeToString"), (0, u "([B)Ljava/lang/String;"), (0, .fieldref 8 20), (0, .nameAndType 21 22), (0, u "DECODER"), (0, u "Ljava/util/Base64$Decoder;"), (0, .methodref 24 25), (0, .class_ 26), (0, .nameAndType 27 28), (0, u "java/util/Base64$Decoder"), (0, u "decode"), (0, u "(Ljava/lang/String;)[B"), (0, .methodref 30 31), (0, .class_ 32), (0, .nameAndType 33 34), (0, u "java/lang/String"), (0, u "equals"), (0, u "(Ljava/lang/Object;)Z")] 32

def k9m0 : Method := { name := "<init>", desc := "()V", sig := { parameters := [], returnType := none }, accessFlags := 2, code := none }
def k9c1 : Code := { maxStack := 3, maxLocals := 2, code := prog_2_method_3_code, exceptionTable := #[], attributes := #[] }
def k9m1 : Method := { name := "decode", desc := "(Ljava/lang/String;)[B", sig := { parameters := [(.object "java/lang/String")], returnType := some (.array .byte) }, accessFlags := 9, code := some k9c1 }
/-- com/example/keyset/keyset/crypto/Base64Url -/
def k9 : Class := { plain "com/example/keyset/keyset/crypto/Base64Url" (some 0) with
  accessFlags := 33
  interfaces := #[]
  cf := some (fileOf pool9 8 #[] #[{ accessFlags := 2, nameIndex := 5, descriptorIndex := 6, attributes := #[] }, { accessFlags := 9, nameIndex := 27, descriptorIndex := 28, attributes := #[] }] 33 2 #[] #[{ accessFlags := 26, nameIndex := 11, descriptorIndex := 12, attributes := #[] }, { accessFlags := 26, nameIndex := 21, descriptorIndex := 22, attributes := #[] }])
  fields := #[{ name := "ENCODER", type := (.object "java/util/Base64$Encoder"), accessFlags := 26, slot := 0, constantValue := 0 }, { name := "DECODER", type := (.object "java/util/Base64$Decoder"), accessFlags := 26, slot := 1, constantValue := 0 }]
  methods := #[k9m0, k9m1]
  instanceTypes := #[]
  staticTypes := #[(.object "java/util/Base64$Encoder"), (.object "java/util/Base64$Decoder")]
  resolved := Array.replicate 67 none
  statics := some 1 }

def pool10 : Array CpInfo := pool [(2, .class_ 4), (1, u "java/lang/Object"), (2, .fieldref 8 9), (0, .class_ 10), (0, .nameAndType 11 12), (0, u "java/util/Base64$Decoder"), (0, u "isURL"), (0, u "Z"), (0, .fieldref 8 14), (0, .nameAndType 15 12), (0, u "isMIME"), (0, .methodref 8 17), (0, .nameAndType 18 19), (0, u "decodedOutLength"), (0, u "([BII)I"), (0, .methodref 8 21), (0, .nameAndType 22 23), (0, u "decode0"), (0, u "([BII[B)I"), (6, .fieldref 31 32), (0, .class_ 33), (0, .nameAndType 34 35), (0, u "sun/nio/cs/ISO_8859_1"), (0, u "INSTANCE"), (0, u "Lsun/nio/cs/ISO_8859_1;"), (0, .methodref 37 38), (0, .class_ 39), (0, .nameAndType 40 41), (0, u "java/lang/String"), (0, u "getBytes"), (0, u "(Ljava/nio/charset/Charset;)[B"), (0, .methodref 8 43), (0, .nameAndType 44 45), (0, u "decode"), (0, u "([B)[B"), (49, .fieldref 8 96), (0, .nameAndType 97 98), (0, u "fromBase64URL"), (0, u "[I"), (2, u "fromBase64"), (5, .long 3), (1, .long 4), (1, .methodref 8 112), (0, .nameAndType 113 114), (0, u "decodeBlock"), (0, u "([BII[BIZZ)I"), (45, u "RFC4648"), (0, u "Ljava/util/Base64$Decoder;"), (2, u "RFC4648_URLSAFE"), (2, u "RFC2045"), (11, u "(Ljava/lang/String;)[B"), (40, .class_ 221), (0, u "java/util/Base64")] 4

def k10c0 : Code := { maxStack := 5, maxLocals := 4, code := jdk_2450_method_2_code, exceptionTable := #[], attributes := #[] }
def k10m0 : Method := { name := "decode", desc := "([B)[B", sig := { parameters := [(.array .byte)], returnType := some (.array .byte) }, accessFlags := 1, code := some k10c0 }
def k10c1 : Code := { maxStack := 3, maxLocals := 2, code := jdk_2450_method_3_code, exceptionTable := #[], attributes := #[] }
def k10m1 : Method := { name := "decode", desc := "(Ljava/lang/String;)[B", sig := { parameters := [(.object "java/lang/String")], returnType := some (.array .byte) }, accessFlags := 1, code := some k10c1 }
def k10c2 : Code := { maxStack := 5, maxLocals := 9, code := jdk_2450_method_7_code, exceptionTable := #[], attributes := #[] }
def k10m2 : Method := { name := "decodedOutLength", desc := "([BII)I", sig := { parameters := [(.array .byte), .int, .int], returnType := some .int }, accessFlags := 2, code := some k10c2 }
def k10c3 : Code := { maxStack := 4, maxLocals := 16, code := jdk_2450_method_8_code, exceptionTable := #[], attributes := #[] }
def k10m3 : Method := { name := "decodeBlock", desc := "([BII[BIZZ)I", sig := { parameters := [(.array .byte), .int, .int, (.array .byte), .int, .boolean, .boolean], returnType := some .int }, accessFlags := 2, code := some k10c3 }
def k10c4 : Code := { maxStack := 8, maxLocals := 11, code := jdk_2450_method_9_code, exceptionTable := #[], attributes := #[] }
def k10m4 : Method := { name := "decode0", desc := "([BII[B)I", sig := { parameters := [(.array .byte), .int, .int, (.array .byte)], returnType := some .int }, accessFlags := 2, code := some k10c4 }
/-- java/util/Base64$Decoder -/
def k10 : Class := { plain "java/util/Base64$Decoder" (some 0) with
  accessFlags := 33
  interfaces := #[]
  cf := some (fileOf pool10 8 #[.nestHost 220] #[{ accessFlags := 1, nameIndex := 44, descriptorIndex := 45, attributes := #[] }, { accessFlags := 1, nameIndex := 44, descriptorIndex := 179, attributes := #[] }, { accessFlags := 2, nameIndex := 18, descriptorIndex := 19, attributes := #[] }, { accessFlags := 2, nameIndex := 113, descriptorIndex := 114, attributes := #[] }, { accessFlags := 2, nameIndex := 22, descriptorIndex := 23, attributes := #[] }] 33 2 #[] #[{ accessFlags := 18, nameIndex := 11, descriptorIndex := 12, attributes := #[] }, { accessFlags := 18, nameIndex := 15, descriptorIndex := 12, attributes := #[] }, { accessFlags := 26, nameIndex := 101, descriptorIndex := 98, attributes := #[] }, { accessFlags := 26, nameIndex := 97, descriptorIndex := 98, attributes := #[] }, { accessFlags := 24, nameIndex := 160, descriptorIndex := 161, attributes := #[] }, { accessFlags := 24, nameIndex := 164, descriptorIndex := 161, attributes := #[] }, { accessFlags := 24, nameIndex := 167, descriptorIndex := 161, attributes := #[] }])
  fields := #[{ name := "isURL", type := .boolean, accessFlags := 18, slot := 0, constantValue := 0 }, { name := "isMIME", type := .boolean, accessFlags := 18, slot := 1, constantValue := 0 }, { name := "fromBase64", type := (.array .int), accessFlags := 26, slot := 0, constantValue := 0 }, { name := "fromBase64URL", type := (.array .int), accessFlags := 26, slot := 1, constantValue := 0 }, { name := "RFC4648", type := (.object "java/util/Base64$Decoder"), accessFlags := 24, slot := 2, constantValue := 0 }, { name := "RFC4648_URLSAFE", type := (.object "java/util/Base64$Decoder"), accessFlags := 24, slot := 3, constantValue := 0 }, { name := "RFC2045", type := (.object "java/util/Base64$Decoder"), accessFlags := 24, slot := 4, constantValue := 0 }]
  methods := #[k10m0, k10m1, k10m2, k10m3, k10m4]
  instanceTypes := #[.boolean, .boolean]
  staticTypes := #[(.array .int), (.array .int), (.object "java/util/Base64$Decoder"), (.object "java/util/Base64$Decoder"), (.object "java/util/Base64$Decoder")]
  resolved := Array.replicate 226 none
  statics := some 2 }

def pool11 : Array CpInfo := pool [(18, .class_ 20), (1, u "java/nio/charset/Charset"), (0, u "cache1"), (0, u "[Ljava/lang/Object;"), (2, u "cache2"), (0, .class_ 27), (0, u "java/lang/Object"), (0, .class_ 29), (0, u "java/nio/charset/Charset$1"), (4, .class_ 36), (1, u "java/nio/charset/Charset$ThreadTrackHolder"), (21, .class_ 59), (0, u "java/nio/charset/Charset$2"), (11, .class_ 73), (1, u "java/nio/charset/Charset$ExtendedProviderHolder"), (22, u "standardProvider"), (0, u "Ljava/nio/charset/spi/CharsetProvider;"), (29, u "name"), (7, .class_ 136), (0, u "java/nio/charset/Charset$3"), (5, u "defaultCharset"), (0, u "Ljava/nio/charset/Charset;"), (14, u "zeroAliases"), (0, u "[Ljava/lang/String;"), (29, u "Ljava/lang/String;"), (2, u "aliases"), (2, u "aliasSet"), (0, u "Ljava/util/Set;"), (82, .class_ 280), (0, u "java/lang/Comparable"), (84, .class_ 366), (0, u "java/nio/charset/Charset$ExtendedProviderHolder$1")] 3

/-- java/nio/charset/Charset -/
def k11 : Class := { plain "java/nio/charset/Charset" (some 0) with
  accessFlags := 1057
  interfaces := #[3]
  cf := some (fileOf pool11 18 #[.nestMembers #[71, 365, 34, 135, 58, 28]] #[] 1057 26 #[279] #[{ accessFlags := 26, nameIndex := 96, descriptorIndex := 97, attributes := #[] }, { accessFlags := 26, nameIndex := 158, descriptorIndex := 159, attributes := #[] }, { accessFlags := 74, nameIndex := 21, descriptorIndex := 22, attributes := #[] }, { accessFlags := 74, nameIndex := 25, descriptorIndex := 22, attributes := #[] }, { accessFlags := 10, nameIndex := 142, descriptorIndex := 143, attributes := #[] }, { accessFlags := 18, nameIndex := 127, descriptorIndex := 189, attributes := #[] }, { accessFlags := 18, nameIndex := 192, descriptorIndex := 159, attributes := #[] }, { accessFlags := 2, nameIndex := 195, descriptorIndex := 196, attributes := #[] }])
  fields := #[{ name := "standardProvider", type := (.object "java/nio/charset/spi/CharsetProvider"), accessFlags := 26, slot := 0, constantValue := 0 }, { name := "zeroAliases", type := (.array (.object "java/lang/String")), accessFlags := 26, slot := 1, constantValue := 0 }, { name := "cache1", type := (.array (.object "java/lang/Object")), accessFlags := 74, slot := 2, constantValue := 0 }, { name := "cache2", type := (.array (.object "java/lang/Object")), accessFlags := 74, slot := 3, constantValue := 0 }, { name := "defaultCharset", type := (.object "java/nio/charset/Charset"), accessFlags := 10, slot := 4, constantValue := 0 }, { name := "name", type := (.object "java/lang/String"), accessFlags := 18, slot := 0, constantValue := 0 }, { name := "aliases", type := (.array (.object "java/lang/String")), accessFlags := 18, slot := 1, constantValue := 0 }, { name := "aliasSet", type := (.object "java/util/Set"), accessFlags := 2, slot := 2, constantValue := 0 }]
  methods := #[]
  instanceTypes := #[(.object "java/lang/String"), (.array (.object "java/lang/String")), (.object "java/util/Set")]
  staticTypes := #[(.object "java/nio/charset/spi/CharsetProvider"), (.array (.object "java/lang/String")), (.array (.object "java/lang/Object")), (.array (.object "java/lang/Object")), (.object "java/nio/charset/Charset")]
  resolved := Array.replicate 370 none
  statics := none }

def pool12 : Array CpInfo := pool [(1, .class_ 2), (0, u "sun/nio/cs/HistoricallyNamedCharset"), (0, .class_ 4), (0, u "java/lang/Object")] 4

/-- sun/nio/cs/HistoricallyNamedCharset -/
def k12 : Class := { plain "sun/nio/cs/HistoricallyNamedCharset" (some 0) with
  accessFlags := 1537
  interfaces := #[]
  cf := some (fileOf pool12 1 #[] #[] 1537 3 #[] #[])
  fields := #[]
  methods := #[]
  instanceTypes := #[]
  staticTypes := #[]
  resolved := Array.replicate 9 none
  statics := none }

def pool13 : Array CpInfo := pool [(10, .class_ 12), (1, u "java/nio/charset/Charset"), (0, u "<init>"), (5, .class_ 20), (0, u "sun/nio/cs/ISO_8859_1"), (0, .class_ 22), (0, u "sun/nio/cs/ISO_8859_1$Decoder"), (3, .class_ 27), (0, u "sun/nio/cs/ISO_8859_1$Encoder"), (3, u "()V"), (2, u "INSTANCE"), (0, u "Lsun/nio/cs/ISO_8859_1;"), (0, .class_ 37), (0, u "sun/nio/cs/HistoricallyNamedCharset")] 22

def k13m0 : Method := { name := "<init>", desc := "()V", sig := { parameters := [], returnType := none }, accessFlags := 1, code := none }
/-- sun/nio/cs/ISO_8859_1 -/
def k13 : Class := { plain "sun/nio/cs/ISO_8859_1" (some 11) with
  accessFlags := 33
  interfaces := #[12]
  cf := some (fileOf pool13 19 #[.nestMembers #[26, 21]] #[{ accessFlags := 1, nameIndex := 13, descriptorIndex := 31, attributes := #[] }] 33 10 #[36] #[{ accessFlags := 25, nameIndex := 34, descriptorIndex := 35, attributes := #[] }])
  fields := #[{ name := "INSTANCE", type := (.object "sun/nio/cs/ISO_8859_1"), accessFlags := 25, slot := 0, constantValue := 0 }]
  methods := #[k13m0]
  instanceTypes := #[(.object "java/lang/String"), (.array (.object "java/lang/String")), (.object "java/util/Set")]
  staticTypes := #[(.object "sun/nio/cs/ISO_8859_1")]
  resolved := Array.replicate 60 none
  statics := some 3 }

def pool14 : Array CpInfo := pool [(2, .class_ 4), (1, u "java/nio/charset/Charset"), (130, .class_ 136), (0, u "sun/nio/cs/Unicode"), (0, .class_ 138), (0, u "sun/nio/cs/HistoricallyNamedCharset")] 15

/-- sun/nio/cs/Unicode -/
def k14 : Class := { plain "sun/nio/cs/Unicode" (some 11) with
  accessFlags := 1056
  interfaces := #[12]
  cf := some (fileOf pool14 135 #[] #[] 1056 2 #[137] #[])
  fields := #[]
  methods := #[]
  instanceTypes := #[(.object "java/lang/String"), (.array (.object "java/lang/String")), (.object "java/util/Set")]
  staticTypes := #[]
  resolved := Array.replicate 154 none
  statics := none }

def pool15 : Array CpInfo := pool [(10, .class_ 12), (1, u "sun/nio/cs/Unicode"), (0, u "<init>"), (3, .class_ 18), (0, u "sun/nio/cs/UTF_8$Decoder"), (3, .class_ 23), (0, u "sun/nio/cs/UTF_8$Encoder"), (15, .class_ 40), (0, u "sun/nio/cs/UTF_8"), (2, u "()V"), (2, u "INSTANCE"), (0, u "Lsun/nio/cs/UTF_8;"), (8, u "JLA"), (0, u "Ljdk/internal/access/JavaLangAccess;")] 26

def k15m0 : Method := { name := "<init>", desc := "()V", sig := { parameters := [], returnType := none }, accessFlags := 1, code := none }
/-- sun/nio/cs/UTF_8 -/
def k15 : Class := { plain "sun/nio/cs/UTF_8" (some 14) with
  accessFlags := 49
  interfaces := #[]
  cf := some (fileOf pool15 39 #[.nestMembers #[22, 17]] #[{ accessFlags := 1, nameIndex := 13, descriptorIndex := 43, attributes := #[] }] 49 10 #[] #[{ accessFlags := 25, nameIndex := 46, descriptorIndex := 47, attributes := #[] }, { accessFlags := 26, nameIndex := 56, descriptorIndex := 57, attributes := #[] }])
  fields := #[{ name := "INSTANCE", type := (.object "sun/nio/cs/UTF_8"), accessFlags := 25, slot := 0, constantValue := 0 }, { name := "JLA", type := (.object "jdk/internal/access/JavaLangAccess"), accessFlags := 26, slot := 1, constantValue := 0 }]
  methods := #[k15m0]
  instanceTypes := #[(.object "java/lang/String"), (.array (.object "java/lang/String")), (.object "java/util/Set")]
  staticTypes := #[(.object "sun/nio/cs/UTF_8"), (.object "jdk/internal/access/JavaLangAccess")]
  resolved := Array.replicate 84 none
  statics := some 4 }

def pool16 : Array CpInfo := pool [(1, .class_ 2), (0, u "java/lang/Cloneable"), (0, .class_ 4), (0, u "java/lang/Object")] 2

/-- java/lang/Cloneable -/
def k16 : Class := { plain "java/lang/Cloneable" (some 0) with
  accessFlags := 1537
  interfaces := #[]
  cf := some (fileOf pool16 1 #[] #[] 1537 3 #[] #[])
  fields := #[]
  methods := #[]
  instanceTypes := #[]
  staticTypes := #[]
  resolved := Array.replicate 7 none
  statics := none }

def pool17 : Array CpInfo := pool [(2, .class_ 4), (1, u "java/lang/Object"), (0, u "<init>"), (1, .fieldref 8 9), (0, .class_ 10), (0, .nameAndType 11 12), (0, u "java/util/Base64$Encoder"), (0, u "isURL"), (0, u "Z"), (2, u "newline"), (0, u "[B"), (0, .fieldref 8 18), (0, .nameAndType 19 20), (0, u "linemax"), (0, u "I"), (0, .fieldref 8 22), (0, .nameAndType 23 12), (0, u "doPadding"), (0, .methodref 25 26), (0, .class_ 27), (0, .nameAndType 28 29), (0, u "java/lang/Math"), (0, u "addExact"), (0, u "(II)I"), (0, .methodref 25 31), (0, .nameAndType 32 29), (0, u "multiplyExact"), (9, .methodref 8 43), (0, .nameAndType 44 45), (0, u "encodedOutLength"), (0, u "(IZ)I"), (0, .methodref 8 47), (0, .nameAndType 48 49), (0, u "encode0"), (0, u "([BII[B)I"), (11, .methodref 8 62), (0, .nameAndType 63 64), (0, u "encode"), (0, u "([B)[B"), (0, .class_ 66), (0, u "java/lang/String"), (0, .methodref 65 68), (0, .nameAndType 5 69), (0, u "([BIII)V"), (41, .fieldref 8 112), (0, .nameAndType 113 114), (0, u "toBase64URL"), (0, u "[C"), (2, u "toBase64"), (6, .methodref 25 125), (0, .nameAndType 126 29), (0, u "min"), (0, .methodref 8 128), (0, .nameAndType 129 130), (0, u "encodeBlock"), (0, u "([BII[BIZ)V"), (2, u "CRLF"), (2, u "RFC4648"), (0, u "Ljava/util/Base64$Encoder;"), (2, u "RFC4648_URLSAFE"), (2, u "RFC2045"), (0, u "MIMELINEMAX"), (18, u "encodeToString"), (0, u "([B)Ljava/lang/String;"), (34, .class_ 200), (0, u "java/util/Base64")] 3

def k17c0 : Code := { maxStack := 3, maxLocals := 5, code := jdk_2452_method_2_code, exceptionTable := #[{ startPc := 2, endPc := 79, handlerPc := 82, catchType := 33 }], attributes := #[] }
def k17m0 : Method := { name := "encodedOutLength", desc := "(IZ)I", sig := { parameters := [.int, .boolean], returnType := some .int }, accessFlags := 18, code := some k17c0 }
def k17c1 : Code := { maxStack := 5, maxLocals := 5, code := jdk_2452_method_3_code, exceptionTable := #[], attributes := #[] }
def k17m1 : Method := { name := "encode", desc := "([B)[B", sig := { parameters := [(.array .byte)], returnType := some (.array .byte) }, accessFlags := 1, code := some k17c1 }
def k17c2 : Code := { maxStack := 6, maxLocals := 3, code := jdk_2452_method_5_code, exceptionTable := #[], attributes := #[] }
def k17m2 : Method := { name := "encodeToString", desc := "([B)Ljava/lang/String;", sig := { parameters := [(.array .byte)], returnType := some (.object "java/lang/String") }, accessFlags := 1, code := some k17c2 }
def k17c3 : Code := { maxStack := 5, maxLocals := 11, code := jdk_2452_method_9_code, exceptionTable := #[], attributes := #[] }
def k17m3 : Method := { name := "encodeBlock", desc := "([BII[BIZ)V", sig := { parameters := [(.array .byte), .int, .int, (.array .byte), .int, .boolean], returnType := none }, accessFlags := 2, code := some k17c3 }
def k17c4 : Code := { maxStack := 7, maxLocals := 16, code := jdk_2452_method_10_code, exceptionTable := #[], attributes := #[] }
def k17m4 : Method := { name := "encode0", desc := "([BII[B)I", sig := { parameters := [(.array .byte), .int, .int, (.array .byte)], returnType := some .int }, accessFlags := 2, code := some k17c4 }
/-- java/util/Base64$Encoder -/
def k17 : Class := { plain "java/util/Base64$Encoder" (some 0) with
  accessFlags := 33
  interfaces := #[]
  cf := some (fileOf pool17 8 #[.nestHost 199] #[{ accessFlags := 18, nameIndex := 44, descriptorIndex := 45, attributes := #[] }, { accessFlags := 1, nameIndex := 63, descriptorIndex := 64, attributes := #[] }, { accessFlags := 1, nameIndex := 163, descriptorIndex := 164, attributes := #[] }, { accessFlags := 2, nameIndex := 129, descriptorIndex := 130, attributes := #[] }, { accessFlags := 2, nameIndex := 48, descriptorIndex := 49, attributes := #[] }] 33 2 #[] #[{ accessFlags := 18, nameIndex := 15, descriptorIndex := 16, attributes := #[] }, { accessFlags := 18, nameIndex := 19, descriptorIndex := 20, attributes := #[] }, { accessFlags := 18, nameIndex := 11, descriptorIndex := 12, attributes := #[] }, { accessFlags := 18, nameIndex := 23, descriptorIndex := 12, attributes := #[] }, { accessFlags := 26, nameIndex := 117, descriptorIndex := 114, attributes := #[] }, { accessFlags := 26, nameIndex := 113, descriptorIndex := 114, attributes := #[] }, { accessFlags := 26, nameIndex := 144, descriptorIndex := 20, attributes := #[] }, { accessFlags := 26, nameIndex := 133, descriptorIndex := 16, attributes := #[] }, { accessFlags := 24, nameIndex := 136, descriptorIndex := 137, attributes := #[] }, { accessFlags := 24, nameIndex := 140, descriptorIndex := 137, attributes := #[] }, { accessFlags := 24, nameIndex := 143, descriptorIndex := 137, attributes := #[] }])
  fields := #[{ name := "newline", type := (.array .byte), accessFlags := 18, slot := 0, constantValue := 0 }, { name := "linemax", type := .int, accessFlags := 18, slot := 1, constantValue := 0 }, { name := "isURL", type := .boolean, accessFlags := 18, slot := 2, constantValue := 0 }, { name := "doPadding", type := .boolean, accessFlags := 18, slot := 3, constantValue := 0 }, { name := "toBase64", type := (.array .char), accessFlags := 26, slot := 0, constantValue := 0 }, { name := "toBase64URL", type := (.array .char), accessFlags := 26, slot := 1, constantValue := 0 }, { name := "MIMELINEMAX", type := .int, accessFlags := 26, slot := 2, constantValue := 0 }, { name := "CRLF", type := (.array .byte), accessFlags := 26, slot := 3, constantValue := 0 }, { name := "RFC4648", type := (.object "java/util/Base64$Encoder"), accessFlags := 24, slot := 4, constantValue := 0 }, { name := "RFC4648_URLSAFE", type := (.object "java/util/Base64$Encoder"), accessFlags := 24, slot := 5, constantValue := 0 }, { name := "RFC2045", type := (.object "java/util/Base64$Encoder"), accessFlags := 24, slot := 6, constantValue := 0 }]
  methods := #[k17m0, k17m1, k17m2, k17m3, k17m4]
  instanceTypes := #[(.array .byte), .int, .boolean, .boolean]
  staticTypes := #[(.array .char), (.array .char), .int, (.array .byte), (.object "java/util/Base64$Encoder"), (.object "java/util/Base64$Encoder"), (.object "java/util/Base64$Encoder")]
  resolved := Array.replicate 204 none
  statics := some 5 }

def pool18 : Array CpInfo := pool [(1, .class_ 2), (0, u "java/lang/Math"), (1, .class_ 6), (1, u "java/lang/Object"), (0, u "<init>"), (0, u "()V"), (89, .class_ 100), (1, u "java/lang/Math$RandomNumberGeneratorHolder"), (19, u "multiplyExact"), (51, u "negativeZeroFloatBits"), (0, u "J"), (2, u "negativeZeroDoubleBits"), (24, u "min"), (43, u "$assertionsDisabled"), (0, u "Z"), (88, u "(II)I"), (2, u "twoToTheDoubleScaleDown"), (0, u "D"), (4, u "twoToTheDoubleScaleUp"), (9, u "E"), (3, u "PI"), (2, u "TAU"), (2, u "DEGREES_TO_RADIANS"), (0, u "RADIANS_TO_DEGREES"), (27, u "addExact")] 66

def k18m0 : Method := { name := "<init>", desc := "()V", sig := { parameters := [], returnType := none }, accessFlags := 2, code := none }
def k18c1 : Code := { maxStack := 3, maxLocals := 3, code := jdk_29_method_24_code, exceptionTable := #[], attributes := #[] }
def k18m1 : Method := { name := "addExact", desc := "(II)I", sig := { parameters := [.int, .int], returnType := some .int }, accessFlags := 9, code := some k18c1 }
def k18c2 : Code := { maxStack := 4, maxLocals := 4, code := jdk_29_method_28_code, exceptionTable := #[], attributes := #[] }
def k18m2 : Method := { name := "multiplyExact", desc := "(II)I", sig := { parameters := [.int, .int], returnType := some .int }, accessFlags := 9, code := some k18c2 }
def k18c3 : Code := { maxStack := 2, maxLocals := 2, code := jdk_29_method_69_code, exceptionTable := #[], attributes := #[] }
def k18m3 : Method := { name := "min", desc := "(II)I", sig := { parameters := [.int, .int], returnType := some .int }, accessFlags := 9, code := some k18c3 }
/-- java/lang/Math -/
def k18 : Class := { plain "java/lang/Math" (some 0) with
  accessFlags := 49
  interfaces := #[]
  cf := some (fileOf pool18 1 #[.nestMembers #[98]] #[{ accessFlags := 2, nameIndex := 7, descriptorIndex := 8, attributes := #[] }, { accessFlags := 9, nameIndex := 393, descriptorIndex := 335, attributes := #[] }, { accessFlags := 9, nameIndex := 120, descriptorIndex := 335, attributes := #[] }, { accessFlags := 9, nameIndex := 201, descriptorIndex := 335, attributes := #[] }] 49 4 #[] #[{ accessFlags := 25, nameIndex := 354, descriptorIndex := 339, attributes := #[] }, { accessFlags := 25, nameIndex := 358, descriptorIndex := 339, attributes := #[] }, { accessFlags := 25, nameIndex := 361, descriptorIndex := 339, attributes := #[] }, { accessFlags := 26, nameIndex := 364, descriptorIndex := 339, attributes := #[] }, { accessFlags := 26, nameIndex := 365, descriptorIndex := 339, attributes := #[] }, { accessFlags := 26, nameIndex := 172, descriptorIndex := 173, attributes := #[] }, { accessFlags := 26, nameIndex := 176, descriptorIndex := 173, attributes := #[] }, { accessFlags := 8, nameIndex := 344, descriptorIndex := 339, attributes := #[] }, { accessFlags := 8, nameIndex := 338, descriptorIndex := 339, attributes := #[] }, { accessFlags := 4120, nameIndex := 245, descriptorIndex := 246, attributes := #[] }])
  fields := #[{ name := "E", type := .double, accessFlags := 25, slot := 0, constantValue := 0 }, { name := "PI", type := .double, accessFlags := 25, slot := 1, constantValue := 0 }, { name := "TAU", type := .double, accessFlags := 25, slot := 2, constantValue := 0 }, { name := "DEGREES_TO_RADIANS", type := .double, accessFlags := 26, slot := 3, constantValue := 0 }, { name := "RADIANS_TO_DEGREES", type := .double, accessFlags := 26, slot := 4, constantValue := 0 }, { name := "negativeZeroFloatBits", type := .long, accessFlags := 26, slot := 5, constantValue := 0 }, { name := "negativeZeroDoubleBits", type := .long, accessFlags := 26, slot := 6, constantValue := 0 }, { name := "twoToTheDoubleScaleUp", type := .double, accessFlags := 8, slot := 7, constantValue := 0 }, { name := "twoToTheDoubleScaleDown", type := .double, accessFlags := 8, slot := 8, constantValue := 0 }, { name := "$assertionsDisabled", type := .boolean, accessFlags := 4120, slot := 9, constantValue := 0 }]
  methods := #[k18m0, k18m1, k18m2, k18m3]
  instanceTypes := #[]
  staticTypes := #[.double, .double, .double, .double, .double, .long, .long, .double, .double, .boolean]
  resolved := Array.replicate 460 none
  statics := none }

def pool19 : Array CpInfo := pool [(2, .class_ 4), (1, u "java/lang/Object"), (0, u "<init>"), (0, u "()V"), (17, .class_ 26), (1, u "jdk/internal/util/Preconditions"), (22, u "checkFromIndexSize"), (5, .class_ 56), (0, u "jdk/internal/util/Preconditions$4"), (57, .class_ 115), (0, u "jdk/internal/util/Preconditions$1"), (7, u "SIOOBE_FORMATTER"), (0, u "Ljava/util/function/BiFunction;"), (0, .class_ 126), (0, u "jdk/internal/util/Preconditions$2"), (3, u "AIOOBE_FORMATTER"), (0, .class_ 132), (0, u "jdk/internal/util/Preconditions$3"), (3, u "IOOBE_FORMATTER"), (46, u "(IIILjava/util/function/BiFunction;)I")] 10

def k19m0 : Method := { name := "<init>", desc := "()V", sig := { parameters := [], returnType := none }, accessFlags := 1, code := none }
def k19c1 : Code := { maxStack := 4, maxLocals := 4, code := jdk_41_method_13_code, exceptionTable := #[], attributes := #[] }
def k19m1 : Method := { name := "checkFromIndexSize", desc := "(IIILjava/util/function/BiFunction;)I", sig := { parameters := [.int, .int, .int, (.object "java/util/function/BiFunction")], returnType := some .int }, accessFlags := 9, code := some k19c1 }
/-- jdk/internal/util/Preconditions -/
def k19 : Class := { plain "jdk/internal/util/Preconditions" (some 0) with
  accessFlags := 33
  interfaces := #[]
  cf := some (fileOf pool19 24 #[.nestMembers #[55, 131, 125, 114]] #[{ accessFlags := 1, nameIndex := 5, descriptorIndex := 6, attributes := #[] }, { accessFlags := 9, nameIndex := 49, descriptorIndex := 183, attributes := #[] }] 33 2 #[] #[{ accessFlags := 25, nameIndex := 123, descriptorIndex := 124, attributes := #[] }, { accessFlags := 25, nameIndex := 130, descriptorIndex := 124, attributes := #[] }, { accessFlags := 25, nameIndex := 136, descriptorIndex := 124, attributes := #[] }])
  fields := #[{ name := "SIOOBE_FORMATTER", type := (.object "java/util/function/BiFunction"), accessFlags := 25, slot := 0, constantValue := 0 }, { name := "AIOOBE_FORMATTER", type := (.object "java/util/function/BiFunction"), accessFlags := 25, slot := 1, constantValue := 0 }, { name := "IOOBE_FORMATTER", type := (.object "java/util/function/BiFunction"), accessFlags := 25, slot := 2, constantValue := 0 }]
  methods := #[k19m0, k19m1]
  instanceTypes := #[]
  staticTypes := #[(.object "java/util/function/BiFunction"), (.object "java/util/function/BiFunction"), (.object "java/util/function/BiFunction")]
  resolved := Array.replicate 194 none
  statics := some 6 }

def pool20 : Array CpInfo := pool [(2, .class_ 4), (1, u "java/lang/Object"), (0, u "<init>"), (0, u "()V"), (7, .class_ 16), (1, u "java/util/Arrays"), (57, .class_ 76), (1, u "java/util/Arrays$NaturalOrder"), (32, u "()Ljava/lang/Object;"), (3, .class_ 115), (1, u "java/util/Arrays$LegacyMergeSort"), (1, u "Z"), (10, .nameAndType 129 109), (0, u "clone"), (9, u "copyOfRange"), (170, .methodref 311 128), (0, .class_ 312), (0, u "[B"), (29, u "([BII)[B"), (32, .class_ 376), (0, u "java/util/Arrays$ArrayList"), (68, u "$assertionsDisabled"), (269, u "MIN_ARRAY_SORT_GRAN"), (0, u "I"), (2, u "INSERTIONSORT_THRESHOLD"), (255, .class_ 976), (0, u "java/util/Arrays$ArrayItr")] 52

def k20m0 : Method := { name := "<init>", desc := "()V", sig := { parameters := [], returnType := none }, accessFlags := 2, code := none }
def k20c1 : Code := { maxStack := 3, maxLocals := 3, code := jdk_65_method_132_code, exceptionTable := #[], attributes := #[] }
def k20m1 : Method := { name := "copyOfRange", desc := "([BII)[B", sig := { parameters := [(.array .byte), .int, .int], returnType := some (.array .byte) }, accessFlags := 9, code := some k20c1 }
/-- java/util/Arrays -/
def k20 : Class := { plain "java/util/Arrays" (some 0) with
  accessFlags := 49
  interfaces := #[]
  cf := some (fileOf pool20 14 #[.nestMembers #[975, 375, 113, 74]] #[{ accessFlags := 2, nameIndex := 5, descriptorIndex := 6, attributes := #[] }, { accessFlags := 9, nameIndex := 139, descriptorIndex := 342, attributes := #[] }] 49 2 #[] #[{ accessFlags := 26, nameIndex := 715, descriptorIndex := 716, attributes := #[] }, { accessFlags := 26, nameIndex := 719, descriptorIndex := 716, attributes := #[] }, { accessFlags := 4120, nameIndex := 445, descriptorIndex := 117, attributes := #[] }])
  fields := #[{ name := "MIN_ARRAY_SORT_GRAN", type := .int, accessFlags := 26, slot := 0, constantValue := 0 }, { name := "INSERTIONSORT_THRESHOLD", type := .int, accessFlags := 26, slot := 1, constantValue := 0 }, { name := "$assertionsDisabled", type := .boolean, accessFlags := 4120, slot := 2, constantValue := 0 }]
  methods := #[k20m0, k20m1]
  instanceTypes := #[]
  staticTypes := #[.int, .int, .boolean]
  resolved := Array.replicate 1029 none
  statics := none }

def pool21 : Array CpInfo := pool [(4, .class_ 6), (1, u "java/lang/Object"), (0, u "<init>"), (0, u "()V"), (5, .class_ 16), (1, u "java/lang/StringLatin1"), (104, u "$assertionsDisabled"), (0, u "Z"), (98, .class_ 223), (1, u "java/lang/StringLatin1$LinesSpliterator"), (57, u "equals"), (0, u "([B[B)Z"), (107, .class_ 391), (0, u "java/lang/StringLatin1$CharsSpliterator")] 3

def k21m0 : Method := { name := "<init>", desc := "()V", sig := { parameters := [], returnType := none }, accessFlags := 0, code := none }
def k21c1 : Code := { maxStack := 3, maxLocals := 3, code := jdk_43_method_13_code, exceptionTable := #[], attributes := #[] }
def k21m1 : Method := { name := "equals", desc := "([B[B)Z", sig := { parameters := [(.array .byte), (.array .byte)], returnType := some .boolean }, accessFlags := 9, code := some k21c1 }
/-- java/lang/StringLatin1 -/
def k21 : Class := { plain "java/lang/StringLatin1" (some 0) with
  accessFlags := 48
  interfaces := #[]
  cf := some (fileOf pool21 14 #[.nestMembers #[390, 221]] #[{ accessFlags := 0, nameIndex := 7, descriptorIndex := 8, attributes := #[] }, { accessFlags := 9, nameIndex := 281, descriptorIndex := 282, attributes := #[] }] 48 4 #[] #[{ accessFlags := 4120, nameIndex := 121, descriptorIndex := 122, attributes := #[] }])
  fields := #[{ name := "$assertionsDisabled", type := .boolean, accessFlags := 4120, slot := 0, constantValue := 0 }]
  methods := #[k21m0, k21m1]
  instanceTypes := #[]
  staticTypes := #[.boolean]
  resolved := Array.replicate 395 none
  statics := none }

/-- the primitive byte -/
def k22 : Class := { plain "byte" none with kind := .primitive 'B', accessFlags := 0x411 }
/-- [B -/
def k23 : Class := { plain "[B" (some 0) with kind := .array 22 .byte, interfaces := #[16, 2], accessFlags := 1041 }

/-- the primitive char -/
def k24 : Class := { plain "char" none with kind := .primitive 'C', accessFlags := 0x411 }
/-- [C -/
def k25 : Class := { plain "[C" (some 0) with kind := .array 24 .char, interfaces := #[16, 2], accessFlags := 1041 }

/-- the primitive int -/
def k26 : Class := { plain "int" none with kind := .primitive 'I', accessFlags := 0x411 }
/-- [I -/
def k27 : Class := { plain "[I" (some 0) with kind := .array 26 .int, interfaces := #[16, 2], accessFlags := 1041 }

def heap : Heap := #[{ cls := 7, slots := #[.long 0, .int 1, .null, .int 0, .null, .int 0, .int 0], vm := .statics 7 },
  { cls := 9, slots := #[.ref 8, .ref 7], vm := .statics 9 },
  { cls := 10, slots := #[.null, .ref 11, .null, .null, .null], vm := .statics 10 },
  { cls := 13, slots := #[.ref 9], vm := .statics 13 },
  { cls := 15, slots := #[.ref 10, .null], vm := .statics 15 },
  { cls := 17, slots := #[.null, .ref 12, .int 0, .null, .null, .null, .null], vm := .statics 17 },
  { cls := 19, slots := #[.null, .null, .null], vm := .statics 19 },
  { cls := 10, slots := #[.int 1, .int 0], vm := .none },
  { cls := 17, slots := #[.null, .int (-1), .int 1, .int 0], vm := .none },
  { cls := 13, slots := #[.null, .null, .null], vm := .none },
  { cls := 15, slots := #[.null, .null, .null], vm := .none },
  { cls := 27, slots := #[.int (-1), .int (-1), .int (-1), .int (-1), .int (-1), .int (-1), .int (-1), .int (-1), .int (-1), .int (-1), .int (-1), .int (-1), .int (-1), .int (-1), .int (-1), .int (-1), .int (-1), .int (-1), .int (-1), .int (-1), .int (-1), .int (-1), .int (-1), .int (-1), .int (-1), .int (-1), .int (-1), .int (-1), .int (-1), .int (-1), .int (-1), .int (-1), .int (-1), .int (-1), .int (-1), .int (-1), .int (-1), .int (-1), .int (-1), .int (-1), .int (-1), .int (-1), .int (-1), .int (-1), .int (-1), .int 62, .int (-1), .int (-1), .int 52, .int 53, .int 54, .int 55, .int 56, .int 57, .int 58, .int 59, .int 60, .int 61, .int (-1), .int (-1), .int (-1), .int (-2), .int (-1), .int (-1), .int (-1), .int 0, .int 1, .int 2, .int 3, .int 4, .int 5, .int 6, .int 7, .int 8, .int 9, .int 10, .int 11, .int 12, .int 13, .int 14, .int 15, .int 16, .int 17, .int 18, .int 19, .int 20, .int 21, .int 22, .int 23, .int 24, .int 25, .int (-1), .int (-1), .int (-1), .int (-1), .int 63, .int (-1), .int 26, .int 27, .int 28, .int 29, .int 30, .int 31, .int 32, .int 33, .int 34, .int 35, .int 36, .int 37, .int 38, .int 39, .int 40, .int 41, .int 42, .int 43, .int 44, .int 45, .int 46, .int 47, .int 48, .int 49, .int 50, .int 51, .int (-1), .int (-1), .int (-1), .int (-1), .int (-1), .int (-1), .int (-1), .int (-1), .int (-1), .int (-1), .int (-1), .int (-1), .int (-1), .int (-1), .int (-1), .int (-1), .int (-1), .int (-1), .int (-1), .int (-1), .int (-1), .int (-1), .int (-1), .int (-1), .int (-1), .int (-1), .int (-1), .int (-1), .int (-1), .int (-1), .int (-1), .int (-1), .int (-1), .int (-1), .int (-1), .int (-1), .int (-1), .int (-1), .int (-1), .int (-1), .int (-1), .int (-1), .int (-1), .int (-1), .int (-1), .int (-1), .int (-1), .int (-1), .int (-1), .int (-1), .int (-1), .int (-1), .int (-1), .int (-1), .int (-1), .int (-1), .int (-1), .int (-1), .int (-1), .int (-1), .int (-1), .int (-1), .int (-1), .int (-1), .int (-1), .int (-1), .int (-1), .int (-1), .int (-1), .int (-1), .int (-1), .int (-1), .int (-1), .int (-1), .int (-1), .int (-1), .int (-1), .int (-1), .int (-1), .int (-1), .int (-1), .int (-1), .int (-1), .int (-1), .int (-1), .int (-1), .int (-1), .int (-1), .int (-1), .int (-1), .int (-1), .int (-1), .int (-1), .int (-1), .int (-1), .int (-1), .int (-1), .int (-1), .int (-1), .int (-1), .int (-1), .int (-1), .int (-1), .int (-1), .int (-1), .int (-1), .int (-1), .int (-1), .int (-1), .int (-1), .int (-1), .int (-1), .int (-1), .int (-1), .int (-1), .int (-1), .int (-1), .int (-1), .int (-1), .int (-1), .int (-1), .int (-1), .int (-1), .int (-1), .int (-1), .int (-1), .int (-1), .int (-1), .int (-1), .int (-1), .int (-1), .int (-1), .int (-1)], vm := .none },
  { cls := 25, slots := #[.int 65, .int 66, .int 67, .int 68, .int 69, .int 70, .int 71, .int 72, .int 73, .int 74, .int 75, .int 76, .int 77, .int 78, .int 79, .int 80, .int 81, .int 82, .int 83, .int 84, .int 85, .int 86, .int 87, .int 88, .int 89, .int 90, .int 97, .int 98, .int 99, .int 100, .int 101, .int 102, .int 103, .int 104, .int 105, .int 106, .int 107, .int 108, .int 109, .int 110, .int 111, .int 112, .int 113, .int 114, .int 115, .int 116, .int 117, .int 118, .int 119, .int 120, .int 121, .int 122, .int 48, .int 49, .int 50, .int 51, .int 52, .int 53, .int 54, .int 55, .int 56, .int 57, .int 45, .int 95], vm := .none }]
def classes : Array Class := #[k0, k1, k2, k3, k4, k5, k6, k7, k8, k9, k10, k11, k12, k13, k14, k15, k16, k17, k18, k19, k20, k21, k22, k23, k24, k25, k26, k27, plain "jdk/internal/util/ArraysSupport" (some 0)]
def interned : List (Array UInt16 × Addr) := []
def slotsUsed : Nat := 359
def theMethod : MethodId := ⟨1, 1⟩
def args0 : Array Value := #[.int 1, .int 2, .int 3]
def aboutOver (below : List Frame) : State where
  vm := { classes := classes, interned := interned.toArray }
  heap := heap
  slotsUsed := slotsUsed
  threads := #[{ frames := .invoking theMethod args0 :: below }]
def below0 : List Frame := [.native { method := ⟨0, 0⟩, args := #[] }]
def about1 : State := aboutOver below0
def p0 : Program := .bare "" "" ""
def e0 : Env := launch0.env 0 0 0
theorem w_frames : about1.frames = Frame.invoking theMethod args0 :: below0 := rfl
set_option maxRecDepth 65536 in
theorem w_args : argsFit about1.vm theMethod args0 = true := by decide +kernel
set_option maxRecDepth 65536 in
theorem w_heap : heapFits about1 = true := by decide +kernel
set_option maxRecDepth 65536 in
theorem w_runnable : about1.curStatus? = some .runnable := by decide +kernel
set_option maxRecDepth 65536 in
theorem w_alone : about1.alone = true := by decide +kernel
set_option maxRecDepth 65536 in
theorem w_named : about1.methodNamed? x = some theMethod := by decide +kernel
set_option maxRecDepth 65536 in
theorem w_hears : about1.hears theMethod below0 = true := by decide +kernel
set_option maxRecDepth 65536 in
theorem w_ripe : about1.ripe theMethod args0 below0 = true := by decide +kernel
theorem w_running : about1.status = .running := rfl
set_option maxRecDepth 65536 in
theorem w_room : about1.hasRoom e0.platform room_1 = true :=
  launch0.hasRoom_least _ room_1 (by decide +kernel) (by decide +kernel) (by decide +kernel) (by decide +kernel) (by decide +kernel) (by decide +kernel)
theorem allAtoms_all (ts : List Jvm.Cond) (a : Array Jvm.Value) (st : Jvm.State) : (allAtoms ts).before a st = ts.all (fun c => c.before a st) := by
  induction ts with
  | nil => rfl
  | cons c t ih =>
    show (Jvm.Cond.and c (allAtoms t)).before a st = _
    rw [Jvm.Cond.before_and, ih, List.all_cons]
def words1 : List Jvm.Cond := Jvm.Cond.code x code maxLocals ret :: tables_1
/-- a 'code' word, met by the world's own term for the bytes: nothing is compared byte by byte -/
theorem code_word {y : MethodName} {bytes : ByteArray} {mx : Nat} {rt : Option FieldType} {a : Array Value} {s : State} {m : MethodId} {meth : Method} {c : Code} (h1 : s.methodNamed? y = some m) (h2 : s.vm.method? m = some meth) (h3 : meth.code = some c) (h4 : c.code = bytes)
    (h5 : (c.maxLocals == mx && c.exceptionTable.isEmpty && decide (c.maxStack ≤ mostOperands) && decide (meth.sig.returnType = rt) && !meth.locks && decide (parseMethodDescriptor y.desc = some meth.sig)) = true) : (Jvm.Cond.code y bytes mx rt).before a s = true := by
  simp only [Bool.and_eq_true, beq_iff_eq, Bool.not_eq_true', decide_eq_true_eq] at h5
  obtain ⟨⟨⟨⟨⟨g1, g2⟩, g3⟩, g4⟩, g5⟩, g6⟩ := h5
  simp [Cond.before, Cond.holds, Cond.value, h1, h2, h3, h4, g1, g2, g3, g4, g5, g6]
def isCode : Jvm.Cond → Bool
  | .code _ _ _ _ => true
  | _ => false
theorem all_split {L : List Jvm.Cond} {P : Jvm.Cond → Bool} (h1 : L.all (fun c => isCode c || P c) = true) (h2 : ∀ c ∈ L.filter isCode, P c = true) : L.all P = true := by
  refine List.all_eq_true.mpr fun c hc => ?_
  have h := List.all_eq_true.mp h1 c hc
  rcases Bool.eq_false_or_eq_true (isCode c) with hi | hi
  · exact h2 c (List.mem_filter.mpr ⟨hc, hi⟩)
  · simpa [hi] using h
set_option maxRecDepth 65536 in
theorem w_c0 : (Jvm.Cond.code x code maxLocals ret).before args0 about1 = true := code_word (m := ⟨1, 1⟩) (meth := k1m1) (c := k1c1) (by decide +kernel) rfl rfl rfl (by decide +kernel)
set_option maxRecDepth 65536 in
theorem w_c1 : (Jvm.Cond.code ({ cls := "com/example/keyset/keyset/crypto/Base64UrlDecodePinLaw", name := "ch", desc := "(I)C" } : Jvm.MethodName) method_4_code (1 : Nat) (Option.some Jvm.ClassFile.FieldType.char)).before args0 about1 = true := code_word (m := ⟨1, 3⟩) (meth := k1m3) (c := k1c3) (by decide +kernel) rfl rfl rfl (by decide +kernel)
set_option maxRecDepth 65536 in
theorem w_c2 : (Jvm.Cond.code ({ cls := "com/example/keyset/keyset/crypto/Base64UrlDecodePinLaw", name := "chars", desc := "(ICCCCCCCC)[C" } : Jvm.MethodName) method_5_code (9 : Nat) (Option.some (Jvm.ClassFile.FieldType.array Jvm.ClassFile.FieldType.char))).before args0 about1 = true := code_word (m := ⟨1, 4⟩) (meth := k1m4) (c := k1c4) (by decide +kernel) rfl rfl rfl (by decide +kernel)
set_option maxRecDepth 65536 in
theorem w_c3 : (Jvm.Cond.code ({ cls := "java/lang/String", name := "<init>", desc := "([C)V" } : Jvm.MethodName) jdk_42_method_3_code (2 : Nat) (Option.none : Option Jvm.ClassFile.FieldType)).before args0 about1 = true := code_word (m := ⟨7, 1⟩) (meth := k7m1) (c := k7c1) (by decide +kernel) rfl rfl rfl (by decide +kernel)
set_option maxRecDepth 65536 in
theorem w_c4 : (Jvm.Cond.code ({ cls := "java/lang/String", name := "<init>", desc := "([CIILjava/lang/Void;)V" } : Jvm.MethodName) jdk_42_method_149_code (6 : Nat) (Option.none : Option Jvm.ClassFile.FieldType)).before args0 about1 = true := code_word (m := ⟨7, 8⟩) (meth := k7m8) (c := k7c8) (by decide +kernel) rfl rfl rfl (by decide +kernel)
set_option maxRecDepth 65536 in
theorem w_c5 : (Jvm.Cond.code ({ cls := "java/lang/Object", name := "<init>", desc := "()V" } : Jvm.MethodName) object_method_1_code (1 : Nat) (Option.none : Option Jvm.ClassFile.FieldType)).before args0 about1 = true := code_word (m := ⟨0, 0⟩) (meth := k0m0) (c := k0c0) (by decide +kernel) rfl rfl rfl (by decide +kernel)
set_option maxRecDepth 65536 in
theorem w_c6 : (Jvm.Cond.code ({ cls := "java/lang/StringUTF16", name := "compress", desc := "([CII)[B" } : Jvm.MethodName) jdk_52_method_16_code (6 : Nat) (Option.some (Jvm.ClassFile.FieldType.array Jvm.ClassFile.FieldType.byte))).before args0 about1 = true := code_word (m := ⟨8, 2⟩) (meth := k8m2) (c := k8c2) (by decide +kernel) rfl rfl rfl (by decide +kernel)
set_option maxRecDepth 65536 in
theorem w_c7 : (Jvm.Cond.code ({ cls := "java/lang/StringUTF16", name := "compress", desc := "([CI[BII)I" } : Jvm.MethodName) jdk_52_method_21_code (7 : Nat) (Option.some Jvm.ClassFile.FieldType.int)).before args0 about1 = true := code_word (m := ⟨8, 3⟩) (meth := k8m3) (c := k8c3) (by decide +kernel) rfl rfl rfl (by decide +kernel)
set_option maxRecDepth 65536 in
theorem w_c8 : (Jvm.Cond.code ({ cls := "java/lang/StringUTF16", name := "coderFromArrayLen", desc := "([BI)B" } : Jvm.MethodName) jdk_52_method_15_code (2 : Nat) (Option.some Jvm.ClassFile.FieldType.byte)).before args0 about1 = true := code_word (m := ⟨8, 1⟩) (meth := k8m1) (c := k8c1) (by decide +kernel) rfl rfl rfl (by decide +kernel)
set_option maxRecDepth 65536 in
theorem w_c9 : (Jvm.Cond.code ({ cls := "com/example/keyset/keyset/crypto/Base64Url", name := "decode", desc := "(Ljava/lang/String;)[B" } : Jvm.MethodName) prog_2_method_3_code (2 : Nat) (Option.some (Jvm.ClassFile.FieldType.array Jvm.ClassFile.FieldType.byte))).before args0 about1 = true := code_word (m := ⟨9, 1⟩) (meth := k9m1) (c := k9c1) (by decide +kernel) rfl rfl rfl (by decide +kernel)
set_option maxRecDepth 65536 in
theorem w_c10 : (Jvm.Cond.code ({ cls := "java/util/Base64$Decoder", name := "decode", desc := "(Ljava/lang/String;)[B" } : Jvm.MethodName) jdk_2450_method_3_code (2 : Nat) (Option.some (Jvm.ClassFile.FieldType.array Jvm.ClassFile.FieldType.byte))).before args0 about1 = true := code_word (m := ⟨10, 1⟩) (meth := k10m1) (c := k10c1) (by decide +kernel) rfl rfl rfl (by decide +kernel)
set_option maxRecDepth 65536 in
theorem w_c11 : (Jvm.Cond.code ({ cls := "java/lang/String", name := "getBytes", desc := "(Ljava/nio/charset/Charset;)[B" } : Jvm.MethodName) jdk_42_method_64_code (2 : Nat) (Option.some (Jvm.ClassFile.FieldType.array Jvm.ClassFile.FieldType.byte))).before args0 about1 = true := code_word (m := ⟨7, 6⟩) (meth := k7m6) (c := k7c6) (by decide +kernel) rfl rfl rfl (by decide +kernel)
set_option maxRecDepth 65536 in
theorem w_c12 : (Jvm.Cond.code ({ cls := "java/lang/String", name := "coder", desc := "()B" } : Jvm.MethodName) jdk_42_method_152_code (1 : Nat) (Option.some Jvm.ClassFile.FieldType.byte)).before args0 about1 = true := code_word (m := ⟨7, 9⟩) (meth := k7m9) (c := k7c9) (by decide +kernel) rfl rfl rfl (by decide +kernel)
set_option maxRecDepth 65536 in
theorem w_c13 : (Jvm.Cond.code ({ cls := "java/lang/String", name := "encode", desc := "(Ljava/nio/charset/Charset;B[B)[B" } : Jvm.MethodName) jdk_42_method_18_code (3 : Nat) (Option.some (Jvm.ClassFile.FieldType.array Jvm.ClassFile.FieldType.byte))).before args0 about1 = true := code_word (m := ⟨7, 3⟩) (meth := k7m3) (c := k7c3) (by decide +kernel) rfl rfl rfl (by decide +kernel)
set_option maxRecDepth 65536 in
theorem w_c14 : (Jvm.Cond.code ({ cls := "java/lang/String", name := "encode8859_1", desc := "(B[B)[B" } : Jvm.MethodName) jdk_42_method_26_code (2 : Nat) (Option.some (Jvm.ClassFile.FieldType.array Jvm.ClassFile.FieldType.byte))).before args0 about1 = true := code_word (m := ⟨7, 4⟩) (meth := k7m4) (c := k7c4) (by decide +kernel) rfl rfl rfl (by decide +kernel)
set_option maxRecDepth 65536 in
theorem w_c15 : (Jvm.Cond.code ({ cls := "java/lang/String", name := "encode8859_1", desc := "(B[BZ)[B" } : Jvm.MethodName) jdk_42_method_27_code (10 : Nat) (Option.some (Jvm.ClassFile.FieldType.array Jvm.ClassFile.FieldType.byte))).before args0 about1 = true := code_word (m := ⟨7, 5⟩) (meth := k7m5) (c := k7c5) (by decide +kernel) rfl rfl rfl (by decide +kernel)
set_option maxRecDepth 65536 in
theorem w_c16 : (Jvm.Cond.code ({ cls := "java/util/Base64$Decoder", name := "decode", desc := "([B)[B" } : Jvm.MethodName) jdk_2450_method_2_code (4 : Nat) (Option.some (Jvm.ClassFile.FieldType.array Jvm.ClassFile.FieldType.byte))).before args0 about1 = true := code_word (m := ⟨10, 0⟩) (meth := k10m0) (c := k10c0) (by decide +kernel) rfl rfl rfl (by decide +kernel)
set_option maxRecDepth 65536 in
theorem w_c17 : (Jvm.Cond.code ({ cls := "java/util/Base64$Decoder", name := "decodedOutLength", desc := "([BII)I" } : Jvm.MethodName) jdk_2450_method_7_code (9 : Nat) (Option.some Jvm.ClassFile.FieldType.int)).before args0 about1 = true := code_word (m := ⟨10, 2⟩) (meth := k10m2) (c := k10c2) (by decide +kernel) rfl rfl rfl (by decide +kernel)
set_option maxRecDepth 65536 in
theorem w_c18 : (Jvm.Cond.code ({ cls := "java/util/Base64$Decoder", name := "decode0", desc := "([BII[B)I" } : Jvm.MethodName) jdk_2450_method_9_code (11 : Nat) (Option.some Jvm.ClassFile.FieldType.int)).before args0 about1 = true := code_word (m := ⟨10, 4⟩) (meth := k10m4) (c := k10c4) (by decide +kernel) rfl rfl rfl (by decide +kernel)
set_option maxRecDepth 65536 in
theorem w_c19 : (Jvm.Cond.code ({ cls := "java/util/Base64$Encoder", name := "encodeToString", desc := "([B)Ljava/lang/String;" } : Jvm.MethodName) jdk_2452_method_5_code (3 : Nat) (Option.some (Jvm.ClassFile.FieldType.object "java/lang/String"))).before args0 about1 = true := code_word (m := ⟨17, 2⟩) (meth := k17m2) (c := k17c2) (by decide +kernel) rfl rfl rfl (by decide +kernel)
set_option maxRecDepth 65536 in
theorem w_c20 : (Jvm.Cond.code ({ cls := "java/util/Base64$Encoder", name := "encode", desc := "([B)[B" } : Jvm.MethodName) jdk_2452_method_3_code (5 : Nat) (Option.some (Jvm.ClassFile.FieldType.array Jvm.ClassFile.FieldType.byte))).before args0 about1 = true := code_word (m := ⟨17, 1⟩) (meth := k17m1) (c := k17c1) (by decide +kernel) rfl rfl rfl (by decide +kernel)
set_option maxRecDepth 65536 in
theorem w_c21 : (Jvm.Cond.code ({ cls := "java/lang/Math", name := "multiplyExact", desc := "(II)I" } : Jvm.MethodName) jdk_29_method_28_code (4 : Nat) (Option.some Jvm.ClassFile.FieldType.int)).before args0 about1 = true := code_word (m := ⟨18, 2⟩) (meth := k18m2) (c := k18c2) (by decide +kernel) rfl rfl rfl (by decide +kernel)
set_option maxRecDepth 65536 in
theorem w_c22 : (Jvm.Cond.code ({ cls := "java/lang/Math", name := "addExact", desc := "(II)I" } : Jvm.MethodName) jdk_29_method_24_code (3 : Nat) (Option.some Jvm.ClassFile.FieldType.int)).before args0 about1 = true := code_word (m := ⟨18, 1⟩) (meth := k18m1) (c := k18c1) (by decide +kernel) rfl rfl rfl (by decide +kernel)
set_option maxRecDepth 65536 in
theorem w_c23 : (Jvm.Cond.code ({ cls := "java/util/Base64$Encoder", name := "encode0", desc := "([BII[B)I" } : Jvm.MethodName) jdk_2452_method_10_code (16 : Nat) (Option.some Jvm.ClassFile.FieldType.int)).before args0 about1 = true := code_word (m := ⟨17, 4⟩) (meth := k17m4) (c := k17c4) (by decide +kernel) rfl rfl rfl (by decide +kernel)
set_option maxRecDepth 65536 in
theorem w_c24 : (Jvm.Cond.code ({ cls := "java/lang/String", name := "<init>", desc := "([BIII)V" } : Jvm.MethodName) jdk_42_method_7_code (7 : Nat) (Option.none : Option Jvm.ClassFile.FieldType)).before args0 about1 = true := code_word (m := ⟨7, 2⟩) (meth := k7m2) (c := k7c2) (by decide +kernel) rfl rfl rfl (by decide +kernel)
set_option maxRecDepth 65536 in
theorem w_c25 : (Jvm.Cond.code ({ cls := "java/lang/String", name := "checkBoundsOffCount", desc := "(III)I" } : Jvm.MethodName) jdk_42_method_157_code (3 : Nat) (Option.some Jvm.ClassFile.FieldType.int)).before args0 about1 = true := code_word (m := ⟨7, 10⟩) (meth := k7m10) (c := k7c10) (by decide +kernel) rfl rfl rfl (by decide +kernel)
set_option maxRecDepth 65536 in
theorem w_c26 : (Jvm.Cond.code ({ cls := "jdk/internal/util/Preconditions", name := "checkFromIndexSize", desc := "(IIILjava/util/function/BiFunction;)I" } : Jvm.MethodName) jdk_41_method_13_code (4 : Nat) (Option.some Jvm.ClassFile.FieldType.int)).before args0 about1 = true := code_word (m := ⟨19, 1⟩) (meth := k19m1) (c := k19c1) (by decide +kernel) rfl rfl rfl (by decide +kernel)
set_option maxRecDepth 65536 in
theorem w_c27 : (Jvm.Cond.code ({ cls := "java/util/Arrays", name := "copyOfRange", desc := "([BII)[B" } : Jvm.MethodName) jdk_65_method_132_code (3 : Nat) (Option.some (Jvm.ClassFile.FieldType.array Jvm.ClassFile.FieldType.byte))).before args0 about1 = true := code_word (m := ⟨20, 1⟩) (meth := k20m1) (c := k20c1) (by decide +kernel) rfl rfl rfl (by decide +kernel)
set_option maxRecDepth 65536 in
theorem w_c28 : (Jvm.Cond.code ({ cls := "java/lang/String", name := "equals", desc := "(Ljava/lang/Object;)Z" } : Jvm.MethodName) jdk_42_method_66_code (3 : Nat) (Option.some Jvm.ClassFile.FieldType.boolean)).before args0 about1 = true := code_word (m := ⟨7, 7⟩) (meth := k7m7) (c := k7c7) (by decide +kernel) rfl rfl rfl (by decide +kernel)
set_option maxRecDepth 65536 in
theorem w_c29 : (Jvm.Cond.code ({ cls := "java/lang/StringLatin1", name := "equals", desc := "([B[B)Z" } : Jvm.MethodName) jdk_43_method_13_code (3 : Nat) (Option.some Jvm.ClassFile.FieldType.boolean)).before args0 about1 = true := code_word (m := ⟨21, 1⟩) (meth := k21m1) (c := k21c1) (by decide +kernel) rfl rfl rfl (by decide +kernel)
set_option maxRecDepth 65536 in
theorem w_c30 : (Jvm.Cond.code ({ cls := "com/example/keyset/keyset/crypto/Base64UrlDecodePinLaw", name := "at", desc := "([BIII)Z" } : Jvm.MethodName) method_3_code (4 : Nat) (Option.some Jvm.ClassFile.FieldType.boolean)).before args0 about1 = true := code_word (m := ⟨1, 2⟩) (meth := k1m2) (c := k1c2) (by decide +kernel) rfl rfl rfl (by decide +kernel)
set_option maxRecDepth 65536 in
theorem w_c31 : (Jvm.Cond.code ({ cls := "java/lang/Math", name := "min", desc := "(II)I" } : Jvm.MethodName) jdk_29_method_69_code (2 : Nat) (Option.some Jvm.ClassFile.FieldType.int)).before args0 about1 = true := code_word (m := ⟨18, 3⟩) (meth := k18m3) (c := k18c3) (by decide +kernel) rfl rfl rfl (by decide +kernel)
set_option maxRecDepth 65536 in
theorem w_c32 : (Jvm.Cond.code ({ cls := "java/util/Base64$Encoder", name := "encodeBlock", desc := "([BII[BIZ)V" } : Jvm.MethodName) jdk_2452_method_9_code (11 : Nat) (Option.none : Option Jvm.ClassFile.FieldType)).before args0 about1 = true := code_word (m := ⟨17, 3⟩) (meth := k17m3) (c := k17c3) (by decide +kernel) rfl rfl rfl (by decide +kernel)
set_option maxRecDepth 65536 in
theorem w_c33 : (Jvm.Cond.code ({ cls := "java/util/Base64$Decoder", name := "decodeBlock", desc := "([BII[BIZZ)I" } : Jvm.MethodName) jdk_2450_method_8_code (16 : Nat) (Option.some Jvm.ClassFile.FieldType.int)).before args0 about1 = true := code_word (m := ⟨10, 3⟩) (meth := k10m3) (c := k10c3) (by decide +kernel) rfl rfl rfl (by decide +kernel)
def codes1 : List Jvm.Cond := [Jvm.Cond.code x code maxLocals ret, Jvm.Cond.code ({ cls := "com/example/keyset/keyset/crypto/Base64UrlDecodePinLaw", name := "ch", desc := "(I)C" } : Jvm.MethodName) method_4_code (1 : Nat) (Option.some Jvm.ClassFile.FieldType.char), Jvm.Cond.code ({ cls := "com/example/keyset/keyset/crypto/Base64UrlDecodePinLaw", name := "chars", desc := "(ICCCCCCCC)[C" } : Jvm.MethodName) method_5_code (9 : Nat) (Option.some (Jvm.ClassFile.FieldType.array Jvm.ClassFile.FieldType.char)), Jvm.Cond.code ({ cls := "java/lang/String", name := "<init>", desc := "([C)V" } : Jvm.MethodName) jdk_42_method_3_code (2 : Nat) (Option.none : Option Jvm.ClassFile.FieldType), Jvm.Cond.code ({ cls := "java/lang/String", name := "<init>", desc := "([CIILjava/lang/Void;)V" } : Jvm.MethodName) jdk_42_method_149_code (6 : Nat) (Option.none : Option Jvm.ClassFile.FieldType), Jvm.Cond.code ({ cls := "java/lang/Object", name := "<init>", desc := "()V" } : Jvm.MethodName) object_method_1_code (1 : Nat) (Option.none : Option Jvm.ClassFile.FieldType), Jvm.Cond.code ({ cls := "java/lang/StringUTF16", name := "compress", desc := "([CII)[B" } : Jvm.MethodName) jdk_52_method_16_code (6 : Nat) (Option.some (Jvm.ClassFile.FieldType.array Jvm.ClassFile.FieldType.byte)), Jvm.Cond.code ({ cls := "java/lang/StringUTF16", name := "compress", desc := "([CI[BII)I" } : Jvm.MethodName) jdk_52_method_21_code (7 : Nat) (Option.some Jvm.ClassFile.FieldType.int), Jvm.Cond.code ({ cls := "java/lang/StringUTF16", name := "coderFromArrayLen", desc := "([BI)B" } : Jvm.MethodName) jdk_52_method_15_code (2 : Nat) (Option.some Jvm.ClassFile.FieldType.byte), Jvm.Cond.code ({ cls := "com/example/keyset/keyset/crypto/Base64Url", name := "decode", desc := "(Ljava/lang/String;)[B" } : Jvm.MethodName) prog_2_method_3_code (2 : Nat) (Option.some (Jvm.ClassFile.FieldType.array Jvm.ClassFile.FieldType.byte)), Jvm.Cond.code ({ cls := "java/util/Base64$Decoder", name := "decode", desc := "(Ljava/lang/String;)[B" } : Jvm.MethodName) jdk_2450_method_3_code (2 : Nat) (Option.some (Jvm.ClassFile.FieldType.array Jvm.ClassFile.FieldType.byte)), Jvm.Cond.code ({ cls := "java/lang/String", name := "getBytes", desc := "(Ljava/nio/charset/Charset;)[B" } : Jvm.MethodName) jdk_42_method_64_code (2 : Nat) (Option.some (Jvm.ClassFile.FieldType.array Jvm.ClassFile.FieldType.byte)), Jvm.Cond.code ({ cls := "java/lang/String", name := "coder", desc := "()B" } : Jvm.MethodName) jdk_42_method_152_code (1 : Nat) (Option.some Jvm.ClassFile.FieldType.byte), Jvm.Cond.code ({ cls := "java/lang/String", name := "encode", desc := "(Ljava/nio/charset/Charset;B[B)[B" } : Jvm.MethodName) jdk_42_method_18_code (3 : Nat) (Option.some (Jvm.ClassFile.FieldType.array Jvm.ClassFile.FieldType.byte)), Jvm.Cond.code ({ cls := "java/lang/String", name := "encode8859_1", desc := "(B[B)[B" } : Jvm.MethodName) jdk_42_method_26_code (2 : Nat) (Option.some (Jvm.ClassFile.FieldType.array Jvm.ClassFile.FieldType.byte)), Jvm.Cond.code ({ cls := "java/lang/String", name := "encode8859_1", desc := "(B[BZ)[B" } : Jvm.MethodName) jdk_42_method_27_code (10 : Nat) (Option.some (Jvm.ClassFile.FieldType.array Jvm.ClassFile.FieldType.byte)), Jvm.Cond.code ({ cls := "java/util/Base64$Decoder", name := "decode", desc := "([B)[B" } : Jvm.MethodName) jdk_2450_method_2_code (4 : Nat) (Option.some (Jvm.ClassFile.FieldType.array Jvm.ClassFile.FieldType.byte)), Jvm.Cond.code ({ cls := "java/util/Base64$Decoder", name := "decodedOutLength", desc := "([BII)I" } : Jvm.MethodName) jdk_2450_method_7_code (9 : Nat) (Option.some Jvm.ClassFile.FieldType.int), Jvm.Cond.code ({ cls := "java/util/Base64$Decoder", name := "decode0", desc := "([BII[B)I" } : Jvm.MethodName) jdk_2450_method_9_code (11 : Nat) (Option.some Jvm.ClassFile.FieldType.int), Jvm.Cond.code ({ cls := "java/util/Base64$Encoder", name := "encodeToString", desc := "([B)Ljava/lang/String;" } : Jvm.MethodName) jdk_2452_method_5_code (3 : Nat) (Option.some (Jvm.ClassFile.FieldType.object "java/lang/String")), Jvm.Cond.code ({ cls := "java/util/Base64$Encoder", name := "encode", desc := "([B)[B" } : Jvm.MethodName) jdk_2452_method_3_code (5 : Nat) (Option.some (Jvm.ClassFile.FieldType.array Jvm.ClassFile.FieldType.byte)), Jvm.Cond.code ({ cls := "java/lang/Math", name := "multiplyExact", desc := "(II)I" } : Jvm.MethodName) jdk_29_method_28_code (4 : Nat) (Option.some Jvm.ClassFile.FieldType.int), Jvm.Cond.code ({ cls := "java/lang/Math", name := "addExact", desc := "(II)I" } : Jvm.MethodName) jdk_29_method_24_code (3 : Nat) (Option.some Jvm.ClassFile.FieldType.int), Jvm.Cond.code ({ cls := "java/util/Base64$Encoder", name := "encode0", desc := "([BII[B)I" } : Jvm.MethodName) jdk_2452_method_10_code (16 : Nat) (Option.some Jvm.ClassFile.FieldType.int), Jvm.Cond.code ({ cls := "java/lang/String", name := "<init>", desc := "([BIII)V" } : Jvm.MethodName) jdk_42_method_7_code (7 : Nat) (Option.none : Option Jvm.ClassFile.FieldType), Jvm.Cond.code ({ cls := "java/lang/String", name := "checkBoundsOffCount", desc := "(III)I" } : Jvm.MethodName) jdk_42_method_157_code (3 : Nat) (Option.some Jvm.ClassFile.FieldType.int), Jvm.Cond.code ({ cls := "jdk/internal/util/Preconditions", name := "checkFromIndexSize", desc := "(IIILjava/util/function/BiFunction;)I" } : Jvm.MethodName) jdk_41_method_13_code (4 : Nat) (Option.some Jvm.ClassFile.FieldType.int), Jvm.Cond.code ({ cls := "java/util/Arrays", name := "copyOfRange", desc := "([BII)[B" } : Jvm.MethodName) jdk_65_method_132_code (3 : Nat) (Option.some (Jvm.ClassFile.FieldType.array Jvm.ClassFile.FieldType.byte)), Jvm.Cond.code ({ cls := "java/lang/String", name := "equals", desc := "(Ljava/lang/Object;)Z" } : Jvm.MethodName) jdk_42_method_66_code (3 : Nat) (Option.some Jvm.ClassFile.FieldType.boolean), Jvm.Cond.code ({ cls := "java/lang/StringLatin1", name := "equals", desc := "([B[B)Z" } : Jvm.MethodName) jdk_43_method_13_code (3 : Nat) (Option.some Jvm.ClassFile.FieldType.boolean), Jvm.Cond.code ({ cls := "com/example/keyset/keyset/crypto/Base64UrlDecodePinLaw", name := "at", desc := "([BIII)Z" } : Jvm.MethodName) method_3_code (4 : Nat) (Option.some Jvm.ClassFile.FieldType.boolean), Jvm.Cond.code ({ cls := "java/lang/Math", name := "min", desc := "(II)I" } : Jvm.MethodName) jdk_29_method_69_code (2 : Nat) (Option.some Jvm.ClassFile.FieldType.int), Jvm.Cond.code ({ cls := "java/util/Base64$Encoder", name := "encodeBlock", desc := "([BII[BIZ)V" } : Jvm.MethodName) jdk_2452_method_9_code (11 : Nat) (Option.none : Option Jvm.ClassFile.FieldType), Jvm.Cond.code ({ cls := "java/util/Base64$Decoder", name := "decodeBlock", desc := "([BII[BIZZ)I" } : Jvm.MethodName) jdk_2450_method_8_code (16 : Nat) (Option.some Jvm.ClassFile.FieldType.int)]
set_option maxRecDepth 65536 in
theorem codes_eq : words1.filter isCode = codes1 := rfl
theorem w_codes : ∀ c ∈ words1.filter isCode, c.before args0 about1 = true := by
  rw [codes_eq]
  intro c hc
  simp only [codes1, List.mem_cons, List.not_mem_nil, or_false] at hc
  rcases hc with rfl | rfl | rfl | rfl | rfl | rfl | rfl | rfl | rfl | rfl | rfl | rfl | rfl | rfl | rfl | rfl | rfl | rfl | rfl | rfl | rfl | rfl | rfl | rfl | rfl | rfl | rfl | rfl | rfl | rfl | rfl | rfl | rfl | rfl
  · exact w_c0
  · exact w_c1
  · exact w_c2
  · exact w_c3
  · exact w_c4
  · exact w_c5
  · exact w_c6
  · exact w_c7
  · exact w_c8
  · exact w_c9
  · exact w_c10
  · exact w_c11
  · exact w_c12
  · exact w_c13
  · exact w_c14
  · exact w_c15
  · exact w_c16
  · exact w_c17
  · exact w_c18
  · exact w_c19
  · exact w_c20
  · exact w_c21
  · exact w_c22
  · exact w_c23
  · exact w_c24
  · exact w_c25
  · exact w_c26
  · exact w_c27
  · exact w_c28
  · exact w_c29
  · exact w_c30
  · exact w_c31
  · exact w_c32
  · exact w_c33
set_option maxRecDepth 65536 in
theorem w_t1 : (words1.take 24).all (fun c => isCode c || c.before args0 about1) = true := by decide +kernel
set_option maxRecDepth 65536 in
theorem w_t2 : ((words1.drop 24).take 24).all (fun c => isCode c || c.before args0 about1) = true := by decide +kernel
set_option maxRecDepth 65536 in
theorem w_t3 : (((words1.drop 24).drop 24).take 24).all (fun c => isCode c || c.before args0 about1) = true := by decide +kernel
set_option maxRecDepth 65536 in
theorem w_t4 : ((((words1.drop 24).drop 24).drop 24).take 24).all (fun c => isCode c || c.before args0 about1) = true := by decide +kernel
set_option maxRecDepth 65536 in
theorem w_t5 : (((((words1.drop 24).drop 24).drop 24).drop 24).take 24).all (fun c => isCode c || c.before args0 about1) = true := by decide +kernel
set_option maxRecDepth 65536 in
theorem w_t6 : ((((((words1.drop 24).drop 24).drop 24).drop 24).drop 24).take 24).all (fun c => isCode c || c.before args0 about1) = true := by decide +kernel
set_option maxRecDepth 65536 in
theorem w_t7 : (((((((words1.drop 24).drop 24).drop 24).drop 24).drop 24).drop 24).take 24).all (fun c => isCode c || c.before args0 about1) = true := by decide +kernel
set_option maxRecDepth 65536 in
theorem w_t8 : (((((((words1.drop 24).drop 24).drop 24).drop 24).drop 24).drop 24).drop 24).all (fun c => isCode c || c.before args0 about1) = true := by decide +kernel
theorem w_tables : (allAtoms (Jvm.Cond.code x code maxLocals ret :: tables_1)).before args0 about1 = true := by
  rw [allAtoms_all]
  show words1.all (fun c => c.before args0 about1) = true
  refine all_split ?_ w_codes
  rw [← List.take_append_drop 24 words1, List.all_append, w_t1, ← List.take_append_drop 24 (words1.drop 24), List.all_append, w_t2, ← List.take_append_drop 24 ((words1.drop 24).drop 24), List.all_append, w_t3, ← List.take_append_drop 24 (((words1.drop 24).drop 24).drop 24), List.all_append, w_t4, ← List.take_append_drop 24 ((((words1.drop 24).drop 24).drop 24).drop 24), List.all_append, w_t5, ← List.take_append_drop 24 (((((words1.drop 24).drop 24).drop 24).drop 24).drop 24), List.all_append, w_t6, ← List.take_append_drop 24 ((((((words1.drop 24).drop 24).drop 24).drop 24).drop 24).drop 24), List.all_append, w_t7, w_t8]
  rfl
set_option maxRecDepth 65536 in
theorem w_rest : rest_1_c.before args0 about1 = true := by decide +kernel
set_option maxRecDepth 65536 in
theorem w_case : (Jvm.Cond.and given_1 narrow_1).before args0 about1 = true := by decide +kernel
set_option maxRecDepth 65536 in
theorem w_consts : constsHeld consts_1 about1 := Jvm.Lit.constsHeldB_iff.mp (by decide +kernel)
theorem w_applies : (headSpec (Jvm.Cond.code x code maxLocals ret :: tables_1) room_1).applies x e0.platform about1 = true :=
  (Spec.applies_iff w_frames).mpr ⟨w_running, w_runnable, w_alone, w_named, w_hears, w_ripe, w_room, w_tables⟩
theorem atStart : AtStart classFile x code maxLocals ret World_1 tables_1 room_1 Calls_1 rest_1 Pre_1 launch0 p0 e0 about1 theMethod args0 below0 :=
  ⟨lists_1, trivial, launch0.admits_env _ _ _, launch0.least_env, fairChoices_fair.cas, fairChoices_fair.clock, w_frames, w_args, w_heap, w_applies, ⟨w_consts, trivial⟩, w_rest, w_case⟩
end start1
theorem witness_1 : WitnessClaimed_1 := ⟨start1.p0, start1.e0, start1.about1, start1.theMethod, start1.args0, start1.below0, start1.atStart⟩
end Jvm.Pilot.@@N@@
