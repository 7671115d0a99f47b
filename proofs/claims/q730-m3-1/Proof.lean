import JvmDerived
import JvmDerived.Pilot.@@N@@Statement
import JvmDerived.Pilot.@@N@@Code
set_option linter.unusedVariables false
set_option linter.unusedSimpArgs false
namespace Jvm.RoadKit
open Sem ClassFile Op Lib Jvm.Stand Jvm.Free Jvm.LawKit
section New
variable {p : Program} {l : Launch} {e : Env} {R : Room} {s : State} {m : MethodId} {args : Array Value} {below : List Frame} {meth : Method} {c : Code} {T : State} {locs : List Loc} {cells slots : Nat}
theorem retI (X : Stand p l e R s m args below meth c T locs cells slots) (hx : p.tables.exec = Jvm.exec) {pc : Nat} {Ls : Array Slot} {z : Int32} {rest : List Value} (hret : meth.sig.returnType = some .int) (hd : decode c.code pc = .ok (.ireturn, 1)) {fs : List Frame}
    (hl : ∀ (f : JFrame) (acts : List Action), f.method = m → f.locked = none → f.entered = [] → (doReturn e (T.setTop f) acts (some (.int z))).1 = T.setFrames fs) : Steps p.tables e below (T.setTop (mkF m pc Ls (.int z :: rest))) (T.setFrames fs) := by
  have hm' : T.vm.method? m = some meth := X.method'
  have hn : narrow .int (.int z) = .int z := rfl
  show Steps p.tables e below (T.setTop { method := m, pc := pc, locals := Ls, stack := _ :: rest, locked := none }) _
  jvm_step X.here [X.here.top, hx, hd, hm', hret, hn]
  first | (intro acts; rw [hl _ acts rfl rfl rfl]) | rw [hl _ _ rfl rfl rfl]
  exact Steps.refl _
end New
end Jvm.RoadKit
/- laws to paste: Road.backV, Road.chN, Road.codOf (cut by pick.py; bodies as the Statement names them) -/
namespace Jvm.Pilot.@@N@@
namespace StrChars
open Jvm Sem ClassFile Op Lib Jvm.Stand Jvm.Free.XT Jvm.Free.ALB Jvm.Free.JM Jvm.Free
open Jvm.Lib.Cold (StaticIs)
/-- a char array whose places are chars -/
def Ch (a : Addr) (A : Cell) (U : State) : Prop := Arr .char a A U ∧ Typed .char A
theorem Ch.mv {a : Addr} {A : Cell} {U U' : State} (h : Ch a A U) (hal : U.vm.Alike U'.vm) (hh : U'.heap = U.heap) : Ch a A U' := ⟨h.1.mv hal hh, h.2⟩
theorem Ch.keep {a : Addr} {A : Cell} {U U' : State} (h : Ch a A U) (hal : U.vm.Alike U'.vm) (hk : U'.heap[a]? = some A) : Ch a A U' := ⟨h.1.keep hal hk, h.2⟩
/-- what place i of a char[]'s cell holds -/
def cv (A : Cell) (i : Nat) : Int32 := match A.slots[i]? with | some (.int x) => x | _ => 0
theorem Ch.get {a : Addr} {A : Cell} {U : State} (h : Ch a A U) {i : Nat} (hi : i < A.slots.size) : A.slots[i]? = some (.int (cv A i)) := by
  have e := Array.getElem?_eq_getElem hi
  have f := h.2 i _ e
  unfold cv; rw [e]
  generalize A.slots[i] = v at f
  cases v <;> simp [fits] at f ⊢
/-- the byte that i2b leaves of a char -/
def lo8 (x : Int32) : Int32 := x.toInt8.toInt32
theorem fits_lo8 (y : Int32) : fits .byte (.int (lo8 y)) = true := by
  have h1 := y.toInt8.le_toInt
  have h2 := y.toInt8.toInt_lt
  simp only [lo8, fits, Bool.and_eq_true, decide_eq_true_eq, Int32.le_iff_toInt_le, Int8.toInt_toInt32, show (-128 : Int32).toInt = -128 from by decide, show (127 : Int32).toInt = 127 from by decide]
  omega
/-- A' is A but that each place j of lo .. hi - 1 holds f j -/
def Laid (A A' : Cell) (lo hi : Nat) (f : Nat → Value) : Prop := A'.cls = A.cls ∧ A'.vm = A.vm ∧ A'.slots.size = A.slots.size ∧ ∀ i, A'.slots[i]? = if lo ≤ i ∧ i < hi then some (f i) else A.slots[i]?
theorem Laid.zero (A : Cell) (lo : Nat) (f : Nat → Value) : Laid A A lo (lo + 0) f := ⟨rfl, rfl, rfl, fun i => by rw [if_neg (by omega)]⟩
theorem Laid.step {A Ak : Cell} {lo k : Nat} {f : Nat → Value} {v : Value} (h : Laid A Ak lo k f) (hlo : lo ≤ k) (hk : k < Ak.slots.size) (hv : v = f k) : Laid A (Ak.setSlot k v) lo (k + 1) f := by
  refine ⟨h.1, h.2.1, by simpa [Cell.setSlot] using h.2.2.1, fun i => ?_⟩
  by_cases e : k = i
  · subst e; rw [Cell.slots_setSlot_self v hk, if_pos (by omega), hv]
  · rw [Cell.slots_setSlot_ne v e, h.2.2.2 i]
    by_cases q : lo ≤ i ∧ i < k
    · rw [if_pos q, if_pos (by omega)]
    · rw [if_neg q, if_neg (by omega)]
def U16 : String := "java/lang/StringUTF16"
namespace Cmp5
def yN : MethodName := ⟨"java/lang/StringUTF16", "compress", "([CI[BII)I"⟩
abbrev yB : ByteArray := jdk_52_method_21_code
theorem d0 : decode yB 0 = .ok (.iconst 0, 1) := by decide +kernel
theorem d1 : decode yB 1 = .ok (.istore 5, 2) := by decide +kernel
theorem d3 : decode yB 3 = .ok (.iload 5, 2) := by decide +kernel
theorem d5 : decode yB 5 = .ok (.iload 4, 2) := by decide +kernel
theorem d7 : decode yB 7 = .ok (.if_icmp (.ge) 37, 3) := by decide +kernel
theorem d10 : decode yB 10 = .ok (.aload_n 0, 1) := by decide +kernel
theorem d11 : decode yB 11 = .ok (.iload_n 1, 1) := by decide +kernel
theorem d12 : decode yB 12 = .ok (.caload, 1) := by decide +kernel
theorem d13 : decode yB 13 = .ok (.istore 6, 2) := by decide +kernel
theorem d15 : decode yB 15 = .ok (.iload 6, 2) := by decide +kernel
theorem d17 : decode yB 17 = .ok (.sipush 255, 3) := by decide +kernel
theorem d20 : decode yB 20 = .ok (.if_icmp (.le) 6, 3) := by decide +kernel
theorem d26 : decode yB 26 = .ok (.aload_n 2, 1) := by decide +kernel
theorem d27 : decode yB 27 = .ok (.iload_n 3, 1) := by decide +kernel
theorem d28 : decode yB 28 = .ok (.iload 6, 2) := by decide +kernel
theorem d30 : decode yB 30 = .ok (.i2b, 1) := by decide +kernel
theorem d31 : decode yB 31 = .ok (.bastore, 1) := by decide +kernel
theorem d32 : decode yB 32 = .ok (.iinc 1 1, 3) := by decide +kernel
theorem d35 : decode yB 35 = .ok (.iinc 3 1, 3) := by decide +kernel
theorem d38 : decode yB 38 = .ok (.iinc 5 1, 3) := by decide +kernel
theorem d41 : decode yB 41 = .ok (.goto (-38), 3) := by decide +kernel
theorem d44 : decode yB 44 = .ok (.iload 4, 2) := by decide +kernel
theorem d46 : decode yB 46 = .ok (.ireturn, 1) := by decide +kernel
def site : List Cond := []
def tab : Cond := tabOf yN yB 7 (some .int) site
def P (b : Addr) (A : Cell) (d : Addr) (B : Cell) (o q len : Nat) (args : Array Value) (s : State) : Prop := args = #[.ref b, .int (Int32.ofNat o), .ref d, .int (Int32.ofNat q), .int (Int32.ofNat len)] ∧ Ch b A s ∧ Arr .byte d B s ∧ b ≠ d ∧ o + len ≤ A.slots.size ∧ q + len ≤ B.slots.size ∧ ∀ i, i < len → ¬ 255 < cv A (o + i)
def E (b : Addr) (A : Cell) (d : Addr) (B : Cell) (o q len : Nat) (r : Option Value) (s u : State) : Prop := r = some (.int (Int32.ofNat len)) ∧ ∃ B', Put d B' s u ∧ Laid B B' q (q + len) (fun j => Value.int (lo8 (cv A (o + (j - q)))))
/-- no char of the range above 255: len; the places written hold each char's low byte -/
theorem law (l : Launch) (b : Addr) (A : Cell) (d : Addr) (B : Cell) (o q len : Nat) : Law l yN 5 5 0 0 yB 7 (some .int) site (P b A d B o q len) (E b A d B o q len) (copyLocs d q len) 0 0 := by
  refine Law.of_walk (plainFor_of_name (by decide +kernel)) (by decide +kernel) (by decide +kernel) (by decide) (fun _ _ h => by rw [h.1]; rfl) (fun _ U U' hal hh h => ⟨h.1, h.2.1.mv hal hh, h.2.2.1.mv hal hh, h.2.2.2⟩) (fun r U U' V V' h1 hal h2 h => ⟨h.1, h.2.elim fun B' q => ⟨B', q.1.mv h1 h2, q.2⟩⟩) ?_
  intro p e s m args below meth c s₁ X0 hexec hbytes hml hret hlk hnm hown hh0 W hP
  obtain ⟨rfl, hA, hB, hne, l1, l2, hp⟩ := hP
  have c1 : Steps p.tables e below (s₁.setTop (entryFrame m #[.ref b, .int (Int32.ofNat o), .ref d, .int (Int32.ofNat q), .int (Int32.ofNat len)] 7)) (s₁.setTop (mkF m 0 #[.val (.ref b), .val (.int (Int32.ofNat o)), .val (.ref d), .val (.int (Int32.ofNat q)), .val (.int (Int32.ofNat len)), .unset, .unset] [])) := entry rfl
  have hA0 := hA.1.mv X0.warmed.alike hh0
  have hB0 := hB.mv X0.warmed.alike hh0
  have a31 := hA.1.2.2.2
  have c2 : Steps p.tables e below (s₁.setTop (entryFrame m #[.ref b, .int (Int32.ofNat o), .ref d, .int (Int32.ofNat q), .int (Int32.ofNat len)] 7)) (s₁.setTop (mkF m 3 #[.val (.ref b), .val (.int (Int32.ofNat o)), .val (.ref d), .val (.int (Int32.ofNat q)), .val (.int (Int32.ofNat len)), .val (.int 0), .unset] [])) := c1.trans (by
    refine iconstV X0.here hexec rfl 0 (hb hbytes d0) (by decide) ?_
    refine XS.istore X0.here hexec rfl (hb hbytes d1) rfl rfl ?_
    exact Steps.refl _)
  have loop : ∀ (r i : Nat), i + r = len → ∀ (z : Slot), (z = .unset ∨ ∃ w, z = .val w ∧ w.category = 1) → ∀ (Tl : State) (Bk : Cell), Stand p l e { frames := 0, locals := 0, cells := 0, slots := 0 } s m #[.ref b, .int (Int32.ofNat o), .ref d, .int (Int32.ofNat q), .int (Int32.ofNat len)] below meth c Tl ([] ++ copyLocs d q i) 0 0 → Put d Bk s₁ Tl → Laid B Bk q (q + i) (fun j => Value.int (lo8 (cv A (o + (j - q))))) →
      Steps p.tables e below (s₁.setTop (entryFrame m #[.ref b, .int (Int32.ofNat o), .ref d, .int (Int32.ofNat q), .int (Int32.ofNat len)] 7)) (Tl.setTop (mkF m 3 #[.val (.ref b), .val (.int (Int32.ofNat (o + i))), .val (.ref d), .val (.int (Int32.ofNat (q + i))), .val (.int (Int32.ofNat len)), .val (.int (Int32.ofNat i)), z] [])) → ∃ (T' : State) (B' : Cell) (z' : Slot), Stand p l e { frames := 0, locals := 0, cells := 0, slots := 0 } s m #[.ref b, .int (Int32.ofNat o), .ref d, .int (Int32.ofNat q), .int (Int32.ofNat len)] below meth c T' ([] ++ copyLocs d q len) 0 0 ∧ Put d B' s₁ T' ∧ Laid B B' q (q + len) (fun j => Value.int (lo8 (cv A (o + (j - q))))) ∧
      Steps p.tables e below (s₁.setTop (entryFrame m #[.ref b, .int (Int32.ofNat o), .ref d, .int (Int32.ofNat q), .int (Int32.ofNat len)] 7)) (T'.setTop (mkF m 3 #[.val (.ref b), .val (.int (Int32.ofNat (o + len))), .val (.ref d), .val (.int (Int32.ofNat (q + len))), .val (.int (Int32.ofNat len)), .val (.int (Int32.ofNat len)), z'] [])) := by
    intro r
    induction r with
    | zero =>
      intro i hi z hz Tl Bk Xl pl fl cl
      have hil : i = len := by omega
      rw [hil] at Xl fl cl
      exact ⟨Tl, Bk, z, Xl, pl, fl, cl⟩
    | succ r ih =>
      intro i hi z hz Tl Bk Xl pl fl cl
      have all := X0.warmed.alike.symm.trans Xl.warmed.alike
      have hAl := hA0.keep all (pl.other hne hA0.1)
      have hBk := hB0.like all pl.1 fl.1 fl.2.1 fl.2.2.1
      have hlt : q + i < Bk.slots.size := by rw [fl.2.2.1]; omega
      have c3 : Steps p.tables e below (s₁.setTop (entryFrame m #[.ref b, .int (Int32.ofNat o), .ref d, .int (Int32.ofNat q), .int (Int32.ofNat len)] 7)) (Tl.setTop (mkF m 12 #[.val (.ref b), .val (.int (Int32.ofNat (o + i))), .val (.ref d), .val (.int (Int32.ofNat (q + i))), .val (.int (Int32.ofNat len)), .val (.int (Int32.ofNat i)), z] [.int (Int32.ofNat (o + i)), .ref b])) := cl.trans (by
        refine XS.iload Xl.here hexec rfl (hb hbytes d3) rfl ?_
        refine XS.iload Xl.here hexec rfl (hb hbytes d5) rfl ?_
        refine XS.icmpNo Xl.here hexec rfl (hb hbytes d7) rfl (ii_ge_f (lt32 (by omega) (by omega))) ?_
        refine XS.aloadN Xl.here hexec rfl (hb hbytes d10) rfl rfl ?_
        refine XS.iloadN Xl.here hexec rfl (hb hbytes d11) rfl ?_
        exact Steps.refl _)
      have c4 : Steps p.tables e below (s₁.setTop (entryFrame m #[.ref b, .int (Int32.ofNat o), .ref d, .int (Int32.ofNat q), .int (Int32.ofNat len)] 7)) (Tl.setTop (mkF m 13 #[.val (.ref b), .val (.int (Int32.ofNat (o + i))), .val (.ref d), .val (.int (Int32.ofNat (q + i))), .val (.int (Int32.ofNat len)), .val (.int (Int32.ofNat i)), z] [.int (cv A (o + i))])) := c3.trans (by
        refine Xl.aget hexec hAl rfl (hA.get (i := o + i) (by omega)) rfl rfl (hb hbytes d12) ?_
        exact Steps.refl _)
      have c5 : Steps p.tables e below (s₁.setTop (entryFrame m #[.ref b, .int (Int32.ofNat o), .ref d, .int (Int32.ofNat q), .int (Int32.ofNat len)] 7)) (Tl.setTop (mkF m 15 #[.val (.ref b), .val (.int (Int32.ofNat (o + i))), .val (.ref d), .val (.int (Int32.ofNat (q + i))), .val (.int (Int32.ofNat len)), .val (.int (Int32.ofNat i)), .val (.int (cv A (o + i)))] [])) := c4.trans (by
        refine XS.istoreS Xl.here hexec rfl (hb hbytes d13) rfl rfl hz ?_
        exact Steps.refl _)
      have c6 : Steps p.tables e below (s₁.setTop (entryFrame m #[.ref b, .int (Int32.ofNat o), .ref d, .int (Int32.ofNat q), .int (Int32.ofNat len)] 7)) (Tl.setTop (mkF m 31 #[.val (.ref b), .val (.int (Int32.ofNat (o + i))), .val (.ref d), .val (.int (Int32.ofNat (q + i))), .val (.int (Int32.ofNat len)), .val (.int (Int32.ofNat i)), .val (.int (cv A (o + i)))] [.int (lo8 (cv A (o + i))), .int (Int32.ofNat (q + i)), .ref d])) := c5.trans (by
        refine XS.iload Xl.here hexec rfl (hb hbytes d15) rfl ?_
        refine sipushV Xl.here hexec rfl 255 (hb hbytes d17) (by decide) ?_
        refine XS.icmpYes Xl.here hexec rfl (pc0 := 20) rfl (hb hbytes d20) rfl (ii_le_t (hp i (by omega))) (by decide) rfl ?_
        refine XS.aloadN Xl.here hexec rfl (hb hbytes d26) rfl rfl ?_
        refine XS.iloadN Xl.here hexec rfl (hb hbytes d27) rfl ?_
        refine XS.iload Xl.here hexec rfl (hb hbytes d28) rfl ?_
        refine i2b Xl.here hexec rfl (hb hbytes d30) rfl ?_
        exact Steps.refl _)
      obtain ⟨T7, X7, p7, st7⟩ := Xl.aput hexec hBk rfl hlt rfl (fits_lo8 (cv A (o + i))) (g := (mkF m 31 #[.val (.ref b), .val (.int (Int32.ofNat (o + i))), .val (.ref d), .val (.int (Int32.ofNat (q + i))), .val (.int (Int32.ofNat len)), .val (.int (Int32.ofNat i)), .val (.int (cv A (o + i)))] [.int (lo8 (cv A (o + i))), .int (Int32.ofNat (q + i)), .ref d])) rfl (rest := []) rfl (hb hbytes d31)
      have c8 : Steps p.tables e below (s₁.setTop (entryFrame m #[.ref b, .int (Int32.ofNat o), .ref d, .int (Int32.ofNat q), .int (Int32.ofNat len)] 7)) (T7.setTop (mkF m 32 #[.val (.ref b), .val (.int (Int32.ofNat (o + i))), .val (.ref d), .val (.int (Int32.ofNat (q + i))), .val (.int (Int32.ofNat len)), .val (.int (Int32.ofNat i)), .val (.int (cv A (o + i)))] [])) := c6.trans (st7 _ (Steps.refl _))
      have c9 : Steps p.tables e below (s₁.setTop (entryFrame m #[.ref b, .int (Int32.ofNat o), .ref d, .int (Int32.ofNat q), .int (Int32.ofNat len)] 7)) (T7.setTop (mkF m 3 #[.val (.ref b), .val (.int (Int32.ofNat (o + i) + 1)), .val (.ref d), .val (.int (Int32.ofNat (q + i) + 1)), .val (.int (Int32.ofNat len)), .val (.int (Int32.ofNat i + 1)), .val (.int (cv A (o + i)))] [])) := c8.trans (by
        refine iincV X7.here hexec rfl 1 (hb hbytes d32) (by decide) rfl rfl ?_
        refine iincV X7.here hexec rfl 1 (hb hbytes d35) (by decide) rfl rfl ?_
        refine iincV X7.here hexec rfl 1 (hb hbytes d38) (by decide) rfl rfl ?_
        refine XS.goto X7.here hexec rfl (pc0 := 41) rfl (hb hbytes d41) (by decide) rfl ?_
        exact Steps.refl _)
      have c10 : Steps p.tables e below (s₁.setTop (entryFrame m #[.ref b, .int (Int32.ofNat o), .ref d, .int (Int32.ofNat q), .int (Int32.ofNat len)] 7)) (T7.setTop (mkF m 3 #[.val (.ref b), .val (.int (Int32.ofNat (o + (i + 1)))), .val (.ref d), .val (.int (Int32.ofNat (q + (i + 1)))), .val (.int (Int32.ofNat len)), .val (.int (Int32.ofNat (i + 1))), .val (.int (cv A (o + i)))] [])) := by
        have := c9
        rw [succ32, succ32, succ32] at this
        exact this
      exact ih (i + 1) (by omega) _ (Or.inr ⟨_, rfl, rfl⟩) T7 _ (by rw [copyLocs_step, ← List.append_assoc]; exact X7) (pl.trans p7) (fl.step (by omega) hlt (by simp)) c10
  obtain ⟨T9, B9, z9, X9, p9, f9, g9⟩ := loop len 0 (by omega) .unset (Or.inl rfl) s₁ B (by simpa [copyLocs] using X0) ⟨hB0.1, fun _ _ => rfl, rfl⟩ (Laid.zero _ _ _) c2
  have c11 : Steps p.tables e below (s₁.setTop (entryFrame m #[.ref b, .int (Int32.ofNat o), .ref d, .int (Int32.ofNat q), .int (Int32.ofNat len)] 7)) (T9.setTop (mkF m 46 #[.val (.ref b), .val (.int (Int32.ofNat (o + len))), .val (.ref d), .val (.int (Int32.ofNat (q + len))), .val (.int (Int32.ofNat len)), .val (.int (Int32.ofNat len)), z9] [.int (Int32.ofNat len)])) := g9.trans (by
    refine XS.iload X9.here hexec rfl (hb hbytes d3) rfl ?_
    refine XS.iload X9.here hexec rfl (hb hbytes d5) rfl ?_
    refine XS.icmpYes X9.here hexec rfl (pc0 := 7) rfl (hb hbytes d7) rfl (ii_ge_t (nlt32 (by omega) (Nat.le_refl _))) (by decide) rfl ?_
    refine XS.iload X9.here hexec rfl (hb hbytes d44) rfl ?_
    exact Steps.refl _)
  exact ⟨T9, some (.int (Int32.ofNat len)), _, _, _, X9, by simp, rfl, rfl, (fun h => by cases h), ⟨rfl, B9, p9.from hh0, f9⟩, fun fs hl => c11.trans (X9.ireturnOut hexec hret rfl (Or.inl rfl) (hb hbytes d46) hl)⟩
end Cmp5
namespace Cmp3
def yN : MethodName := ⟨"java/lang/StringUTF16", "compress", "([CII)[B"⟩
abbrev yB : ByteArray := jdk_52_method_16_code
theorem d0 : decode yB 0 = .ok (.iload_n 2, 1) := by decide +kernel
theorem d1 : decode yB 1 = .ok (.newarray .byte, 2) := by decide +kernel
theorem d3 : decode yB 3 = .ok (.astore_n 3, 1) := by decide +kernel
theorem d4 : decode yB 4 = .ok (.aload_n 0, 1) := by decide +kernel
theorem d5 : decode yB 5 = .ok (.iload_n 1, 1) := by decide +kernel
theorem d6 : decode yB 6 = .ok (.aload_n 3, 1) := by decide +kernel
theorem d7 : decode yB 7 = .ok (.iconst 0, 1) := by decide +kernel
theorem d8 : decode yB 8 = .ok (.iload_n 2, 1) := by decide +kernel
theorem d9 : decode yB 9 = .ok (.invokestatic 115, 3) := by decide +kernel
theorem d12 : decode yB 12 = .ok (.istore 4, 2) := by decide +kernel
theorem d14 : decode yB 14 = .ok (.iload 4, 2) := by decide +kernel
theorem d16 : decode yB 16 = .ok (.iload_n 2, 1) := by decide +kernel
theorem d17 : decode yB 17 = .ok (.if_icmp (.eq) 40, 3) := by decide +kernel
theorem d57 : decode yB 57 = .ok (.aload_n 3, 1) := by decide +kernel
theorem d58 : decode yB 58 = .ok (.areturn, 1) := by decide +kernel
def site : List Cond := [.arrayClass .byte, Cmp5.tab] ++ staticW U16 115 Cmp5.yN
def tab : Cond := tabOf yN yB 6 (some (.array .byte)) site
def P (b : Addr) (A : Cell) (o len : Nat) (args : Array Value) (s : State) : Prop := args = #[.ref b, .int (Int32.ofNat o), .int (Int32.ofNat len)] ∧ Ch b A s ∧ o + len ≤ A.slots.size ∧ len ≤ 536870912 ∧ ∀ i, i < len → ¬ 255 < cv A (o + i)
def E (b : Addr) (A : Cell) (o len : Nat) (r : Option Value) (s u : State) : Prop := NewArr .byte "[B" len (fun j => .int (lo8 (cv A (o + j)))) r s u ∧ u.heap.size = s.heap.size + 1
/-- no char of the range above 255: a new byte[] of their low bytes -/
theorem law (l : Launch) (b : Addr) (A : Cell) (o len : Nat) : Law l yN 3 3 1 18 yB 6 (some (.array .byte)) site (P b A o len) (E b A o len) [] 1 len := by
  refine Law.of_walk (plainFor_of_name (by decide +kernel)) (by decide +kernel) (by decide +kernel) (by decide) (fun _ _ h => by rw [h.1]; rfl) (fun _ U U' hal hh h => ⟨h.1, h.2.1.mv hal hh, h.2.2⟩) (fun r U U' V V' h1 hal h2 h => ⟨NewArr.mv r U U' V V' h1 hal h2 h.1, by rw [h1, h2]; exact h.2⟩) ?_
  intro p e s m args below meth c s₁ X0 hexec hbytes hml hret hlk hnm hown hh0 W hP
  obtain ⟨rfl, hA, l1, l2, hp⟩ := hP
  have a31 := hA.1.2.2.2
  have c1 : Steps p.tables e below (s₁.setTop (entryFrame m #[.ref b, .int (Int32.ofNat o), .int (Int32.ofNat len)] 6)) (s₁.setTop (mkF m 0 #[.val (.ref b), .val (.int (Int32.ofNat o)), .val (.int (Int32.ofNat len)), .unset, .unset, .unset] [])) := entry rfl
  have c2 : Steps p.tables e below (s₁.setTop (entryFrame m #[.ref b, .int (Int32.ofNat o), .int (Int32.ofNat len)] 6)) (s₁.setTop (mkF m 1 #[.val (.ref b), .val (.int (Int32.ofNat o)), .val (.int (Int32.ofNat len)), .unset, .unset, .unset] [.int (Int32.ofNat len)])) := c1.trans (by
    refine XS.iloadN X0.here hexec rfl (hb hbytes d0) rfl ?_
    exact Steps.refl _)
  obtain ⟨T3, B3, X3, ba3, bs3, bv3, bh3, bf3, st3⟩ := X0.anew hexec (atype := .byte) (wk W (.arrayClass .byte)) rfl (by show len * 1 ≤ _; omega) (by omega) (g := (mkF m 1 #[.val (.ref b), .val (.int (Int32.ofNat o)), .val (.int (Int32.ofNat len)), .unset, .unset, .unset] [.int (Int32.ofNat len)])) rfl (hb hbytes d1) (rest := []) rfl (Nat.le_refl _) (by show 0 + len ≤ len; omega)
  rw [hh0] at ba3 st3
  have kp3 : XT.Kept s T3 := (XT.Kept.of_eq hh0).push bh3
  have hA3 := hA.keep X3.warmed.alike (kp3 _ _ hA.1.1)
  have hne : b ≠ s.heap.size := hA.1.ne
  have c4 : Steps p.tables e below (s₁.setTop (entryFrame m #[.ref b, .int (Int32.ofNat o), .int (Int32.ofNat len)] 6)) (T3.setTop (mkF m 3 #[.val (.ref b), .val (.int (Int32.ofNat o)), .val (.int (Int32.ofNat len)), .unset, .unset, .unset] [.ref s.heap.size])) := c2.trans (st3 _ (Steps.refl _))
  have c5 : Steps p.tables e below (s₁.setTop (entryFrame m #[.ref b, .int (Int32.ofNat o), .int (Int32.ofNat len)] 6)) (T3.setTop (mkF m 9 #[.val (.ref b), .val (.int (Int32.ofNat o)), .val (.int (Int32.ofNat len)), .val (.ref s.heap.size), .unset, .unset] [.int (Int32.ofNat len), .int 0, .ref s.heap.size, .int (Int32.ofNat o), .ref b])) := c4.trans (by
    refine XS.astoreN X3.here hexec rfl (hb hbytes d3) rfl rfl rfl ?_
    refine XS.aloadN X3.here hexec rfl (hb hbytes d4) rfl rfl ?_
    refine XS.iloadN X3.here hexec rfl (hb hbytes d5) rfl ?_
    refine XS.aloadN X3.here hexec rfl (hb hbytes d6) rfl rfl ?_
    refine iconstV X3.here hexec rfl 0 (hb hbytes d7) (by decide) ?_
    refine XS.iloadN X3.here hexec rfl (hb hbytes d8) rfl ?_
    exact Steps.refl _)
  obtain ⟨v6, T6, X6, E6, g6⟩ := X3.callS hexec (Cmp5.law l b A s.heap.size B3 o 0 len) hown (wks W (staticW U16 115 Cmp5.yN)) (wk W Cmp5.tab) (W := 0) (Nat.le_of_ble_eq_true rfl) (Nat.le_of_ble_eq_true rfl) (Nat.le_refl _) (by show 0 + len + 0 ≤ len; omega) (g := (mkF m 9 #[.val (.ref b), .val (.int (Int32.ofNat o)), .val (.int (Int32.ofNat len)), .val (.ref s.heap.size), .unset, .unset] [.int (Int32.ofNat len), .int (Int32.ofNat 0), .ref s.heap.size, .int (Int32.ofNat o), .ref b])) rfl (by rw [hml]; rfl) c5 (argsL := [.ref b, .int (Int32.ofNat o), .ref s.heap.size, .int (Int32.ofNat 0), .int (Int32.ofNat len)]) (rest := []) rfl rfl (by show 2 * 0 + 0 ≤ _; decide) (hb hbytes d9) (⟨rfl, hA3, ba3, hne, l1, by rw [bs3]; simp, hp⟩)
  obtain ⟨rfl, B6, p6, f6⟩ := E6
  have c7 : Steps p.tables e below (s₁.setTop (entryFrame m #[.ref b, .int (Int32.ofNat o), .int (Int32.ofNat len)] 6)) (T6.setTop (mkF m 12 #[.val (.ref b), .val (.int (Int32.ofNat o)), .val (.int (Int32.ofNat len)), .val (.ref s.heap.size), .unset, .unset] [.int (Int32.ofNat len)])) := g6
  have c8 : Steps p.tables e below (s₁.setTop (entryFrame m #[.ref b, .int (Int32.ofNat o), .int (Int32.ofNat len)] 6)) (T6.setTop (mkF m 58 #[.val (.ref b), .val (.int (Int32.ofNat o)), .val (.int (Int32.ofNat len)), .val (.ref s.heap.size), .val (.int (Int32.ofNat len)), .unset] [.ref s.heap.size])) := c7.trans (by
    refine XS.istore X6.here hexec rfl (hb hbytes d12) rfl rfl ?_
    refine XS.iload X6.here hexec rfl (hb hbytes d14) rfl ?_
    refine XS.iloadN X6.here hexec rfl (hb hbytes d16) rfl ?_
    refine XS.icmpYes X6.here hexec rfl (pc0 := 17) rfl (hb hbytes d17) rfl (ii_eq_t rfl) (by decide) rfl ?_
    refine XS.aloadN X6.here hexec rfl (hb hbytes d57) rfl rfl ?_
    exact Steps.refl _)
  have X8 := X6.wide (L' := []) (cells' := 1) (slots' := len) (fun x hx hlt => by
    simp only [List.nil_append, copyLocs, List.mem_map, List.mem_range] at hx
    obtain ⟨i, -, rfl⟩ := hx
    exact absurd hlt (Nat.lt_irrefl _)) (Nat.le_refl _) (by omega)
  exact ⟨T6, some (.ref s.heap.size), _, _, _, X8, rfl, rfl, rfl, (fun h => by cases h), ⟨⟨rfl, B6, ba3.like (X3.warmed.alike.symm.trans X6.warmed.alike) p6.1 f6.1 f6.2.1 f6.2.2.1, f6.2.1.trans bv3, by rw [X6.warmed.alike.findClass, f6.1]; exact bf3, by rw [f6.2.2.1, bs3]; simp, fun j hj => by rw [f6.2.2.2 j, if_pos (by omega)]; rfl, kp3.put p6 (Nat.le_refl _)⟩, by rw [p6.2.2, bh3, hh0]; simp⟩, fun fs hl => c8.trans (X8.areturnOut hexec rfl hret rfl (hb hbytes d58) hl)⟩
end Cmp3
namespace CodL
def yN : MethodName := ⟨"java/lang/StringUTF16", "coderFromArrayLen", "([BI)B"⟩
abbrev yB : ByteArray := jdk_52_method_15_code
theorem d0 : decode yB 0 = .ok (.iload_n 1, 1) := by decide +kernel
theorem d1 : decode yB 1 = .ok (.aload_n 0, 1) := by decide +kernel
theorem d2 : decode yB 2 = .ok (.arraylength, 1) := by decide +kernel
theorem d3 : decode yB 3 = .ok (.isub, 1) := by decide +kernel
theorem d4 : decode yB 4 = .ok (.bipush 31, 2) := by decide +kernel
theorem d6 : decode yB 6 = .ok (.iushr, 1) := by decide +kernel
theorem d7 : decode yB 7 = .ok (.i2b, 1) := by decide +kernel
theorem d8 : decode yB 8 = .ok (.ireturn, 1) := by decide +kernel
def site : List Cond := []
def tab : Cond := tabOf yN yB 2 (some .byte) site
def P (d : Addr) (B : Cell) (args : Array Value) (s : State) : Prop := args = #[.ref d, .int (Int32.ofNat B.slots.size)] ∧ Arr .byte d B s
def E (r : Option Value) (s u : State) : Prop := XT.PureE (some (.int 0)) r s u
/-- an array as long as the number of chars: LATIN1 -/
theorem law (l : Launch) (d : Addr) (B : Cell) : Law l yN 2 2 0 0 yB 2 (some .byte) site (P d B) E [] 0 0 := by
  refine Law.of_walk (plainFor_of_name (by decide +kernel)) (by decide +kernel) (by decide +kernel) (by decide) (fun _ _ h => by rw [h.1]; rfl) (fun _ U U' hal hh h => ⟨h.1, h.2.mv hal hh⟩) (fun r U U' V V' h1 hal h2 h => XT.PureE.mv r U U' V V' h1 hal h2 h) ?_
  intro p e s m args below meth c s₁ X0 hexec hbytes hml hret hlk hnm hown hh0 W hP
  obtain ⟨rfl, hB⟩ := hP
  have hB0 := hB.mv X0.warmed.alike hh0
  have c1 : Steps p.tables e below (s₁.setTop (entryFrame m #[.ref d, .int (Int32.ofNat B.slots.size)] 2)) (s₁.setTop (mkF m 0 #[.val (.ref d), .val (.int (Int32.ofNat B.slots.size))] [])) := entry rfl
  have c2 : Steps p.tables e below (s₁.setTop (entryFrame m #[.ref d, .int (Int32.ofNat B.slots.size)] 2)) (s₁.setTop (mkF m 2 #[.val (.ref d), .val (.int (Int32.ofNat B.slots.size))] [.ref d, .int (Int32.ofNat B.slots.size)])) := c1.trans (by
    refine XS.iloadN X0.here hexec rfl (hb hbytes d0) rfl ?_
    refine XS.aloadN X0.here hexec rfl (hb hbytes d1) rfl rfl ?_
    exact Steps.refl _)
  have c3 : Steps p.tables e below (s₁.setTop (entryFrame m #[.ref d, .int (Int32.ofNat B.slots.size)] 2)) (s₁.setTop (mkF m 8 #[.val (.ref d), .val (.int (Int32.ofNat B.slots.size))] [.int (lo8 (ushr (Int32.ofNat B.slots.size - Int32.ofNat B.slots.size) 31))])) := c2.trans (by
    refine X0.alen hexec hB0 rfl rfl (hb hbytes d2) ?_
    refine XS.isub X0.here hexec rfl (hb hbytes d3) rfl ?_
    refine bipushV X0.here hexec rfl 31 (hb hbytes d4) (by decide) ?_
    refine iushr X0.here hexec rfl (hb hbytes d6) rfl ?_
    refine i2b X0.here hexec rfl (hb hbytes d7) rfl ?_
    exact Steps.refl _)
  have e0 : lo8 (ushr (Int32.ofNat B.slots.size - Int32.ofNat B.slots.size) 31) = 0 := by rw [Int32.sub_self]; decide
  rw [e0] at c3
  exact ⟨s₁, some (.int 0), _, _, _, X0, rfl, rfl, rfl, (fun h => by cases h), ⟨rfl, hh0⟩, fun fs hl => c3.trans (X0.ireturnOut hexec hret rfl (Or.inr (Or.inr (Or.inl rfl))) (hb hbytes d8) hl)⟩
end CodL
/-- the String at a is Latin-1 over a new byte[] (the heap's one new cell): the low bytes of the len chars of A from o on; every cell but a is kept -/
def Got (a : Addr) (D : Cell) (fV fC : Field) (A : Cell) (o len : Nat) (r : Option Value) (s u : State) : Prop := r = none ∧ ∃ D' V : Cell, Blank "java/lang/String" a D' u ∧ Same D D' [fV.slot, fC.slot] ∧ D'.slots[fV.slot]? = some (.ref s.heap.size) ∧ D'.slots[fC.slot]? = some (.int 0) ∧ Arr .byte s.heap.size V u ∧ V.vm = .none ∧ u.vm.findClass "[B" = some V.cls ∧ V.slots.size = len ∧ (∀ j, j < len → V.slots[j]? = some (.int (lo8 (cv A (o + j))))) ∧ (∀ (y : Addr) (c : Cell), y ≠ a → s.heap[y]? = some c → u.heap[y]? = some c) ∧ u.heap.size = s.heap.size + 1
theorem Got.mv {a : Addr} {D A : Cell} {fV fC : Field} {o len : Nat} : ∀ r (U U' V V' : State), U'.heap = U.heap → V.vm.Alike V'.vm → V'.heap = V.heap → Got a D fV fC A o len r U V → Got a D fV fC A o len r U' V' :=
  fun r U U' V V' h1 hal h2 ⟨e0, D', X, a1, a2, a3, a4, a5, a6, a7, a8, a9, a10, a11⟩ => ⟨e0, D', X, a1.mv hal h2, a2, by rw [h1]; exact a3, a4, by rw [h1]; exact a5.mv hal h2, a6, by rw [hal.findClass]; exact a7, a8, a9, by rw [h1, h2]; exact a10, by rw [h1, h2]; exact a11⟩
namespace New4
def yN : MethodName := ⟨"java/lang/String", "<init>", "([CIILjava/lang/Void;)V"⟩
abbrev yB : ByteArray := jdk_42_method_149_code
theorem d0 : decode yB 0 = .ok (.aload_n 0, 1) := by decide +kernel
theorem d1 : decode yB 1 = .ok (.invokespecial 1, 3) := by decide +kernel
theorem d4 : decode yB 4 = .ok (.iload_n 3, 1) := by decide +kernel
theorem d5 : decode yB 5 = .ok (.ifCond (.ne) 22, 3) := by decide +kernel
theorem d27 : decode yB 27 = .ok (.getstatic 38, 3) := by decide +kernel
theorem d30 : decode yB 30 = .ok (.ifCond (.eq) 28, 3) := by decide +kernel
theorem d33 : decode yB 33 = .ok (.aload_n 1, 1) := by decide +kernel
theorem d34 : decode yB 34 = .ok (.iload_n 2, 1) := by decide +kernel
theorem d35 : decode yB 35 = .ok (.iload_n 3, 1) := by decide +kernel
theorem d36 : decode yB 36 = .ok (.invokestatic 177, 3) := by decide +kernel
theorem d39 : decode yB 39 = .ok (.astore 5, 2) := by decide +kernel
theorem d41 : decode yB 41 = .ok (.aload_n 0, 1) := by decide +kernel
theorem d42 : decode yB 42 = .ok (.aload 5, 2) := by decide +kernel
theorem d44 : decode yB 44 = .ok (.iload_n 3, 1) := by decide +kernel
theorem d45 : decode yB 45 = .ok (.invokestatic 47, 3) := by decide +kernel
theorem d48 : decode yB 48 = .ok (.putfield 15, 3) := by decide +kernel
theorem d51 : decode yB 51 = .ok (.aload_n 0, 1) := by decide +kernel
theorem d52 : decode yB 52 = .ok (.aload 5, 2) := by decide +kernel
theorem d54 : decode yB 54 = .ok (.putfield 9, 3) := by decide +kernel
theorem d57 : decode yB 57 = .ok (.return_, 1) := by decide +kernel
def site : List Cond := [.fieldLink "java/lang/String" 38 "java/lang/String" "COMPACT_STRINGS" "Z", Cmp3.tab, CodL.tab, .laysFinal "java/lang/String" "java/lang/String" "value" "[B", .fieldLink "java/lang/String" 9 "java/lang/String" "value" "[B", .laysFinal "java/lang/String" "java/lang/String" "coder" "B", .fieldLink "java/lang/String" 15 "java/lang/String" "coder" "B"] ++ objW "java/lang/String" 1 ++ staticW "java/lang/String" 177 Cmp3.yN ++ staticW "java/lang/String" 47 CodL.yN
def tab : Cond := tabOf yN yB 6 none site
def P (a : Addr) (D : Cell) (fV fC : Field) (b : Addr) (A : Cell) (z : Int32) (o len : Nat) (args : Array Value) (s : State) : Prop := args = #[.ref a, .ref b, .int (Int32.ofNat o), .int (Int32.ofNat len), .null] ∧ Blank "java/lang/String" a D s ∧ Found "java/lang/String" "value" "[B" fV s ∧ Found "java/lang/String" "coder" "B" fC s ∧ Ch b A s ∧ StaticIs s "java/lang/String" "COMPACT_STRINGS" "Z" (.int z) ∧ ¬ z = 0 ∧ 0 < len ∧ o + len ≤ A.slots.size ∧ len ≤ 536870912 ∧ ∀ i, i < len → ¬ 255 < cv A (o + i)
def E (a : Addr) (D : Cell) (fV fC : Field) (A : Cell) (o len : Nat) (r : Option Value) (s u : State) : Prop := Got a D fV fC A o len r s u
/-- len > 0, no char of the range above 255: a Latin-1 String of their low bytes -/
theorem law (l : Launch) (a : Addr) (D : Cell) (fV fC : Field) (b : Addr) (A : Cell) (z : Int32) (o len : Nat) : Law l yN 5 4 2 35 yB 6 none site (P a D fV fC b A z o len) (E a D fV fC A o len) [⟨a, fC.slot⟩, ⟨a, fV.slot⟩] 1 len := by
  refine Law.of_walk (plainFor_of_name (by decide +kernel)) (by decide +kernel) (by decide +kernel) (by decide) (fun _ _ h => by rw [h.1]; rfl) (fun _ U U' hal hh h => ⟨h.1, h.2.1.mv hal hh, h.2.2.1.al hal, h.2.2.2.1.al hal, h.2.2.2.2.1.mv hal hh, h.2.2.2.2.2.1.there hal hh, h.2.2.2.2.2.2⟩) (fun r U U' V V' h1 hal h2 h => Got.mv r U U' V V' h1 hal h2 h) ?_
  intro p e s m args below meth c s₁ X0 hexec hbytes hml hret hlk hnm hown hh0 W hP
  obtain ⟨rfl, hB, f1, f2, hA, s1, hz, l0, l1, l2, hp⟩ := hP
  have a31 := hA.1.2.2.2
  have c1 : Steps p.tables e below (s₁.setTop (entryFrame m #[.ref a, .ref b, .int (Int32.ofNat o), .int (Int32.ofNat len), .null] 6)) (s₁.setTop (mkF m 0 #[.val (.ref a), .val (.ref b), .val (.int (Int32.ofNat o)), .val (.int (Int32.ofNat len)), .val .null, .unset] [])) := entry rfl
  have c2 : Steps p.tables e below (s₁.setTop (entryFrame m #[.ref a, .ref b, .int (Int32.ofNat o), .int (Int32.ofNat len), .null] 6)) (s₁.setTop (mkF m 1 #[.val (.ref a), .val (.ref b), .val (.int (Int32.ofNat o)), .val (.int (Int32.ofNat len)), .val .null, .unset] [.ref a])) := c1.trans (by
    refine XS.aloadN X0.here hexec rfl (hb hbytes d0) rfl rfl ?_
    exact Steps.refl _)
  obtain ⟨T3, X3, q3, st3⟩ := X0.oinit hexec hown (wks W (objW "java/lang/String" 1)) (g := (mkF m 1 #[.val (.ref a), .val (.ref b), .val (.int (Int32.ofNat o)), .val (.int (Int32.ofNat len)), .val .null, .unset] [.ref a])) rfl (by rw [hml]; rfl) (rest := []) rfl (hb hbytes d1) (W := 0) (by show 2 * 0 + 0 ≤ _; decide) (Nat.le_of_ble_eq_true rfl) (Nat.le_of_ble_eq_true rfl)
  have hh3 := q3.trans hh0
  have c4 : Steps p.tables e below (s₁.setTop (entryFrame m #[.ref a, .ref b, .int (Int32.ofNat o), .int (Int32.ofNat len), .null] 6)) (T3.setTop (mkF m 27 #[.val (.ref a), .val (.ref b), .val (.int (Int32.ofNat o)), .val (.int (Int32.ofNat len)), .val .null, .unset] [])) := (c2.trans (st3 _ (Steps.refl _))).trans (by
    refine XS.iloadN X3.here hexec rfl (hb hbytes d4) rfl ?_
    refine XS.ifYes X3.here hexec rfl (pc0 := 5) rfl (hb hbytes d5) rfl (i0_ne_t (nz32 (by omega) l0)) (by decide) rfl ?_
    exact Steps.refl _)
  obtain ⟨T5, X5, q5, st5⟩ := X3.sget hexec hown (wk W (.fieldLink "java/lang/String" 38 "java/lang/String" "COMPACT_STRINGS" "Z")) s1 (fun _ _ h => by rw [hh3]; exact h) (g := (mkF m 27 #[.val (.ref a), .val (.ref b), .val (.int (Int32.ofNat o)), .val (.int (Int32.ofNat len)), .val .null, .unset] [])) rfl (hb hbytes d27)
  have hh5 := q5.trans hh3
  have c6 : Steps p.tables e below (s₁.setTop (entryFrame m #[.ref a, .ref b, .int (Int32.ofNat o), .int (Int32.ofNat len), .null] 6)) (T5.setTop (mkF m 30 #[.val (.ref a), .val (.ref b), .val (.int (Int32.ofNat o)), .val (.int (Int32.ofNat len)), .val .null, .unset] [.int z])) := c4.trans (st5 _ (Steps.refl _))
  have c7 : Steps p.tables e below (s₁.setTop (entryFrame m #[.ref a, .ref b, .int (Int32.ofNat o), .int (Int32.ofNat len), .null] 6)) (T5.setTop (mkF m 36 #[.val (.ref a), .val (.ref b), .val (.int (Int32.ofNat o)), .val (.int (Int32.ofNat len)), .val .null, .unset] [.int (Int32.ofNat len), .int (Int32.ofNat o), .ref b])) := c6.trans (by
    refine XS.ifNo X5.here hexec rfl (hb hbytes d30) rfl (i0_eq_f hz) ?_
    refine XS.aloadN X5.here hexec rfl (hb hbytes d33) rfl rfl ?_
    refine XS.iloadN X5.here hexec rfl (hb hbytes d34) rfl ?_
    refine XS.iloadN X5.here hexec rfl (hb hbytes d35) rfl ?_
    exact Steps.refl _)
  obtain ⟨v8, T8, X8, E8, g8⟩ := X5.callS hexec (Cmp3.law l b A o len) hown (wks W (staticW "java/lang/String" 177 Cmp3.yN)) (wk W Cmp3.tab) (W := 0) (Nat.le_of_ble_eq_true rfl) (Nat.le_of_ble_eq_true rfl) (Nat.le_refl _) (by show 0 + len ≤ len; omega) (g := (mkF m 36 #[.val (.ref a), .val (.ref b), .val (.int (Int32.ofNat o)), .val (.int (Int32.ofNat len)), .val .null, .unset] [.int (Int32.ofNat len), .int (Int32.ofNat o), .ref b])) rfl (by rw [hml]; rfl) c7 (argsL := [.ref b, .int (Int32.ofNat o), .int (Int32.ofNat len)]) (rest := []) rfl rfl (by show 2 * 0 + 0 ≤ _; decide) (hb hbytes d36) (⟨rfl, hA.mv X5.warmed.alike hh5, l1, l2, hp⟩)
  obtain ⟨e8, z8⟩ := E8
  obtain ⟨rfl, N, n1, n2, n3, n4, n5, n6⟩ := NewArr.mv _ T5 s _ _ hh5.symm (Vm.Alike.refl _) rfl e8
  rw [hh5] at z8
  have hB1 := hB.keep X8.warmed.alike (n6 _ _ hB.1)
  have hne : s.heap.size ≠ a := (Nat.ne_of_lt (Array.getElem?_eq_some_iff.mp hB.1).1).symm
  have c9 : Steps p.tables e below (s₁.setTop (entryFrame m #[.ref a, .ref b, .int (Int32.ofNat o), .int (Int32.ofNat len), .null] 6)) (T8.setTop (mkF m 39 #[.val (.ref a), .val (.ref b), .val (.int (Int32.ofNat o)), .val (.int (Int32.ofNat len)), .val .null, .unset] [.ref s.heap.size])) := g8
  have c10 : Steps p.tables e below (s₁.setTop (entryFrame m #[.ref a, .ref b, .int (Int32.ofNat o), .int (Int32.ofNat len), .null] 6)) (T8.setTop (mkF m 45 #[.val (.ref a), .val (.ref b), .val (.int (Int32.ofNat o)), .val (.int (Int32.ofNat len)), .val .null, .val (.ref s.heap.size)] [.int (Int32.ofNat N.slots.size), .ref s.heap.size, .ref a])) := by
    have hc : Steps p.tables e below (s₁.setTop (entryFrame m #[.ref a, .ref b, .int (Int32.ofNat o), .int (Int32.ofNat len), .null] 6)) (T8.setTop (mkF m 45 #[.val (.ref a), .val (.ref b), .val (.int (Int32.ofNat o)), .val (.int (Int32.ofNat len)), .val .null, .val (.ref s.heap.size)] [.int (Int32.ofNat len), .ref s.heap.size, .ref a])) := c9.trans (by
      refine XS.astore X8.here hexec rfl (hb hbytes d39) rfl rfl rfl ?_
      refine XS.aloadN X8.here hexec rfl (hb hbytes d41) rfl rfl ?_
      refine XS.aload X8.here hexec rfl (hb hbytes d42) rfl rfl ?_
      refine XS.iloadN X8.here hexec rfl (hb hbytes d44) rfl ?_
      exact Steps.refl _)
    rw [n4]; exact hc
  obtain ⟨v11, T11, X11, E11, g11⟩ := X8.callS hexec (CodL.law l s.heap.size N) hown (wks W (staticW "java/lang/String" 47 CodL.yN)) (wk W CodL.tab) (W := 1) (Nat.le_of_ble_eq_true rfl) (Nat.le_of_ble_eq_true rfl) (Nat.le_refl _) (by show 0 + len + 0 ≤ len; omega) (g := (mkF m 45 #[.val (.ref a), .val (.ref b), .val (.int (Int32.ofNat o)), .val (.int (Int32.ofNat len)), .val .null, .val (.ref s.heap.size)] [.int (Int32.ofNat N.slots.size), .ref s.heap.size, .ref a])) rfl (by rw [hml]; rfl) c10 (argsL := [.ref s.heap.size, .int (Int32.ofNat N.slots.size)]) (rest := [.ref a]) rfl rfl (by show 2 * 0 + (1 + 0) ≤ _; decide) (hb hbytes d45) (⟨rfl, n1⟩)
  obtain ⟨rfl, q11⟩ := E11
  have hB11 := hB1.mv (X8.warmed.alike.symm.trans X11.warmed.alike) q11
  have c12 : Steps p.tables e below (s₁.setTop (entryFrame m #[.ref a, .ref b, .int (Int32.ofNat o), .int (Int32.ofNat len), .null] 6)) (T11.setTop (mkF m 48 #[.val (.ref a), .val (.ref b), .val (.int (Int32.ofNat o)), .val (.int (Int32.ofNat len)), .val .null, .val (.ref s.heap.size)] [.int 0, .ref a])) := g11
  obtain ⟨T13, X13, p13, bl13, sl13, st13⟩ := X11.finit hexec hown (wk W (.fieldLink "java/lang/String" 15 "java/lang/String" "coder" "B")) (Or.inr ⟨_, (wk W (.laysFinal "java/lang/String" "java/lang/String" "coder" "B"))⟩) (Or.inl ⟨rfl, hnm⟩) f2 (Or.inl rfl) hB11 (t := .byte) (by decide +kernel) rfl (g := (mkF m 48 #[.val (.ref a), .val (.ref b), .val (.int (Int32.ofNat o)), .val (.int (Int32.ofNat len)), .val .null, .val (.ref s.heap.size)] [.int 0, .ref a])) rfl (rest := []) rfl (hb hbytes d48)
  have c14 : Steps p.tables e below (s₁.setTop (entryFrame m #[.ref a, .ref b, .int (Int32.ofNat o), .int (Int32.ofNat len), .null] 6)) (T13.setTop (mkF m 54 #[.val (.ref a), .val (.ref b), .val (.int (Int32.ofNat o)), .val (.int (Int32.ofNat len)), .val .null, .val (.ref s.heap.size)] [.ref s.heap.size, .ref a])) := (c12.trans (st13 _ (Steps.refl _))).trans (by
    refine XS.aloadN X13.here hexec rfl (hb hbytes d51) rfl rfl ?_
    refine XS.aload X13.here hexec rfl (hb hbytes d52) rfl rfl ?_
    exact Steps.refl _)
  obtain ⟨T15, X15, p15, bl15, sl15, st15⟩ := X13.finit hexec hown (wk W (.fieldLink "java/lang/String" 9 "java/lang/String" "value" "[B")) (Or.inr ⟨_, (wk W (.laysFinal "java/lang/String" "java/lang/String" "value" "[B"))⟩) (Or.inl ⟨rfl, hnm⟩) f1 (Or.inl rfl) bl13 (t := (.array .byte)) (by decide +kernel) rfl (g := (mkF m 54 #[.val (.ref a), .val (.ref b), .val (.int (Int32.ofNat o)), .val (.int (Int32.ofNat len)), .val .null, .val (.ref s.heap.size)] [.ref s.heap.size, .ref a])) rfl (rest := []) rfl (hb hbytes d54)
  have c16 : Steps p.tables e below (s₁.setTop (entryFrame m #[.ref a, .ref b, .int (Int32.ofNat o), .int (Int32.ofNat len), .null] 6)) (T15.setTop (mkF m 57 #[.val (.ref a), .val (.ref b), .val (.int (Int32.ofNat o)), .val (.int (Int32.ofNat len)), .val .null, .val (.ref s.heap.size)] [])) := c14.trans (st15 _ (Steps.refl _))
  have ap := apart (Or.inr ⟨_, (wk W (.laysFinal "java/lang/String" "java/lang/String" "value" "[B"))⟩) (Or.inr ⟨_, (wk W (.laysFinal "java/lang/String" "java/lang/String" "coder" "B"))⟩) f1 f2 (t₁ := .array .byte) (t₂ := .byte) (by decide +kernel) (by decide +kernel) (by decide)
  have al := X8.warmed.alike.symm.trans X15.warmed.alike
  have n7 : T11.heap[s.heap.size]? = some N := by rw [q11]; exact n1.1
  exact ⟨T15, none, _, _, _, X15, by simp, rfl, by omega, (fun _ => rfl), ⟨rfl, _, N, bl15, ((Same.refl D _).set _ (by simp)).set _ (by simp), sl15, (Cell.slots_setSlot_ne _ ap).trans sl13, n1.keep al (p15.other hne (p13.other hne n7)), n2, by rw [al.findClass]; exact n3, n4, n5, fun y c h1 h2 => p15.other h1 (p13.other h1 (by rw [q11]; exact n6 y c h2)), by rw [p15.2.2, p13.2.2, q11]; exact z8⟩, fun fs hl => c16.trans (X15.returnOut hexec hret (hb hbytes d57) hl)⟩
end New4
namespace New1
def yN : MethodName := ⟨"java/lang/String", "<init>", "([C)V"⟩
abbrev yB : ByteArray := jdk_42_method_3_code
theorem d0 : decode yB 0 = .ok (.aload_n 0, 1) := by decide +kernel
theorem d1 : decode yB 1 = .ok (.aload_n 1, 1) := by decide +kernel
theorem d2 : decode yB 2 = .ok (.iconst 0, 1) := by decide +kernel
theorem d3 : decode yB 3 = .ok (.aload_n 1, 1) := by decide +kernel
theorem d4 : decode yB 4 = .ok (.arraylength, 1) := by decide +kernel
theorem d5 : decode yB 5 = .ok (.aconst_null, 1) := by decide +kernel
theorem d6 : decode yB 6 = .ok (.invokespecial 27, 3) := by decide +kernel
theorem d9 : decode yB 9 = .ok (.return_, 1) := by decide +kernel
def site : List Cond := [New4.tab] ++ initW "java/lang/String" 27 New4.yN
def tab : Cond := tabOf yN yB 2 none site
def P (a : Addr) (D : Cell) (fV fC : Field) (b : Addr) (A : Cell) (z : Int32) (args : Array Value) (s : State) : Prop := args = #[.ref a, .ref b] ∧ Blank "java/lang/String" a D s ∧ Found "java/lang/String" "value" "[B" fV s ∧ Found "java/lang/String" "coder" "B" fC s ∧ Ch b A s ∧ StaticIs s "java/lang/String" "COMPACT_STRINGS" "Z" (.int z) ∧ ¬ z = 0 ∧ 0 < A.slots.size ∧ A.slots.size ≤ 536870912 ∧ ∀ i, i < A.slots.size → ¬ 255 < cv A i
def E (a : Addr) (D : Cell) (fV fC : Field) (A : Cell) (r : Option Value) (s u : State) : Prop := Got a D fV fC A 0 A.slots.size r s u
/-- new String(chars), not empty, no char above 255: a Latin-1 String of their low bytes -/
theorem law (l : Launch) (a : Addr) (D : Cell) (fV fC : Field) (b : Addr) (A : Cell) (z : Int32) : Law l yN 2 1 3 52 yB 2 none site (P a D fV fC b A z) (E a D fV fC A) [⟨a, fC.slot⟩, ⟨a, fV.slot⟩] 1 A.slots.size := by
  refine Law.of_walk (plainFor_of_name (by decide +kernel)) (by decide +kernel) (by decide +kernel) (by decide) (fun _ _ h => by rw [h.1]; rfl) (fun _ U U' hal hh h => ⟨h.1, h.2.1.mv hal hh, h.2.2.1.al hal, h.2.2.2.1.al hal, h.2.2.2.2.1.mv hal hh, h.2.2.2.2.2.1.there hal hh, h.2.2.2.2.2.2⟩) (fun r U U' V V' h1 hal h2 h => Got.mv r U U' V V' h1 hal h2 h) ?_
  intro p e s m args below meth c s₁ X0 hexec hbytes hml hret hlk hnm hown hh0 W hP
  obtain ⟨rfl, hB, f1, f2, hA, s1, hz, l0, l2, hp⟩ := hP
  have c1 : Steps p.tables e below (s₁.setTop (entryFrame m #[.ref a, .ref b] 2)) (s₁.setTop (mkF m 0 #[.val (.ref a), .val (.ref b)] [])) := entry rfl
  have c2 : Steps p.tables e below (s₁.setTop (entryFrame m #[.ref a, .ref b] 2)) (s₁.setTop (mkF m 6 #[.val (.ref a), .val (.ref b)] [.null, .int (Int32.ofNat A.slots.size), .int 0, .ref b, .ref a])) := c1.trans (by
    refine XS.aloadN X0.here hexec rfl (hb hbytes d0) rfl rfl ?_
    refine XS.aloadN X0.here hexec rfl (hb hbytes d1) rfl rfl ?_
    refine iconstV X0.here hexec rfl 0 (hb hbytes d2) (by decide) ?_
    refine XS.aloadN X0.here hexec rfl (hb hbytes d3) rfl rfl ?_
    refine X0.alen hexec (hA.1.mv X0.warmed.alike hh0) rfl rfl (hb hbytes d4) ?_
    refine XS.aconstNull X0.here hexec rfl (hb hbytes d5) ?_
    exact Steps.refl _)
  obtain ⟨v3, T3, X3, E3, g3⟩ := X0.callN hexec (New4.law l a D fV fC b A z 0 A.slots.size) rfl hown (wks W (initW "java/lang/String" 27 New4.yN)) (W New4.tab (by simp only [site, List.mem_cons, List.mem_append, true_or, or_true])) (W := 0) (Nat.le_of_ble_eq_true rfl) (Nat.le_of_ble_eq_true rfl) (Nat.le_refl _) (by show 0 + A.slots.size ≤ A.slots.size; omega) (g := (mkF m 6 #[.val (.ref a), .val (.ref b)] [.null, .int (Int32.ofNat A.slots.size), .int (Int32.ofNat 0), .ref b, .ref a])) rfl (by rw [hml]; rfl) c2 (argsL := [.ref b, .int (Int32.ofNat 0), .int (Int32.ofNat A.slots.size), .null]) (rest := []) rfl rfl (by show 2 * 0 + 0 ≤ _; decide) (hb hbytes d6) (⟨rfl, hB.mv X0.warmed.alike hh0, f1.al X0.warmed.alike, f2.al X0.warmed.alike, hA.mv X0.warmed.alike hh0, s1.there X0.warmed.alike hh0, hz, l0, by omega, l2, fun i hi => by rw [Nat.zero_add]; exact hp i hi⟩)
  have e0 := Got.mv _ s₁ s _ _ hh0.symm (Vm.Alike.refl _) rfl E3
  obtain rfl := e0.1
  have c4 : Steps p.tables e below (s₁.setTop (entryFrame m #[.ref a, .ref b] 2)) (T3.setTop (mkF m 9 #[.val (.ref a), .val (.ref b)] [])) := g3
  exact ⟨T3, none, _, _, _, X3, by simp, rfl, by omega, (fun _ => rfl), e0, fun fs hl => c4.trans (X3.returnOut hexec hret (hb hbytes d9) hl)⟩
theorem pays {l : Launch} {R : Room} {p : Program} {e : Env} {below : List Frame} {s : State} {sargs : Array Value} {len W : Nat} (a : Addr) (D : Cell) (fV fC : Field) (b : Addr) (A : Cell) (z : Int32) (htab : tab.before sargs s = true) (hfr : 4 ≤ R.frames) (hlo : W + 65 ≤ R.locals) :
    Back l R p e below s sargs yN len W (fun A₁ a₁ => A₁.cells + 1 ≤ R.cells ∧ A₁.slots + A.slots.size ≤ R.slots ∧ P a D fV fC b A z a₁ A₁.U) (fun A₁ _ v₁ B₁ => E a D fV fC A v₁ A₁.U B₁.U ∧ B₁.locs = A₁.locs ++ [⟨a, fC.slot⟩, ⟨a, fV.slot⟩] ∧ B₁.cells = A₁.cells + 1 ∧ B₁.slots = A₁.slots + A.slots.size) :=
  (law l a D fV fC b A z).pays htab hfr (by omega)
end New1
/-- the byte, read back as charAt reads it, is the char -/
theorem lo8_mask {x : Int32} (h0 : ¬ x < 0) (h1 : ¬ 255 < x) : lo8 x &&& 255 = x := by
  have t : ∀ k : Fin 256, lo8 (Int32.ofNat k.val) &&& 255 = Int32.ofNat k.val := by decide +kernel
  rw [Int32.lt_iff_toInt_lt] at h0 h1
  have e0 : (0 : Int32).toInt = 0 := rfl
  have e1 : (255 : Int32).toInt = 255 := rfl
  obtain ⟨k, hk⟩ : ∃ k : Nat, x.toInt = k := ⟨x.toInt.toNat, by omega⟩
  have hx : x = Int32.ofNat k := Int32.toInt_inj.mp (by rw [hk, Int32.toInt_ofNat_small (by omega)])
  rw [hx]
  exact t ⟨k, by omega⟩
end StrChars
namespace StrChars.Road
open Jvm Sem ClassFile Op Lib Jvm.Stand Jvm.Free Jvm.Free.XT
open Jvm.Lib.Cold (StaticIs)
abbrev ST : String := "java/lang/String"
/-- every table word that New1's law asks, flat -/
abbrev words : List Jvm.Cond := [.code New1.yN New1.yB 2 none, .initialized ST, .methodLink ST 27 New4.yN, .instanceMethod New4.yN,
  .code New4.yN New4.yB 6 none, .fieldLink ST 38 ST "COMPACT_STRINGS" "Z", .laysFinal ST ST "value" "[B", .fieldLink ST 9 ST "value" "[B", .laysFinal ST ST "coder" "B", .fieldLink ST 15 ST "coder" "B",
  .methodLink ST 1 Lib.objectInit, .instanceMethod Lib.objectInit, .code Lib.objectInit ⟨#[0xb1]⟩ 1 none, .methodLink ST 177 Cmp3.yN, .static Cmp3.yN, .methodLink ST 47 CodL.yN, .static CodL.yN,
  .code Cmp3.yN Cmp3.yB 6 (some (.array .byte)), .initialized U16, .arrayClass .byte, .methodLink U16 115 Cmp5.yN, .static Cmp5.yN, .code Cmp5.yN Cmp5.yB 7 (some .int), .code CodL.yN CodL.yB 2 (some .byte)]
theorem tab_of {a : Array Value} {s : State} (h : ∀ w ∈ words, w.before a s = true) : New1.tab.before a s = true := by
  have h5 : Cmp5.tab.before a s = true := unparts (wk h (.code Cmp5.yN Cmp5.yB 7 (some .int))) (wks h (.initialized Cmp5.yN.cls :: Cmp5.site))
  have hc : CodL.tab.before a s = true := unparts (wk h (.code CodL.yN CodL.yB 2 (some .byte))) (wks h (.initialized CodL.yN.cls :: CodL.site))
  have q5 : ∀ w ∈ Cmp5.tab :: words, w.before a s = true := fun w hw => (List.mem_cons.mp hw).elim (fun e => e ▸ h5) (h w)
  have h3 : Cmp3.tab.before a s = true := unparts (wk q5 (.code Cmp3.yN Cmp3.yB 6 (some (.array .byte)))) (wks q5 (.initialized Cmp3.yN.cls :: Cmp3.site))
  have q3 : ∀ w ∈ Cmp3.tab :: CodL.tab :: words, w.before a s = true := fun w hw => (List.mem_cons.mp hw).elim (fun e => e ▸ h3) fun hw => (List.mem_cons.mp hw).elim (fun e => e ▸ hc) (h w)
  have h4 : New4.tab.before a s = true := unparts (wk q3 (.code New4.yN New4.yB 6 none)) (wks q3 (.initialized New4.yN.cls :: New4.site))
  have q4 : ∀ w ∈ New4.tab :: words, w.before a s = true := fun w hw => (List.mem_cons.mp hw).elim (fun e => e ▸ h4) (h w)
  exact unparts (wk q4 (.code New1.yN New1.yB 2 none)) (wks q4 (.initialized New1.yN.cls :: New1.site))
/-- the words ride from the start Z to the walk's own state -/
theorem moved {Z s : State} {a0 args : Array Value} (hZ : Z.Warmed39 s.vm) (hw : ∀ d ∈ words, d.before a0 Z = true) : ∀ d ∈ words, d.before args s = true := fun d hd => by
  have q := hw d hd
  have t : ∀ d ∈ words, d = .arrayClass .byte ∨ (d.onTables && d.keepsFace) = true := by decide +kernel
  rcases t d hd with rfl | t
  · exact RoadKit.mvA hZ q
  · exact RoadKit.mv hZ q t
/-- WHAT COMES BACK, over the tables of the start Z: h the heap at the call, h' behind it -/
def Q (Z : State) (x : Addr) (A : Cell) (h : Heap) (v : Option Value) (h' : Heap) (L : List Loc) : Prop := v = none ∧ (∀ y ∈ L, y.base = x) ∧ RoadKit.Keep h h' [x] ∧ h'.size = h.size + 1 ∧ RoadKit.Exa Z h' x ST ∧ RoadKit.Fld Z h' x ST "value" "[B" (.ref h.size) ∧ RoadKit.Fld Z h' x ST "coder" "B" (.int 0) ∧
  (∃ V : Cell, RoadKit.Arr Z h' h.size V .byte ∧ V.vm = .none ∧ Z.vm.findClass "[B" = some V.cls ∧ V.slots.size = A.slots.size ∧ ∀ j, j < A.slots.size → V.slots[j]? = some (.int (lo8 (cv A j)))) ∧
  ∀ (O n d : String) (w : Value), RoadKit.Fld Z h x O n d w → RoadKit.slotOf Z O n d ≠ RoadKit.slotOf Z ST "value" "[B" → RoadKit.slotOf Z O n d ≠ RoadKit.slotOf Z ST "coder" "B" → RoadKit.Fld Z h' x O n d w
/-- **new String(chars) AT A CALL, IN THE ROAD'S FORM**: for specialBack behind newO: x the fresh String, b the char[] with the cell A -/
theorem back {p : Program} {l : Launch} {e : Env} {R : Room} {s : State} {args : Array Value} {below : List Frame} {len W : Nat} {Z : State} {a0 : Array Value} {h : Heap} (hZ : Z.Warmed39 s.vm) (hw : ∀ d ∈ words, d.before a0 Z = true) {kI : Nat} (wi : (Jvm.Cond.instantiable ST kI).before a0 Z = true)
    {x b : Addr} {A : Cell} {z : Int32} {v0 c0 : Value} (E : RoadKit.Exa Z h x ST) (V : RoadKit.Fld Z h x ST "value" "[B" v0) (C : RoadKit.Fld Z h x ST "coder" "B" c0) (K : RoadKit.Arr Z h b A .char) (hty : Typed .char A) (S : RoadKit.Sta Z h ST "COMPACT_STRINGS" "Z" (.int z)) (hz : ¬ z = 0)
    (l0 : 0 < A.slots.size) (l2 : A.slots.size ≤ 536870912) (hp : ∀ i, i < A.slots.size → ¬ 255 < cv A i) (hfr : 4 ≤ R.frames) (hlo : W + 65 ≤ R.locals) :
    Back l R p e below s args New1.yN len W (fun P a => a = #[.ref x, .ref b] ∧ P.U.heap = h ∧ P.cells + 1 ≤ R.cells ∧ P.slots + A.slots.size ≤ R.slots)
      (fun P _ v B => ∃ L, Q Z x A h v B.U.heap L ∧ B.locs = P.locs ++ L ∧ B.cells = P.cells + 1 ∧ B.slots = P.slots + A.slots.size) := by
  intro m meth c P g ig mk a X hg hsize hdg hW hn hp'
  obtain ⟨rfl, rfl, r1, r2⟩ := hp'
  have al : Z.vm.Alike P.U.vm := hZ.alike.trans X.warmed.alike
  obtain ⟨D, cfV, kV, iV, fV, hD, gV, stV, knV, obV, asV, slV⟩ := id V
  obtain ⟨D', cfC, kC, iC, fC, hD', gC, stC, -, -, asC, slC⟩ := id C
  cases hD.symm.trans hD'
  obtain ⟨D2, kD, e1, e2, e3, e4, e5⟩ := id E
  cases hD.symm.trans e1
  obtain ⟨c2, k2, i1, i2, i3, -⟩ := Cond.instantiable_spec wi
  cases e2.symm.trans i1
  cases e3.symm.trans i2
  obtain ⟨kU, u1, u2⟩ := al.2.2 _ _ e3
  have hB : Blank ST x D P.U := ⟨hD, ⟨knV, fun q hq => by rw [hq] at obV; cases obV⟩, by rw [al.findClass]; exact e2, kU, u1, by rw [u2]; exact i3, by rw [u2]; exact e5 i3⟩
  have F1 : Found ST "value" "[B" fV P.U := ⟨SBG.found_only al ⟨cfV, kV, iV, gV⟩, stV⟩
  have F2 : Found ST "coder" "B" fC P.U := ⟨SBG.found_only al ⟨cfC, kC, iC, gC⟩, stC⟩
  have hA : Ch b A P.U := ⟨⟨K.1, State.isArrayOf_alike al K.2.1, K.2.2, by omega⟩, hty⟩
  have hS : StaticIs P.U ST "COMPACT_STRINGS" "Z" (.int z) := by
    obtain ⟨cfS, iS, kS, fS, st, cS, t1, t2, t3, t4, t5, t6, t7⟩ := S
    exact StaticIs.there (s := { Z with heap := P.U.heap }) ⟨cfS, iS, kS, fS, st, cS, t1, t2, t3, t4, t5, (fun q => by rw [q] at t6; cases t6), t7⟩ al rfl
  obtain ⟨v, B, X', ⟨⟨hv, E', V', q1, q2, q3, q4, q5, q6, q7, q8, q9, q10, q11⟩, hl, hc, hs⟩, st⟩ := New1.pays x D fV fC b A z (tab_of (moved hZ hw)) hfr hlo m meth c P g ig mk _ X hg hsize hdg hW hn ⟨r1, r2, rfl, hB, F1, F2, hA, hS, hz, l0, l2, hp⟩
  have al' : Z.vm.Alike B.U.vm := hZ.alike.trans X'.warmed.alike
  have hsz : E'.slots.size = D.slots.size := by
    obtain ⟨-, -, -, kB, w1, w2, w3⟩ := q1
    obtain ⟨kB', y1, y2⟩ := al'.2.2 _ _ e3
    rw [q2.2.1] at w1
    cases w1.symm.trans y1
    rw [w3, e5 i3, y2]
  refine ⟨v, B, X', ⟨_, ⟨hv, ?_, ⟨by omega, fun y cy hy hn' => q10 y cy (by simpa using hn') hy, fun y cy hy => ?_⟩, q11, ⟨E', _, q1.1, by rw [q2.2.1]; exact e2, by rw [q2.2.1]; exact e3, by rw [q2.1]; exact obV, fun _ => by rw [hsz]; exact e5 i3⟩,
    ⟨E', cfV, kV, iV, fV, q1.1, gV, stV, by rw [q2.1]; exact knV, by rw [q2.1]; exact obV, by rw [q2.2.1]; exact asV, q3⟩, ⟨E', cfC, kC, iC, fC, q1.1, gC, stC, by rw [q2.1]; exact knV, by rw [q2.1]; exact obV, by rw [q2.2.1]; exact asC, q4⟩,
    ⟨V', ⟨q5.1, State.isArrayOf_alike al'.symm q5.2.1, q5.2.2.1⟩, q6, by rw [← al'.findClass]; exact q7, q8, fun j hj => by have := q9 j hj; rwa [Nat.zero_add] at this⟩, fun O n d w F n1 n2 => ?_⟩, hl, hc, hs⟩, st⟩
  · intro y hy
    simp only [List.mem_cons, List.not_mem_nil, or_false] at hy
    rcases hy with rfl | rfl <;> rfl
  · by_cases q : y = x
    · subst q
      cases hD.symm.trans hy
      exact ⟨E', q1.1, q2.2.1, q2.1, hsz⟩
    · exact ⟨cy, q10 y cy q hy, rfl, rfl, rfl⟩
  · obtain ⟨D3, cf, k, i, f, g1, g2, g3, g4, g5, g6, g7⟩ := F
    cases hD.symm.trans g1
    simp only [RoadKit.slotOf, g2, gV, gC, Option.map_some, Option.getD_some] at n1 n2
    exact ⟨E', cf, k, i, f, q1.1, g2, g3, by rw [q2.1]; exact g4, by rw [q2.1]; exact g5, by rw [q2.2.1]; exact g6, by rw [q2.2.2 f.slot (by simp [n1, n2])]; exact g7⟩
end StrChars.Road
namespace StrChars.Road
open Jvm Sem ClassFile Op Lib Jvm.Stand Jvm.Free Jvm.Free.XT
/-- WHAT COMES BACK, the byte[] as a list of values -/
def QA (Z : State) (x : Addr) (zn : Int32) (cs : List Int32) (h : Heap) (v : Option Value) (h' : Heap) (L : List Loc) : Prop := v = none ∧ (∀ y ∈ L, y.base = x) ∧ RoadKit.Keep h h' [x] ∧ h'.size = h.size + 1 ∧ RoadKit.Exa Z h' x ST ∧ RoadKit.Fld Z h' x ST "value" "[B" (.ref h.size) ∧ RoadKit.Fld Z h' x ST "coder" "B" (.int 0) ∧
  (∃ kb, Z.vm.findClass "[B" = some kb ∧ RoadKit.Arv Z h' h.size kb .byte zn (cs.map fun c => .int (lo8 c)) (.int 0)) ∧
  ∀ (O n d : String) (w : Value), RoadKit.Fld Z h x O n d w → RoadKit.slotOf Z O n d ≠ RoadKit.slotOf Z ST "value" "[B" → RoadKit.slotOf Z O n d ≠ RoadKit.slotOf Z ST "coder" "B" → RoadKit.Fld Z h' x O n d w
/-- **new String(chars) AT A CALL, THE ARRAYS AS LISTS**: the char[] at b holds cs, not empty, no char above 255 -/
theorem backArv {p : Program} {l : Launch} {e : Env} {R : Room} {s : State} {args : Array Value} {below : List Frame} {len W : Nat} {Z : State} {a0 : Array Value} {h : Heap} (hZ : Z.Warmed39 s.vm) (hw : ∀ d ∈ words, d.before a0 Z = true) {kI : Nat} (wi : (Jvm.Cond.instantiable ST kI).before a0 Z = true)
    {x b : Addr} {k : ClassId} {zn z : Int32} {cs : List Int32} {dv v0 c0 : Value} (E : RoadKit.Exa Z h x ST) (V : RoadKit.Fld Z h x ST "value" "[B" v0) (C : RoadKit.Fld Z h x ST "coder" "B" c0) (K : RoadKit.Arv Z h b k .char zn (cs.map Value.int) dv) (S : RoadKit.Sta Z h ST "COMPACT_STRINGS" "Z" (.int z)) (hz : ¬ z = 0)
    (hlen : zn.toNatClampNeg = cs.length) (h0 : 0 < cs.length) (hbig : cs.length ≤ 536870912) (hall : ∀ c ∈ cs, ¬ 255 < c) (hfr : 4 ≤ R.frames) (hlo : W + 65 ≤ R.locals) :
    Back l R p e below s args New1.yN len W (fun P a => a = #[.ref x, .ref b] ∧ P.U.heap = h ∧ P.cells + 1 ≤ R.cells ∧ P.slots + cs.length ≤ R.slots)
      (fun P _ v B => ∃ L, QA Z x zn cs h v B.U.heap L ∧ B.locs = P.locs ++ L ∧ B.cells = P.cells + 1 ∧ B.slots = P.slots + cs.length) := by
  obtain ⟨A, K1, K2, K3, K4, K5, K6⟩ := K
  have e : A.slots.size = cs.length := K3.trans hlen
  have hat : ∀ (i : Nat) (hi : i < cs.length), A.slots[i]? = some (.int cs[i]) := fun i hi => by rw [K5 i (by omega)]; simp [List.getD_eq_getElem?_getD, hi]
  have hcv : ∀ (i : Nat) (hi : i < cs.length), cv A i = cs[i] := fun i hi => by unfold cv; rw [hat i hi]
  have hty : Typed .char A := fun i v hv => by
    have hi : i < A.slots.size := (Array.getElem?_eq_some_iff.mp hv).1
    have q := K5 i hi
    rw [hv] at q
    rw [Option.some.inj q]
    exact K6 i hi
  refine Back.mono (back hZ hw wi E V C K1 hty S hz (by omega) (by omega) (fun i hi => by rw [hcv i (by omega)]; exact hall _ (List.getElem_mem _)) hfr hlo) (fun P a hp => ⟨hp.1, hp.2.1, hp.2.2.1, by rw [e]; exact hp.2.2.2⟩) (fun P a v B hp hq => ?_)
  obtain ⟨L, ⟨q1, q2, q3, q4, q5, q6, q7, ⟨V', v1, v2, v3, v4, v5⟩, q9⟩, hl, hc, hs⟩ := hq
  refine ⟨L, ⟨q1, q2, q3, q4, q5, q6, q7, ⟨V'.cls, v3, V', v1, rfl, by rw [v4, e, hlen], K4, fun i hi => ?_, fun i hi => ?_⟩, q9⟩, hl, hc, by rw [hs, e]⟩
  · have hi' : i < cs.length := by omega
    rw [v5 i (by omega), hcv i hi']; simp [List.getD_eq_getElem?_getD, hi']
  · have hi' : i < cs.length := by omega
    simp only [List.getD_eq_getElem?_getD, List.getElem?_map, List.getElem?_eq_getElem hi', Option.map_some, Option.getD_some]
    exact fits_lo8 _
end StrChars.Road
namespace StrChars.Road
open Jvm Sem ClassFile Op Lib Jvm.Stand Jvm.Free Jvm.Free.XT
/-- WHAT COMES BACK, in the writer's own shape -/
def QV (Z : State) (x : Addr) (N : Int32) (bs : List Int32) (h : Heap) (n0 : Nat) (v : Option Value) (h' : Heap) (L : List Loc) : Prop := v = none ∧ RoadKit.Fr n0 L ∧ RoadKit.Keep h h' [x] ∧ RoadKit.Exa Z h' x ST ∧ RoadKit.Fld Z h' x ST "coder" "B" (.int 0) ∧
  ∃ (t : Addr) (kb : ClassId), n0 ≤ t ∧ h.size ≤ t ∧ ¬ t = x ∧ RoadKit.Fld Z h' x ST "value" "[B" (.ref t) ∧ RoadKit.Arv Z h' t kb .byte N (bs.map Value.int) (.int 0)
/-- **new String(chars) AT A CALL, FOR THE WRITER**: a char[] of n known ints, each 0 to 255 -/
theorem backV {p : Program} {l : Launch} {e : Env} {R : Room} {s : State} {args : Array Value} {below : List Frame} {len W : Nat} {Z : State} {a0 : Array Value} {h : Heap} (hZ : Z.Warmed39 s.vm) (hw : ∀ d ∈ words, d.before a0 Z = true) {kI : Nat} (wi : (Jvm.Cond.instantiable ST kI).before a0 Z = true)
    {x b : Addr} {kC : ClassId} {cs bs : List Int32} {d v0 c0 : Value} {z N : Int32} {n n0 : Nat} (hx0 : n0 ≤ x) (hh0 : n0 ≤ h.size) (E : RoadKit.Exa Z h x ST) (V : RoadKit.Fld Z h x ST "value" "[B" v0) (C : RoadKit.Fld Z h x ST "coder" "B" c0) (K : RoadKit.Arv Z h b kC .char N (cs.map Value.int) d) (S : RoadKit.Sta Z h ST "COMPACT_STRINGS" "Z" (.int z)) (hz : ¬ z = 0)
    (hn : cs.length = n) (hN : N = Int32.ofNat n) (l0 : 0 < n) (l2 : n ≤ 4000) (hp : ∀ c ∈ cs, ¬ c < 0 ∧ ¬ (255 : Int32) < c) (hb : bs = cs.map (fun c => c.toInt8.toInt32)) (hfr : 4 ≤ R.frames) (hlo : W + 65 ≤ R.locals) :
    Back l R p e below s args (⟨"java/lang/String", "<init>", "([C)V"⟩ : MethodName) len W (fun P a => a = #[.ref x, .ref b] ∧ P.U.heap = h ∧ P.cells + 1 ≤ R.cells ∧ P.slots + n ≤ R.slots)
      (fun P _ v B => ∃ L, QV Z x N bs h n0 v B.U.heap L ∧ B.locs = P.locs ++ L ∧ B.cells = P.cells + 1 ∧ B.slots = P.slots + n) := by
  subst hn hN hb
  refine Back.mono (backArv hZ hw wi E V C K S hz (n32 (by omega)) l0 (by omega) (fun c hc => (hp c hc).2) hfr hlo) (fun P a hp => hp) (fun P a v B hp hq => ?_)
  obtain ⟨L, ⟨q1, q2, q3, q4, q5, q6, q7, ⟨kb, v1, v2⟩, q9⟩, hl, hc, hs⟩ := hq
  exact ⟨L, ⟨q1, fun y hy => by rw [q2 y hy]; exact hx0, q3, q5, q7, h.size, kb, hh0, Nat.le_refl _, Nat.ne_of_gt E.lt, q6, by rw [List.map_map]; exact v2⟩, hl, hc, hs⟩
end StrChars.Road
namespace StrChars
open Jvm Sem ClassFile Op Lib Jvm.Stand Jvm.Free.XT Jvm.Free.ALB Jvm.Free.JM Jvm.Free
open Jvm.Lib.Cold (StaticIs)
def hi8 (x : Int32) : Int32 := lo8 (x >>> ((8 : Int32) &&& 31))
/-- what StringUTF16.getChar makes of two bytes -/
def pairCh (u v : Int32) : Int32 := (((u &&& 255) <<< ((0 : Int32) &&& 31)) ||| ((v &&& 255) <<< ((8 : Int32) &&& 31))).toUInt32.toUInt16.toUInt32.toInt32
theorem lo8_and (x : Int32) : (lo8 x &&& 255).toBitVec.toNat = x.toBitVec.toNat % 256 := by
  have h : (lo8 x).toBitVec = (x.toBitVec.signExtend 8).signExtend 32 := by rw [lo8, Int8.toBitVec_toInt32, Int32.toBitVec_toInt8]
  rw [Int32.toBitVec_and, BitVec.toNat_and, h]
  have e : ((x.toBitVec.signExtend 8).signExtend 32).toNat % 256 = x.toBitVec.toNat % 256 := by
    rw [BitVec.toNat_signExtend]
    have hlt := x.toBitVec.isLt
    simp only [BitVec.toNat_setWidth, BitVec.toNat_signExtend]
    split <;> split <;> omega
  rw [← e]
  exact Nat.and_two_pow_sub_one_eq_mod _ 8
theorem pair_says {c : Int32} (h0 : ¬ c < 0) (h1 : ¬ 65535 < c) : pairCh (lo8 c) (hi8 c) = c := by
  rw [Int32.lt_iff_toInt_lt] at h0 h1
  have e0 : (0 : Int32).toInt = 0 := rfl
  have e1 : (65535 : Int32).toInt = 65535 := rfl
  have hc : c.toInt = c.toBitVec.toNat := by
    have := c.toBitVec.isLt
    have e : c.toInt = c.toBitVec.toInt := rfl
    rw [e] at h0 h1
    rw [e]
    rw [BitVec.toInt_eq_toNat_cond] at h0 h1 ⊢
    split at h0 <;> split <;> omega
  have hn : c.toBitVec.toNat < 65536 := by omega
  have a1 := lo8_and c
  have a2 : (hi8 c &&& 255).toBitVec.toNat = c.toBitVec.toNat / 256 := by
    rw [hi8, lo8_and]
    have e : ((8 : Int32) &&& 31) = 8 := by decide
    rw [e, Int32.toBitVec_shiftRight]
    have e2 : ((8 : Int32).toBitVec.smod 32) = 8#32 := by decide
    rw [e2, BitVec.sshiftRight_eq', BitVec.toNat_sshiftRight_of_msb_false (by rw [BitVec.msb_eq_false_iff_two_mul_lt]; omega)]
    show c.toBitVec.toNat >>> 8 % 256 = _
    rw [Nat.shiftRight_eq_div_pow]
    omega
  unfold pairCh
  apply Int32.toBitVec_inj.mp
  apply BitVec.eq_of_toNat_eq
  have f0 : ((0 : Int32) &&& 31) = 0 := by decide
  have f8 : ((8 : Int32) &&& 31) = 8 := by decide
  rw [f0, f8]
  have g : (((lo8 c &&& 255) <<< (0 : Int32)) ||| ((hi8 c &&& 255) <<< (8 : Int32))).toBitVec.toNat = c.toBitVec.toNat := by
    rw [Int32.toBitVec_or, Int32.toBitVec_shiftLeft, Int32.toBitVec_shiftLeft]
    have s0 : ((0 : Int32).toBitVec.smod 32) = 0#32 := by decide
    have s8 : ((8 : Int32).toBitVec.smod 32) = 8#32 := by decide
    rw [s0, s8, BitVec.toNat_or]
    simp only [BitVec.shiftLeft_eq', BitVec.toNat_shiftLeft, a1, a2]
    show (c.toBitVec.toNat % 256) <<< 0 % 2 ^ 32 ||| (c.toBitVec.toNat / 256) <<< 8 % 2 ^ 32 = _
    rw [Nat.shiftLeft_zero, Nat.mod_eq_of_lt (show c.toBitVec.toNat % 256 < 2 ^ 32 by omega), Nat.mod_eq_of_lt (show (c.toBitVec.toNat / 256) <<< 8 < 2 ^ 32 by rw [Nat.shiftLeft_eq]; omega), Nat.or_comm, ← Nat.shiftLeft_add_eq_or_of_lt (by omega), Nat.shiftLeft_eq]
    omega
  show BitVec.toNat (((((lo8 c &&& 255) <<< (0 : Int32)) ||| ((hi8 c &&& 255) <<< (8 : Int32))).toBitVec.setWidth 16).setWidth 32) = _
  rw [BitVec.toNat_setWidth, BitVec.toNat_setWidth, g]
  omega
end StrChars
namespace StrChars
open Jvm Sem ClassFile Op Lib Jvm.Stand Jvm.Free.XT Jvm.Free.ALB Jvm.Free.JM Jvm.Free
open Jvm.Lib.Cold (StaticIs)
/-- charAt's cast of a byte read back -/
def chr8 (u : Int32) : Int32 := (u &&& 255).toUInt32.toUInt16.toUInt32.toInt32
theorem chr8_lo8 {c : Int32} (h0 : ¬ c < 0) (h1 : ¬ 255 < c) : chr8 (lo8 c) = c := by
  have t : ∀ k : Fin 256, (Int32.ofNat k.val).toUInt32.toUInt16.toUInt32.toInt32 = Int32.ofNat k.val := by decide +kernel
  unfold chr8
  rw [lo8_mask h0 h1]
  rw [Int32.lt_iff_toInt_lt] at h0 h1
  have e0 : (0 : Int32).toInt = 0 := rfl
  have e1 : (255 : Int32).toInt = 255 := rfl
  obtain ⟨k, hk⟩ : ∃ k : Nat, c.toInt = k := ⟨c.toInt.toNat, by omega⟩
  have hx : c = Int32.ofNat k := Int32.toInt_inj.mp (by rw [hk, Int32.toInt_ofNat_small (by omega)])
  rw [hx]
  exact t ⟨k, by omega⟩
theorem narrow_ch {c : Int32} (h0 : ¬ c < 0) (h1 : ¬ 65535 < c) : narrow .char (.int c) = .int c := by
  have q : narrow .char (.int (pairCh (lo8 c) (hi8 c))) = .int (pairCh (lo8 c) (hi8 c)) := narrow_c _
  rwa [pair_says h0 h1] at q
/-- the array's cell V codes the n chars f 0 .. f (n - 1) by the coder cd, as the JDK does: coder 1 just where some char is above 255 -/
def Cod (cd : Int32) (n : Nat) (f : Nat → Int32) (V : Cell) : Prop := (cd = 0 ∧ V.slots.size = n ∧ ∀ j, j < n → V.slots[j]? = some (.int (lo8 (f j))) ∧ ¬ 255 < f j) ∨ (cd = 1 ∧ V.slots.size = 2 * n ∧ (∀ j, j < n → V.slots[2 * j]? = some (.int (lo8 (f j))) ∧ V.slots[2 * j + 1]? = some (.int (hi8 (f j)))) ∧ ∃ j, j < n ∧ 255 < f j)
theorem Cod.cd {cd : Int32} {n : Nat} {f : Nat → Int32} {V : Cell} (h : Cod cd n f V) : cd = 0 ∨ cd = 1 := h.imp (fun q => q.1) fun q => q.1
/-- **x is a String of the n chars f 0 .. f (n - 1)**, Latin-1 or UTF-16; its array at t has the cell V -/
def Txt (x t : Addr) (V : Cell) (cd : Int32) (n : Nat) (f : Nat → Int32) (U : State) : Prop := Exact "java/lang/String" x U ∧ Has x "java/lang/String" "value" "[B" (.ref t) U ∧ Has x "java/lang/String" "coder" "B" (.int cd) U ∧ XT.Arr .byte t V U ∧ Cod cd n f V ∧ ∀ j, j < n → ¬ f j < 0 ∧ ¬ 65535 < f j
theorem Txt.mv {x t : Addr} {V : Cell} {cd : Int32} {n : Nat} {f : Nat → Int32} {U U' : State} (h : Txt x t V cd n f U) (hal : U.vm.Alike U'.vm) (hh : U'.heap = U.heap) : Txt x t V cd n f U' := ⟨h.1.mv hal hh, h.2.1.mv hal hh, h.2.2.1.mv hal hh, h.2.2.2.1.mv hal hh, h.2.2.2.2⟩
namespace IsL
def yN : MethodName := ⟨"java/lang/String", "isLatin1", "()Z"⟩
abbrev yB : ByteArray := jdk_42_method_154_code
theorem d0 : decode yB 0 = .ok (.getstatic 38, 3) := by decide +kernel
theorem d3 : decode yB 3 = .ok (.ifCond (.eq) 14, 3) := by decide +kernel
theorem d6 : decode yB 6 = .ok (.aload_n 0, 1) := by decide +kernel
theorem d7 : decode yB 7 = .ok (.getfield 15, 3) := by decide +kernel
theorem d10 : decode yB 10 = .ok (.ifCond (.ne) 7, 3) := by decide +kernel
theorem d13 : decode yB 13 = .ok (.iconst 1, 1) := by decide +kernel
theorem d14 : decode yB 14 = .ok (.goto 4, 3) := by decide +kernel
theorem d17 : decode yB 17 = .ok (.iconst 0, 1) := by decide +kernel
theorem d18 : decode yB 18 = .ok (.ireturn, 1) := by decide +kernel
def site : List Cond := [.fieldLink "java/lang/String" 38 "java/lang/String" "COMPACT_STRINGS" "Z", .fieldLink "java/lang/String" 15 "java/lang/String" "coder" "B"]
def tab : Cond := tabOf yN yB 1 (some .boolean) site
def P (x : Addr) (cd z : Int32) (args : Array Value) (s : State) : Prop := args = #[.ref x] ∧ Has x "java/lang/String" "coder" "B" (.int cd) s ∧ (cd = 0 ∨ cd = 1) ∧ StaticIs s "java/lang/String" "COMPACT_STRINGS" "Z" (.int z) ∧ ¬ z = 0
def E (cd : Int32) (r : Option Value) (s u : State) : Prop := XT.PureE (some (.int (1 - cd))) r s u
theorem law (l : Launch) (x : Addr) (cd z : Int32) : Law l yN 1 0 0 0 yB 1 (some .boolean) site (P x cd z) (E cd) [] 0 0 := by
  refine Law.of_walk (plainFor_of_name (by decide +kernel)) (by decide +kernel) (by decide +kernel) (by decide) (fun _ _ h => by rw [h.1]; rfl) (fun _ U U' hal hh h => ⟨h.1, h.2.1.mv hal hh, h.2.2.1, h.2.2.2.1.there hal hh, h.2.2.2.2⟩) (fun r U U' V V' h1 hal h2 h => XT.PureE.mv r U U' V V' h1 hal h2 h) ?_
  intro p e s m args below meth c s₁ X0 hexec hbytes hml hret hlk hnm hown hh0 W hP
  obtain ⟨rfl, hx, hc, s1, hz⟩ := hP
  have c1 : Steps p.tables e below (s₁.setTop (entryFrame m #[.ref x] 1)) (s₁.setTop (mkF m 0 #[.val (.ref x)] [])) := entry rfl
  obtain ⟨T2, X2, q2, st2⟩ := X0.sget hexec hown (wk W (.fieldLink "java/lang/String" 38 "java/lang/String" "COMPACT_STRINGS" "Z")) s1 (fun _ _ h => by rw [hh0]; exact h) (g := (mkF m 0 #[.val (.ref x)] [])) rfl (hb hbytes d0)
  have hh2 := q2.trans hh0
  have c3 : Steps p.tables e below (s₁.setTop (entryFrame m #[.ref x] 1)) (T2.setTop (mkF m 7 #[.val (.ref x)] [.ref x])) := (c1.trans (st2 _ (Steps.refl _))).trans (by
    refine XS.ifNo X2.here hexec rfl (hb hbytes d3) rfl (i0_eq_f hz) ?_
    refine XS.aloadN X2.here hexec rfl (hb hbytes d6) rfl rfl ?_
    exact Steps.refl _)
  obtain ⟨T4, X4, q4, st4⟩ := X2.hget hexec hown (wk W (.fieldLink "java/lang/String" 15 "java/lang/String" "coder" "B")) (hx.mv X2.warmed.alike hh2) (g := (mkF m 7 #[.val (.ref x)] [.ref x])) rfl (rest := []) rfl (hb hbytes d7)
  have c5 : Steps p.tables e below (s₁.setTop (entryFrame m #[.ref x] 1)) (T4.setTop (mkF m 10 #[.val (.ref x)] [.int cd])) := c3.trans (st4 _ (Steps.refl _))
  have c6 : Steps p.tables e below (s₁.setTop (entryFrame m #[.ref x] 1)) (T4.setTop (mkF m 18 #[.val (.ref x)] [.int (1 - cd)])) := by
    rcases hc with rfl | rfl
    · exact c5.trans (by
        refine XS.ifNo X4.here hexec rfl (hb hbytes d10) rfl (i0_ne_f rfl) ?_
        refine iconstV X4.here hexec rfl 1 (hb hbytes d13) (by decide) ?_
        refine XS.goto X4.here hexec rfl (pc0 := 14) rfl (hb hbytes d14) (by decide) rfl ?_
        exact Steps.refl _)
    · exact c5.trans (by
        refine XS.ifYes X4.here hexec rfl (pc0 := 10) rfl (hb hbytes d10) rfl (i0_ne_t (by decide)) (by decide) rfl ?_
        refine iconstV X4.here hexec rfl 0 (hb hbytes d17) (by decide) ?_
        exact Steps.refl _)
  exact ⟨T4, some (.int (1 - cd)), _, _, _, X4, rfl, rfl, rfl, (fun h => by cases h), ⟨rfl, q4.trans hh2⟩, fun fs hl => c6.trans (X4.ireturnOut hexec hret (by rcases hc with rfl | rfl <;> rfl) (Or.inr (Or.inl rfl)) (hb hbytes d18) hl)⟩
end IsL
namespace LChA
def yN : MethodName := ⟨"java/lang/StringLatin1", "charAt", "([BI)C"⟩
abbrev yB : ByteArray := jdk_43_method_2_code
theorem d0 : decode yB 0 = .ok (.iload_n 1, 1) := by decide +kernel
theorem d1 : decode yB 1 = .ok (.aload_n 0, 1) := by decide +kernel
theorem d2 : decode yB 2 = .ok (.arraylength, 1) := by decide +kernel
theorem d3 : decode yB 3 = .ok (.invokestatic 9, 3) := by decide +kernel
theorem d6 : decode yB 6 = .ok (.aload_n 0, 1) := by decide +kernel
theorem d7 : decode yB 7 = .ok (.iload_n 1, 1) := by decide +kernel
theorem d8 : decode yB 8 = .ok (.baload, 1) := by decide +kernel
theorem d9 : decode yB 9 = .ok (.sipush 255, 3) := by decide +kernel
theorem d12 : decode yB 12 = .ok (.iand, 1) := by decide +kernel
theorem d13 : decode yB 13 = .ok (.i2c, 1) := by decide +kernel
theorem d14 : decode yB 14 = .ok (.ireturn, 1) := by decide +kernel
def site : List Cond := [JO.Str_checkIndex.tab] ++ staticW "java/lang/StringLatin1" 9 JO.Str_checkIndex.yN
def tab : Cond := tabOf yN yB 2 (some .char) site
def P (t : Addr) (V : Cell) (i : Nat) (u : Int32) (fm : Value) (args : Array Value) (s : State) : Prop := args = #[.ref t, .int (Int32.ofNat i)] ∧ XT.Arr .byte t V s ∧ V.slots[i]? = some (.int u) ∧ (StaticIs s "jdk/internal/util/Preconditions" "SIOOBE_FORMATTER" "Ljava/util/function/BiFunction;" fm ∧ fm.isRef = true)
def E (u : Int32) (r : Option Value) (s w : State) : Prop := XT.PureE (some (.int (chr8 u))) r s w
theorem law (l : Launch) (t : Addr) (V : Cell) (i : Nat) (u : Int32) (fm : Value) : Law l yN 2 2 2 27 yB 2 (some .char) site (P t V i u fm) (E u) [] 0 0 := by
  refine Law.of_walk (plainFor_of_name (by decide +kernel)) (by decide +kernel) (by decide +kernel) (by decide) (fun _ _ h => by rw [h.1]; rfl) (fun _ U U' hal hh h => ⟨h.1, h.2.1.mv hal hh, h.2.2.1, h.2.2.2.1.there hal hh, h.2.2.2.2⟩) (fun r U U' V V' h1 hal h2 h => XT.PureE.mv r U U' V V' h1 hal h2 h) ?_
  intro p e s m args below meth c s₁ X0 hexec hbytes hml hret hlk hnm hown hh0 W hP
  obtain ⟨rfl, hV, hu, s1, rf⟩ := hP
  have v31 := hV.2.2.2
  have hi : i < V.slots.size := (Array.getElem?_eq_some_iff.mp hu).1
  have c1 : Steps p.tables e below (s₁.setTop (entryFrame m #[.ref t, .int (Int32.ofNat i)] 2)) (s₁.setTop (mkF m 0 #[.val (.ref t), .val (.int (Int32.ofNat i))] [])) := entry rfl
  have c2 : Steps p.tables e below (s₁.setTop (entryFrame m #[.ref t, .int (Int32.ofNat i)] 2)) (s₁.setTop (mkF m 3 #[.val (.ref t), .val (.int (Int32.ofNat i))] [.int (Int32.ofNat V.slots.size), .int (Int32.ofNat i)])) := c1.trans (by
    refine XS.iloadN X0.here hexec rfl (hb hbytes d0) rfl ?_
    refine XS.aloadN X0.here hexec rfl (hb hbytes d1) rfl rfl ?_
    refine X0.alen hexec (hV.mv X0.warmed.alike hh0) rfl rfl (hb hbytes d2) ?_
    exact Steps.refl _)
  obtain ⟨v3, T3, X3, E3, g3⟩ := X0.callS hexec (JO.Str_checkIndex.law l (Int32.ofNat i) (Int32.ofNat V.slots.size) fm) hown (wks W (staticW "java/lang/StringLatin1" 9 JO.Str_checkIndex.yN)) (wk W JO.Str_checkIndex.tab) (W := 0) (Nat.le_of_ble_eq_true rfl) (Nat.le_of_ble_eq_true rfl) (Nat.le_refl _) (Nat.le_refl _) (g := (mkF m 3 #[.val (.ref t), .val (.int (Int32.ofNat i))] [.int (Int32.ofNat V.slots.size), .int (Int32.ofNat i)])) rfl (by rw [hml]; rfl) c2 (argsL := [.int (Int32.ofNat i), .int (Int32.ofNat V.slots.size)]) (rest := []) rfl rfl (by show 2 * 0 + 0 ≤ _; decide) (hb hbytes d3) (⟨rfl, rf, s1.there X0.warmed.alike hh0, Int32.ofNat_not_neg (by omega), lt32 v31 hi⟩)
  obtain ⟨rfl, q3⟩ := E3
  have hh3 := q3.trans hh0
  have c4 : Steps p.tables e below (s₁.setTop (entryFrame m #[.ref t, .int (Int32.ofNat i)] 2)) (T3.setTop (mkF m 14 #[.val (.ref t), .val (.int (Int32.ofNat i))] [.int (chr8 u)])) := Steps.trans g3 (by
    refine XS.aloadN X3.here hexec rfl (hb hbytes d6) rfl rfl ?_
    refine XS.iloadN X3.here hexec rfl (hb hbytes d7) rfl ?_
    refine X3.aget hexec (hV.mv X3.warmed.alike hh3) rfl hu rfl rfl (hb hbytes d8) ?_
    refine sipushV X3.here hexec rfl 255 (hb hbytes d9) (by decide) ?_
    refine XS.iand X3.here hexec rfl (hb hbytes d12) rfl ?_
    refine i2c X3.here hexec rfl (hb hbytes d13) rfl ?_
    exact Steps.refl _)
  exact ⟨T3, some (.int (chr8 u)), _, _, _, X3, rfl, rfl, rfl, (fun h => by cases h), ⟨rfl, hh3⟩, fun fs hl => c4.trans (X3.ireturnOut hexec hret (narrow_c _) (Or.inr (Or.inr (Or.inr (Or.inl rfl)))) (hb hbytes d14) hl)⟩
end LChA
end StrChars
namespace StrChars.Road
open Jvm Sem ClassFile Op Lib Jvm.Stand Jvm.Free Jvm.Free.XT
open Jvm.Lib.Cold (StaticIs)
theorem consq {a : Array Value} {s : State} {c : Jvm.Cond} {L : List Jvm.Cond} (h0 : c.before a s = true) (h : ∀ w ∈ L, w.before a s = true) : ∀ w ∈ c :: L, w.before a s = true := fun w hw => (List.mem_cons.mp hw).elim (fun e => e ▸ h0) (h w)
/-- the bytes of the chars cs, low before high -/
def wideBytes : List Int32 → List Value
  | [] => []
  | c :: cs => .int (lo8 c) :: .int (hi8 c) :: wideBytes cs
theorem wide_lo (d : Value) : ∀ (cs : List Int32) (j : Nat), j < cs.length → (wideBytes cs).getD (2 * j) d = .int (lo8 (cs.getD j 0))
  | [], j, h => absurd h (Nat.not_lt_zero j)
  | c :: cs, 0, _ => rfl
  | c :: cs, j + 1, h => by
    have q := wide_lo d cs j (by simpa using h)
    rw [show 2 * (j + 1) = 2 * j + 1 + 1 from by omega]
    simpa [wideBytes] using q
theorem wide_hi (d : Value) : ∀ (cs : List Int32) (j : Nat), j < cs.length → (wideBytes cs).getD (2 * j + 1) d = .int (hi8 (cs.getD j 0))
  | [], j, h => absurd h (Nat.not_lt_zero j)
  | c :: cs, 0, _ => rfl
  | c :: cs, j + 1, h => by
    have q := wide_hi d cs j (by simpa using h)
    rw [show 2 * (j + 1) + 1 = 2 * j + 1 + 1 + 1 from by omega]
    simpa [wideBytes] using q
theorem low_at (d : Value) (cs : List Int32) (j : Nat) (h : j < cs.length) : (cs.map fun c => Value.int (lo8 c)).getD j d = .int (lo8 (cs.getD j 0)) := by
  simp [List.getD_eq_getElem?_getD, h]
/-- an array of N2 bytes vs codes the chars cs by the coder cd -/
def CodA (cs : List Int32) (cd N2 : Int32) (vs : List Value) : Prop := (cd = 0 ∧ N2 = Int32.ofNat cs.length ∧ vs = (cs.map fun c => Value.int (lo8 c)) ∧ ∀ c ∈ cs, ¬ 255 < c) ∨ (cd = 1 ∧ N2 = Int32.ofNat (2 * cs.length) ∧ vs = wideBytes cs ∧ ∃ c ∈ cs, 255 < c)
theorem CodA.cod {cs : List Int32} {cd N2 : Int32} {vs : List Value} {V : Cell} (h : CodA cs cd N2 vs) (hn : 2 * cs.length < 2 ^ 31) (hs : V.slots.size = N2.toNatClampNeg) (hv : RoadKit.Has V vs (.int 0)) : Cod cd cs.length (fun j => cs.getD j 0) V := by
  rcases h with ⟨rfl, rfl, rfl, h⟩ | ⟨rfl, rfl, rfl, c, hc, hw⟩
  · rw [n32 (by omega)] at hs
    exact Or.inl ⟨rfl, hs, fun j hj => ⟨by rw [hv j (by omega), low_at _ _ _ hj], by
      have e : cs.getD j 0 = cs[j] := by simp [List.getD_eq_getElem?_getD, hj]
      show ¬ 255 < cs.getD j 0
      rw [e]; exact h _ (List.getElem_mem _)⟩⟩
  · rw [n32 (by omega)] at hs
    obtain ⟨j, hj, rfl⟩ := List.getElem_of_mem hc
    exact Or.inr ⟨rfl, hs, fun j hj => ⟨by rw [hv _ (by omega), wide_lo _ _ _ hj], by rw [hv _ (by omega), wide_hi _ _ _ hj]⟩, j, hj, by
      have e : cs.getD j 0 = cs[j] := by simp [List.getD_eq_getElem?_getD, hj]
      show 255 < cs.getD j 0
      rw [e]; exact hw⟩
/-- an object of exactly java/lang/String, its two fields found: as the laws ask it -/
theorem strObj {Z U : State} {a0 : Array Value} {kI : Nat} (wi : (Jvm.Cond.instantiable ST kI).before a0 Z = true) (al : Z.vm.Alike U.vm) {x : Addr} {v0 c0 : Value} (E : RoadKit.Exa Z U.heap x ST) (V : RoadKit.Fld Z U.heap x ST "value" "[B" v0) (C : RoadKit.Fld Z U.heap x ST "coder" "B" c0) :
    ∃ (D : Cell) (fV fC : Field), Blank ST x D U ∧ Found ST "value" "[B" fV U ∧ Found ST "coder" "B" fC U ∧ D.slots[fV.slot]? = some v0 ∧ D.slots[fC.slot]? = some c0 ∧ RoadKit.slotOf Z ST "value" "[B" = fV.slot ∧ RoadKit.slotOf Z ST "coder" "B" = fC.slot := by
  obtain ⟨D, cfV, kV, iV, fV, hD, gV, stV, knV, obV, asV, slV⟩ := V
  obtain ⟨D', cfC, kC, iC, fC, hD', gC, stC, -, -, asC, slC⟩ := C
  cases hD.symm.trans hD'
  obtain ⟨D2, kD, e1, e2, e3, e4, e5⟩ := E
  cases hD.symm.trans e1
  obtain ⟨c2, k2, i1, i2, i3, -⟩ := Cond.instantiable_spec wi
  cases e2.symm.trans i1
  cases e3.symm.trans i2
  obtain ⟨kU, u1, u2⟩ := al.2.2 _ _ e3
  exact ⟨D, fV, fC, ⟨hD, ⟨knV, fun q hq => by rw [hq] at obV; cases obV⟩, by rw [al.findClass]; exact e2, kU, u1, by rw [u2]; exact i3, by rw [u2]; exact e5 i3⟩, ⟨SBG.found_only al ⟨cfV, kV, iV, gV⟩, stV⟩, ⟨SBG.found_only al ⟨cfC, kC, iC, gC⟩, stC⟩, slV, slC, by simp [RoadKit.slotOf, gV], by simp [RoadKit.slotOf, gC]⟩
theorem sta_is {Z U : State} (al : Z.vm.Alike U.vm) {C n d : String} {v : Value} (S : RoadKit.Sta Z U.heap C n d v) : StaticIs U C n d v := by
  obtain ⟨cfS, iS, kS, fS, st, cS, t1, t2, t3, t4, t5, t6, t7⟩ := S
  exact StaticIs.there (s := { Z with heap := U.heap }) ⟨cfS, iS, kS, fS, st, cS, t1, t2, t3, t4, t5, (fun q => by rw [q] at t6; cases t6), t7⟩ al rfl
end StrChars.Road
namespace StrChars.Road
open Jvm Sem ClassFile Op Lib Jvm.Stand Jvm.Free Jvm.Free.XT
open Jvm.Lib.Cold (StaticIs)
/-- the road's facts of a String, as the laws ask it -/
theorem txt_of {Z U : State} {a0 : Array Value} {kI : Nat} (wi : (Jvm.Cond.instantiable ST kI).before a0 Z = true) (al : Z.vm.Alike U.vm) {x t : Addr} {kb : ClassId} {cs : List Int32} {cd N2 : Int32} {vs : List Value} (E : RoadKit.Exa Z U.heap x ST) (V : RoadKit.Fld Z U.heap x ST "value" "[B" (.ref t)) (C : RoadKit.Fld Z U.heap x ST "coder" "B" (.int cd)) (K : RoadKit.Arv Z U.heap t kb .byte N2 vs (.int 0)) (hc : CodA cs cd N2 vs) (hb : ∀ c ∈ cs, ¬ c < 0 ∧ ¬ (65535 : Int32) < c) (l2 : cs.length ≤ 4000) :
    ∃ A, Txt x t A cd cs.length (fun j => cs.getD j 0) U := by
  obtain ⟨A, K1, K2, K3, K4, K5, K6⟩ := K
  have hcod := hc.cod (by omega) K3 K5
  obtain ⟨D, fV, fC, hB, F1, F2, g1, g2, -, -⟩ := strObj wi al E V C
  exact ⟨A, ⟨_, hB.2.2.1, D, hB.1, rfl, by cases q : D.vm <;> first | rfl | exact absurd q (hB.2.1.2 _)⟩, Has.of hB F1 g1, Has.of hB F2 g2, ⟨K1.1, State.isArrayOf_alike al K1.2.1, K1.2.2, by rcases hcod with ⟨-, q, -⟩ | ⟨-, q, -⟩ <;> omega⟩, hcod, fun j hj => by
    have e : cs.getD j 0 = cs[j] := by simp [List.getD_eq_getElem?_getD, hj]
    show ¬ cs.getD j 0 < 0 ∧ ¬ 65535 < cs.getD j 0
    rw [e]; exact hb _ (List.getElem_mem _)⟩
end StrChars.Road
namespace StrChars
open Jvm Sem ClassFile Op Lib Jvm.Stand Jvm.Free.XT Jvm.Free.ALB Jvm.Free.JM Jvm.Free
open Jvm.Lib.Cold (StaticIs)
namespace ChN
def yN : MethodName := ⟨"java/lang/String", "charAt", "(I)C"⟩
abbrev yB : ByteArray := jdk_42_method_56_code
theorem d0 : decode yB 0 = .ok (.aload_n 0, 1) := by decide +kernel
theorem d1 : decode yB 1 = .ok (.invokevirtual 492, 3) := by decide +kernel
theorem d4 : decode yB 4 = .ok (.ifCond (.eq) 12, 3) := by decide +kernel
theorem d7 : decode yB 7 = .ok (.aload_n 0, 1) := by decide +kernel
theorem d8 : decode yB 8 = .ok (.getfield 9, 3) := by decide +kernel
theorem d11 : decode yB 11 = .ok (.iload_n 1, 1) := by decide +kernel
theorem d12 : decode yB 12 = .ok (.invokestatic 495, 3) := by decide +kernel
theorem d15 : decode yB 15 = .ok (.ireturn, 1) := by decide +kernel
def site : List Cond := [.fieldLink "java/lang/String" 9 "java/lang/String" "value" "[B", IsL.tab, LChA.tab] ++ virtW "java/lang/String" 492 "java/lang/String" IsL.yN IsL.yN ++ staticW "java/lang/String" 495 LChA.yN
def tab : Cond := tabOf yN yB 2 (some .char) site
def P (x t : Addr) (V : Cell) (n : Nat) (f : Nat → Int32) (z : Int32) (fm : Value) (i : Nat) (args : Array Value) (s : State) : Prop := args = #[.ref x, .int (Int32.ofNat i)] ∧ Txt x t V 0 n f s ∧ i < n ∧ StaticIs s "java/lang/String" "COMPACT_STRINGS" "Z" (.int z) ∧ ¬ z = 0 ∧ StaticIs s "jdk/internal/util/Preconditions" "SIOOBE_FORMATTER" "Ljava/util/function/BiFunction;" fm ∧ fm.isRef = true
def E (f : Nat → Int32) (i : Nat) (r : Option Value) (s u : State) : Prop := XT.PureE (some (.int (f i))) r s u
/-- charAt(i) of a Latin-1 String of n chars, i < n: f i -/
theorem law (l : Launch) (x t : Addr) (V : Cell) (n : Nat) (f : Nat → Int32) (z : Int32) (fm : Value) (i : Nat) : Law l yN 2 1 3 40 yB 2 (some .char) site (P x t V n f z fm i) (E f i) [] 0 0 := by
  refine Law.of_walk (plainFor_of_name (by decide +kernel)) (by decide +kernel) (by decide +kernel) (by decide) (fun _ _ h => by rw [h.1]; rfl) (fun _ U U' hal hh h => ⟨h.1, h.2.1.mv hal hh, h.2.2.1, h.2.2.2.1.there hal hh, h.2.2.2.2.1, h.2.2.2.2.2.1.there hal hh, h.2.2.2.2.2.2⟩) (fun r U U' V V' h1 hal h2 h => XT.PureE.mv r U U' V V' h1 hal h2 h) ?_
  intro p e s m args below meth c s₁ X0 hexec hbytes hml hret hlk hnm hown hh0 W hP
  obtain ⟨rfl, hx, hi, s1, hz, s3, rf⟩ := hP
  have v31 := hx.2.2.2.1.2.2.2
  have hr := hx.2.2.2.2.2 i hi
  have hx0 := hx.mv X0.warmed.alike hh0
  have c1 : Steps p.tables e below (s₁.setTop (entryFrame m #[.ref x, .int (Int32.ofNat i)] 2)) (s₁.setTop (mkF m 1 #[.val (.ref x), .val (.int (Int32.ofNat i))] [.ref x])) := Steps.trans (entry rfl) (by
    refine XS.aloadN X0.here hexec rfl (hb hbytes d0) rfl rfl ?_
    exact Steps.refl _)
  obtain ⟨v2, T2, X2, E2, g2⟩ := X0.callV hexec (IsL.law l x 0 z) hown (wks W (virtW "java/lang/String" 492 "java/lang/String" IsL.yN IsL.yN)) rfl (by decide) (wk W IsL.tab) (W := 0) (Nat.le_of_ble_eq_true rfl) (Nat.le_of_ble_eq_true rfl) (Nat.le_refl _) (Nat.le_refl _) (hx0.1.fc X0.warmed.alike) hx0.1.is (g := (mkF m 1 #[.val (.ref x), .val (.int (Int32.ofNat i))] [.ref x])) rfl (by rw [hml]; rfl) c1 (argsL := []) (rest := []) rfl rfl (by show 2 * 0 + 0 ≤ _; decide) (hb hbytes d1) (⟨rfl, hx0.2.2.1, hx.2.2.2.2.1.cd, s1.there X0.warmed.alike hh0, hz⟩)
  obtain ⟨rfl, q2⟩ := E2
  have hh2 := q2.trans hh0
  have hx2 := hx.mv X2.warmed.alike hh2
  obtain ⟨-, k1, k2⟩ | ⟨k0, -⟩ := hx.2.2.2.2.1
  · have c3 : Steps p.tables e below (s₁.setTop (entryFrame m #[.ref x, .int (Int32.ofNat i)] 2)) (T2.setTop (mkF m 8 #[.val (.ref x), .val (.int (Int32.ofNat i))] [.ref x])) := Steps.trans g2 (by
      refine XS.ifNo X2.here hexec rfl (hb hbytes d4) rfl (i0_eq_f (by decide)) ?_
      refine XS.aloadN X2.here hexec rfl (hb hbytes d7) rfl rfl ?_
      exact Steps.refl _)
    obtain ⟨T4, X4, q4, st4⟩ := X2.hget hexec hown (wk W (.fieldLink "java/lang/String" 9 "java/lang/String" "value" "[B")) hx2.2.1 (g := (mkF m 8 #[.val (.ref x), .val (.int (Int32.ofNat i))] [.ref x])) rfl (rest := []) rfl (hb hbytes d8)
    have hh4 := q4.trans hh2
    have c5 : Steps p.tables e below (s₁.setTop (entryFrame m #[.ref x, .int (Int32.ofNat i)] 2)) (T4.setTop (mkF m 12 #[.val (.ref x), .val (.int (Int32.ofNat i))] [.int (Int32.ofNat i), .ref t])) := (c3.trans (st4 _ (Steps.refl _))).trans (by
      refine XS.iloadN X4.here hexec rfl (hb hbytes d11) rfl ?_
      exact Steps.refl _)
    obtain ⟨v6, T6, X6, E6, g6⟩ := X4.callS hexec (LChA.law l t V i (lo8 (f i)) fm) hown (wks W (staticW "java/lang/String" 495 LChA.yN)) (wk W LChA.tab) (W := 0) (Nat.le_of_ble_eq_true rfl) (Nat.le_of_ble_eq_true rfl) (Nat.le_refl _) (Nat.le_refl _) (g := (mkF m 12 #[.val (.ref x), .val (.int (Int32.ofNat i))] [.int (Int32.ofNat i), .ref t])) rfl (by rw [hml]; rfl) c5 (argsL := [.ref t, .int (Int32.ofNat i)]) (rest := []) rfl rfl (by show 2 * 0 + 0 ≤ _; decide) (hb hbytes d12) (⟨rfl, hx.2.2.2.1.mv X4.warmed.alike hh4, (k2 i hi).1, s3.there X4.warmed.alike hh4, rf⟩)
    obtain ⟨rfl, q6⟩ := E6
    rw [chr8_lo8 hr.1 (k2 i hi).2] at g6
    exact ⟨T6, some (.int (f i)), _, _, _, X6, rfl, rfl, rfl, (fun h => by cases h), ⟨rfl, q6.trans hh4⟩, fun fs hl => Steps.trans g6 (X6.ireturnOut hexec hret (narrow_ch hr.1 hr.2) (Or.inr (Or.inr (Or.inr (Or.inl rfl)))) (hb hbytes d15) hl)⟩
  · exact absurd k0 (by decide)
theorem pays {l : Launch} {R : Room} {p : Program} {e : Env} {below : List Frame} {s : State} {sargs : Array Value} {len W : Nat} (x t : Addr) (V : Cell) (n : Nat) (f : Nat → Int32) (z : Int32) (fm : Value) (i : Nat) (htab : tab.before sargs s = true) (hfr : 4 ≤ R.frames) (hlo : W + 53 ≤ R.locals) :
    Back l R p e below s sargs yN len W (fun A₁ a₁ => A₁.cells + 0 ≤ R.cells ∧ A₁.slots + 0 ≤ R.slots ∧ P x t V n f z fm i a₁ A₁.U) (fun A₁ _ v₁ B₁ => E f i v₁ A₁.U B₁.U ∧ B₁.locs = A₁.locs ++ [] ∧ B₁.cells = A₁.cells + 0 ∧ B₁.slots = A₁.slots + 0) :=
  (law l x t V n f z fm i).pays htab hfr (by omega)
end ChN
end StrChars
namespace StrChars.Road
open Jvm Sem ClassFile Op Lib Jvm.Stand Jvm.Free Jvm.Free.XT
open Jvm.Lib.Cold (StaticIs)
/-- the words of String.charAt(int), the Latin-1 road alone -/
abbrev wordsChN : List Jvm.Cond := [.code ChN.yN ChN.yB 2 (some .char), .initialized ST, .fieldLink ST 9 ST "value" "[B", .fieldLink ST 38 ST "COMPACT_STRINGS" "Z", .fieldLink ST 15 ST "coder" "B", .code IsL.yN IsL.yB 1 (some .boolean), .methodLink ST 492 IsL.yN, .declares IsL.yN, .selects ST IsL.yN IsL.yN, .instanceMethod IsL.yN,
  .methodLink ST 495 LChA.yN, .static LChA.yN, .code LChA.yN LChA.yB 2 (some .char), .initialized "java/lang/StringLatin1", .methodLink "java/lang/StringLatin1" 9 JO.Str_checkIndex.yN, .static JO.Str_checkIndex.yN, .code JO.Str_checkIndex.yN JO.Str_checkIndex.yB 2 none,
  .fieldLink ST 1053 "jdk/internal/util/Preconditions" "SIOOBE_FORMATTER" "Ljava/util/function/BiFunction;", .methodLink ST 1059 JC.PreCheck.yN, .static JC.PreCheck.yN, .code JC.PreCheck.yN JC.PreCheck.yB 3 (some .int), .initialized "jdk/internal/util/Preconditions"]
theorem tabChN_of {a : Array Value} {s : State} (h : ∀ w ∈ wordsChN, w.before a s = true) : ChN.tab.before a s = true := by
  have hp : JC.PreCheck.tab.before a s = true := unparts (wk h (.code JC.PreCheck.yN JC.PreCheck.yB 3 (some .int))) (wks h (.initialized JC.PreCheck.yN.cls :: JC.PreCheck.site))
  have qk := consq hp h
  have hk : JO.Str_checkIndex.tab.before a s = true := unparts (wk qk (.code JO.Str_checkIndex.yN JO.Str_checkIndex.yB 2 none)) (wks qk (.initialized JO.Str_checkIndex.yN.cls :: JO.Str_checkIndex.site))
  have ql := consq hk h
  have hl : LChA.tab.before a s = true := unparts (wk ql (.code LChA.yN LChA.yB 2 (some .char))) (wks ql (.initialized LChA.yN.cls :: LChA.site))
  have hi : IsL.tab.before a s = true := unparts (wk h (.code IsL.yN IsL.yB 1 (some .boolean))) (wks h (.initialized IsL.yN.cls :: IsL.site))
  have q := consq hi (consq hl h)
  exact unparts (wk q (.code ChN.yN ChN.yB 2 (some .char))) (wks q (.initialized ChN.yN.cls :: ChN.site))
theorem movedChN {Z s : State} {a0 args : Array Value} (hZ : Z.Warmed39 s.vm) (hw : ∀ d ∈ wordsChN, d.before a0 Z = true) : ∀ d ∈ wordsChN, d.before args s = true := fun d hd => by
  have t : ∀ d ∈ wordsChN, (d.onTables && d.keepsFace) = true := by decide +kernel
  exact RoadKit.mv hZ (hw d hd) (t d hd)
/-- **charAt(i) OF A LATIN-1 STRING**, i < n: the char -/
theorem chN {p : Program} {l : Launch} {e : Env} {R : Room} {s : State} {args : Array Value} {below : List Frame} {len W : Nat} {Z : State} {a0 : Array Value} {h : Heap} (hZ : Z.Warmed39 s.vm) (hw : ∀ d ∈ wordsChN, d.before a0 Z = true) {kI : Nat} (wi : (Jvm.Cond.instantiable ST kI).before a0 Z = true)
    {x t : Addr} {kb : ClassId} {cs : List Int32} {N2 z : Int32} {vs : List Value} {fm : Value} {i : Nat} {j : Int32} (E : RoadKit.Exa Z h x ST) (V : RoadKit.Fld Z h x ST "value" "[B" (.ref t)) (C : RoadKit.Fld Z h x ST "coder" "B" (.int 0)) (K : RoadKit.Arv Z h t kb .byte N2 vs (.int 0)) (hc : CodA cs 0 N2 vs) (hb : ∀ c ∈ cs, ¬ c < 0 ∧ ¬ (65535 : Int32) < c)
    (S : RoadKit.Sta Z h ST "COMPACT_STRINGS" "Z" (.int z)) (hz : ¬ z = 0) (F : RoadKit.Sta Z h "jdk/internal/util/Preconditions" "SIOOBE_FORMATTER" "Ljava/util/function/BiFunction;" fm) (rf : fm.isRef = true) (l2 : cs.length ≤ 4000) (hi : i < cs.length) (hj : j = Int32.ofNat i) (hfr : 4 ≤ R.frames) (hlo : W + 53 ≤ R.locals) :
    Back l R p e below s args (⟨"java/lang/String", "charAt", "(I)C"⟩ : MethodName) len W (fun P a => a = #[.ref x, .int j] ∧ P.U.heap = h ∧ P.cells + 0 ≤ R.cells ∧ P.slots + 0 ≤ R.slots)
      (fun P _ v B => ∃ L, (v = some (.int (cs.getD i 0)) ∧ L = [] ∧ B.U.heap = h) ∧ B.locs = P.locs ++ L ∧ B.cells = P.cells + 0 ∧ B.slots = P.slots + 0) := by
  subst hj
  intro m meth c P g ig mk a X hg hsize hdg hW hn hp'
  obtain ⟨rfl, rfl, r1, r2⟩ := hp'
  have al : Z.vm.Alike P.U.vm := hZ.alike.trans X.warmed.alike
  obtain ⟨A, hx⟩ := txt_of wi al E V C K hc hb l2
  obtain ⟨v, B, X', ⟨⟨hv, hh⟩, hl, hk, hs⟩, st⟩ := ChN.pays x t A cs.length (fun j => cs.getD j 0) z fm i (tabChN_of (movedChN hZ hw)) hfr hlo m meth c P g ig mk _ X hg hsize hdg hW hn ⟨r1, r2, rfl, hx, hi, sta_is al S, hz, sta_is al F, rf⟩
  exact ⟨v, B, X', ⟨[], ⟨hv, rfl, hh⟩, hl, hk, hs⟩, st⟩
/-- what backV says of its String, as the contracts of this text ask it: cs's low bytes, coder 0 -/
theorem codOf {cs : List Int32} {n : Nat} (hn : cs.length = n) (hb : ∀ c ∈ cs, ¬ 255 < c) : CodA cs 0 (Int32.ofNat n) ((cs.map lo8).map Value.int) := Or.inl ⟨rfl, by rw [hn], by simp [List.map_map, Function.comp_def], hb⟩
end StrChars.Road
end Jvm.Pilot.@@N@@
namespace Jvm.Pilot.@@N@@
open Jvm Jvm.ClassFile Sem Op Lib Jvm.Free Jvm.Stand Jvm.LawKit Jvm.RoadKit Bundle Jvm.Pilot.@@N@@.Jvm.D
abbrev zM (l : Launch) (Z : State) (h : Heap) (ws : List Jvm.Cond) (y : MethodName) (b : ByteArray) (n : Nat) (r : Option FieldType) (R : Room) (as' : Array Value) (Q : Option Value → Heap → List Loc → Prop) : Prop := MetFree l y (head1 (Jvm.Cond.code y b n r :: ws) R) (fun a U => a = as' ∧ Z.Warmed39 U.vm ∧ U.heap = h) (fun _ _ _ _ _ => True) (fun _ U o U' => ∃ v L, o = .returned v ∧ Q v U'.heap L ∧ FrameEnd U o U' L R.cells R.slots)
abbrev zH (Z : State) (a0 : Array Value) : Prop := ∀ d ∈ tables_1, d.before a0 Z = true
theorem zT {Z s : State} {a0 args : Array Value} {d : Jvm.Cond} (hZ : Z.Warmed39 s.vm) (hw : zH Z a0) (i : Nat) (h : tables_1[i]? = some d) (hd : (d.onTables && d.keepsFace) = true := by first | rfl | simp [Cond.onTables, Cond.keepsFace, Cond.keeps, Cond.steady]) : d.before args s = true := mvT hZ (hw d (List.mem_of_getElem? h)) hd
theorem zP (p : Program) (e : Env) (below : List Frame) (T : State) {g g' : JFrame} (q : g = g') : ∀ t, Steps p.tables e below (T.setTop g') t → Steps p.tables e below (T.setTop g) t := fun _ k => castTop q k
abbrev zr (f c s l : Nat) : Room := { frames := f, cells := c, slots := s, locals := l }
def zQ (c : Code) (L : List (Nat × Instr × Nat)) : Prop := ∀ (i : Nat) {a : Nat} {b : Instr} {n : Nat}, L[i]? = some (a, b, n) → decode c.code a = .ok (b, n)
theorem zD {c : Code} {bs : ByteArray} {L : List (Nat × Instr × Nat)} (h : c.code = bs) (hL : ∀ x ∈ L, decode bs x.1 = .ok x.2) : zQ c L := by
  subst h
  intro i a b n q
  exact hL (a, b, n) (List.mem_of_getElem? q)
abbrev y_0 : MethodName := ⟨"java/lang/StringBuilder", "append", "(Ljava/lang/String;)Ljava/lang/StringBuilder;"⟩
abbrev y_1 : MethodName := ⟨"java/lang/StringBuilder", "append", "(C)Ljava/lang/StringBuilder;"⟩
abbrev y_2 : MethodName := ⟨"com/example/dealt/dealt/metrics/ExpositionCounterPinLaw", "put", "([CIIIJJ)V"⟩
abbrev y_3 : MethodName := ⟨"com/example/dealt/dealt/metrics/ExpositionCounterPinLaw", "nz", "(JJ)I"⟩
abbrev y_4 : MethodName := ⟨"java/lang/AbstractStringBuilder", "ensureCapacityInternal", "(I)V"⟩
abbrev y_5 : MethodName := ⟨"com/example/dealt/dealt/metrics/ExpositionCounterPinLaw", "five", "(Ljava/lang/String;[CIII)Z"⟩
abbrev y_6 : MethodName := ⟨"com/example/dealt/dealt/metrics/ExpositionCounterPinLaw", "q", "(Ljava/lang/String;[CIII)Z"⟩
abbrev y_7 : MethodName := ⟨"java/lang/String", "length", "()I"⟩
abbrev y_8 : MethodName := ⟨"java/lang/AbstractStringBuilder", "isLatin1", "()Z"⟩
abbrev y_9 : MethodName := ⟨"java/lang/Math", "min", "(II)I"⟩
abbrev y_10 : MethodName := ⟨"java/lang/String", "coder", "()B"⟩
abbrev y_11 : MethodName := ⟨"java/lang/AbstractStringBuilder", "append", "(Ljava/lang/String;)Ljava/lang/AbstractStringBuilder;"⟩
abbrev y_12 : MethodName := ⟨"java/lang/AbstractStringBuilder", "append", "(C)Ljava/lang/AbstractStringBuilder;"⟩
abbrev y_13 : MethodName := ⟨"com/example/dealt/dealt/metrics/Exposition", "counter", "(Ljava/lang/String;Ljava/lang/String;J)V"⟩
abbrev y_14 : MethodName := ⟨"java/lang/Math", "max", "(II)I"⟩
abbrev y_15 : MethodName := ⟨"java/lang/Math", "abs", "(J)J"⟩
abbrev y_16 : MethodName := ⟨"java/lang/StringBuilder", "append", "(J)Ljava/lang/StringBuilder;"⟩
abbrev y_17 : MethodName := ⟨"com/example/dealt/dealt/metrics/Exposition", "sample", "(Ljava/lang/String;Ljava/lang/String;J)V"⟩
abbrev y_18 : MethodName := ⟨"com/example/dealt/dealt/metrics/Exposition", "head", "(Ljava/lang/String;Ljava/lang/String;Ljava/lang/String;)V"⟩
abbrev y_19 : MethodName := ⟨"java/lang/AbstractStringBuilder", "length", "()I"⟩
abbrev y_20 : MethodName := ⟨"java/util/Arrays", "copyOf", "([BI)[B"⟩
abbrev y_21 : MethodName := ⟨"java/lang/AbstractStringBuilder", "getValue", "()[B"⟩
abbrev y_22 : MethodName := ⟨"java/lang/StringLatin1", "canEncode", "(C)Z"⟩
abbrev y_23 : MethodName := ⟨"java/lang/String", "getBytes", "([BIB)V"⟩
abbrev y_24 : MethodName := ⟨"java/lang/AbstractStringBuilder", "putStringAt", "(ILjava/lang/String;)V"⟩
abbrev y_25 : MethodName := ⟨"java/lang/AbstractStringBuilder", "append", "(J)Ljava/lang/AbstractStringBuilder;"⟩
abbrev y_26 : MethodName := ⟨"java/lang/StringBuilder", "toString", "()Ljava/lang/String;"⟩
abbrev y_27 : MethodName := ⟨"com/example/dealt/dealt/metrics/Exposition", "text", "()Ljava/lang/String;"⟩
abbrev y_28 : MethodName := ⟨"com/example/dealt/dealt/metrics/ExpositionCounterPinLaw", "block", "(Ljava/lang/String;[CII)Z"⟩
abbrev y_29 : MethodName := ⟨"java/lang/StringBuilder", "length", "()I"⟩
abbrev y_30 : MethodName := ⟨"java/lang/AbstractStringBuilder", "inflateIfNeededFor", "(Ljava/lang/String;)V"⟩
abbrev y_31 : MethodName := ⟨"java/lang/AbstractStringBuilder", "<init>", "(I)V"⟩
abbrev y_32 : MethodName := ⟨"java/lang/StringBuilder", "<init>", "()V"⟩
abbrev y_33 : MethodName := ⟨"jdk/internal/util/ArraysSupport", "newLength", "(III)I"⟩
abbrev y_34 : MethodName := ⟨"java/lang/AbstractStringBuilder", "newCapacity", "(I)I"⟩
abbrev y_35 : MethodName := ⟨"java/util/Arrays", "checkLength", "(II)V"⟩
abbrev y_36 : MethodName := ⟨"java/util/Arrays", "copyOfRangeByte", "([BII)[B"⟩
abbrev y_37 : MethodName := ⟨"java/util/Arrays", "copyOfRange", "([BII)[B"⟩
abbrev y_38 : MethodName := ⟨"java/lang/String", "<init>", "(Ljava/lang/AbstractStringBuilder;Ljava/lang/Void;)V"⟩
abbrev y_39 : MethodName := ⟨"java/lang/String", "<init>", "(Ljava/lang/StringBuilder;)V"⟩
abbrev y_40 : MethodName := ⟨"com/example/dealt/dealt/metrics/Exposition", "<init>", "()V"⟩
set_option maxRecDepth 65536
set_option maxHeartbeats 40000000
/-- what a body that writes nothing leaves -/
def QR (r : Option Value) (h0 : Heap) (n0 : Nat) (v : Option Value) (h : Heap) (L : List Loc) : Prop := v = r ∧ Fr n0 L ∧ h = h0
theorem own_s0 (x : Int32) : x >>> ((0 : Int32) &&& 31) = x := by
  apply Int32.toBitVec_inj.mp
  simp
theorem own_l0 (x : Int32) : x <<< ((0 : Int32) &&& 31) = x := by
  apply Int32.toBitVec_inj.mp
  simp
theorem own_selP {Z : State} {a0 : Array Value} {C : String} {y : MethodName} (hs : (Cond.selects C y y).before a0 Z = true) (hp : (Cond.privateMethod y).before a0 Z = true) (hi : (Cond.instanceMethod y).before a0 Z = true) (hy : y.cls ≠ "java/lang/invoke/MethodHandle" ∧ y.cls ≠ "java/lang/invoke/VarHandle") : (Cond.selects y.cls y y).before a0 Z = true := by
  obtain ⟨mk, methM, hnamed, hmethM, -, -⟩ := Cond.instanceMethod_spec hi
  obtain ⟨kP, hk, hf⟩ := notFace_of_selects hs mk hnamed
  exact Jvm.Stand.selects_self_of_private (findClass_of_methodNamed hnamed) hk hf (Cond.privateMethod_at hp) hi hy
theorem own_nf {s : State} {a0 : Array Value} {y y' : MethodName} (hn : NotFace s y) (hi : (Cond.instanceMethod y).before a0 s = true) (hc : y'.cls = y.cls) : NotFace s y' := by
  obtain ⟨mk, methM, hnamed, hmethM, -, -⟩ := Cond.instanceMethod_spec hi
  intro r0 h0
  have e : r0.cls = mk.cls := Option.some.inj ((findClass_of_methodNamed h0).symm.trans (by rw [hc]; exact findClass_of_methodNamed hnamed))
  rw [e]
  exact hn mk hnamed
theorem own_same {Z : State} {a0 : Array Value} {y : MethodName} (hn : NotFace Z y) (hi : (Cond.instanceMethod y).before a0 Z = true) (hy : y.cls ≠ "java/lang/invoke/MethodHandle" ∧ y.cls ≠ "java/lang/invoke/VarHandle") : (Cond.sameMethod y.cls y.cls y.name y.desc).before a0 Z = true := by
  obtain ⟨mk, methM, hnamed, hmethM, -, -⟩ := Cond.instanceMethod_spec hi
  obtain ⟨k, hk, hf⟩ := hn mk hnamed
  have hfound : Z.methodFound? y.cls y.name y.desc = some mk := State.methodFound?_of_named hnamed hy
  have hc := findClass_of_methodNamed hnamed
  simp only [Cond.before, Cond.holds, Cond.value, hc, hfound, hnamed, hk]
  simp; exact hf
theorem own_ti (a : Nat) (h : a < 2147483648) : (Int32.ofNat a).toInt = (a : Int) := Int32.toInt_ofNat_of_lt (by omega)
theorem own_lt (a b : Nat) (ha : a < 2147483648) (hb : b < 2147483648) : Int32.ofNat a < Int32.ofNat b ↔ a < b := by
  rw [Int32.lt_iff_toInt_lt, own_ti a ha, own_ti b hb]; omega
theorem own_cl (a : Nat) (ha : a < 2147483648) : (Int32.ofNat a).toNatClampNeg = a := by
  show (Int32.ofNat a).toInt.toNat = a
  rw [own_ti a ha]; omega
theorem own_nn (a : Nat) (ha : a < 2147483648) : ¬ Int32.ofNat a < 0 := by
  rw [Int32.lt_iff_toInt_lt, own_ti a ha]
  have : (0 : Int32).toInt = 0 := by decide
  omega
theorem own_eq (a b : Nat) (ha : a < 2147483648) (hb : b < 2147483648) : Int32.ofNat a = Int32.ofNat b ↔ a = b := by
  constructor
  · intro q
    have := congrArg Int32.toInt q
    rw [own_ti a ha, own_ti b hb] at this
    omega
  · rintro rfl; rfl
theorem own_sub (a b : Nat) (h : a ≤ b) : Int32.ofNat b - Int32.ofNat a = Int32.ofNat (b - a) := by
  have e : b = (b - a) + a := by omega
  rw [show Int32.ofNat b = Int32.ofNat (b - a) + Int32.ofNat a by rw [← Int32.ofNat_add, ← e], Int32.add_sub_cancel]
def l28 : List (Nat × Instr × Nat) := [(0, .iload_n 0, 1), (1, .iload_n 1, 1), (2, .if_icmp .gt 7, 3), (5, .iload_n 0, 1), (6, .goto 4, 3), (10, .ireturn, 1), (9, .iload_n 1, 1)]
theorem D28 {c : Code} (h : c.code = jdk_29_method_69_code) : zQ c l28 := zD h (by decide +kernel)
theorem ef_28 (m : MethodId) (x0 : Int32) (x1 : Int32) : entryFrame m #[.int x0, .int x1] 2 = mkF m 0 #[.val (.int x0), .val (.int x1)] [] := by first | (simp [entryFrame, mkF, argsToLocals, Value.category]; done) | rfl
theorem r28a (l : Launch) (Z : State) (a0 : Array Value) (hw : zH Z a0) (ws : List Jvm.Cond) (p1 : Int32) (p2 : Int32) (h0 : Heap) (n0 : Nat) (Z0 : n0 ≤ h0.size) (hc2 : ¬ (p2 < p1)) :
    zM l Z h0 ws y_9 jdk_29_method_69_code 2 (some .int) (zr 0 0 0 0) #[.int p1, .int p2] (QR (some (.int p1)) h0 n0) := by
  refine MetFree.of_bodySF (Jvm.Free.JP.mathPlain rfl (by decide +kernel)) hisR ?_
  intro p e s m args below meth c s₁ Bd hml0 hP hK
  obtain ⟨rfl, hZ, hh⟩ := hP
  have hx := Bd.exec
  have hby := Bd.bytes
  have hml : c.maxLocals = 2 := hml0
  have hown : s.vm.findClass "java/lang/Math" = some m.cls := findClass_of_methodNamed Bd.named
  have X0 : Stand p l e (zr 0 0 0 0) s m #[.int p1, .int p2] below meth c s₁ [] 0 0 := Stand.of_body Bd
  have e0 : s₁.heap = h0 := by rw [← hh, Bd.state]; rfl
  have N0 := Fr.nil n0
  have pre0 := zP p e below s₁ (ef_28 m p1 p2)
  obtain ⟨fs, hr, hrun, hended, hW, hsame⟩ := X0.leave (v := some (.int p1)) (fun h => by rw [Bd.returns] at h; cases h)
  refine ⟨_, _, pre0 _ ?_, hrun, hended, _, _, rfl, ?_, ⟨_, rfl⟩, hW, hsame.mono (by decide) (by decide)⟩
  · refine XS.iloadN X0.here hx rfl (D28 hby 0 rfl) rfl ?_
    refine XS.iloadN X0.here hx rfl (D28 hby 1 rfl) rfl ?_
    refine XS.icmpNo X0.here hx rfl (D28 hby 2 rfl) rfl (flt hc2).2.2.1 ?_
    refine XS.iloadN X0.here hx rfl (D28 hby 3 rfl) rfl ?_
    refine XS.goto X0.here hx rfl (pc0 := 6) (pc' := 10) rfl (D28 hby 4 rfl) (by decide) (by decide) ?_
    exact retI X0 hx Bd.returns (D28 hby 5 rfl) hr
  · show QR (some (.int p1)) h0 n0 _ s₁.heap _
    rw [e0]
    exact ⟨rfl, N0, rfl⟩
theorem r28b (l : Launch) (Z : State) (a0 : Array Value) (hw : zH Z a0) (ws : List Jvm.Cond) (p1 : Int32) (p2 : Int32) (h0 : Heap) (n0 : Nat) (Z0 : n0 ≤ h0.size) (hc2 : p2 < p1) :
    zM l Z h0 ws y_9 jdk_29_method_69_code 2 (some .int) (zr 0 0 0 0) #[.int p1, .int p2] (QR (some (.int p2)) h0 n0) := by
  refine MetFree.of_bodySF (Jvm.Free.JP.mathPlain rfl (by decide +kernel)) hisR ?_
  intro p e s m args below meth c s₁ Bd hml0 hP hK
  obtain ⟨rfl, hZ, hh⟩ := hP
  have hx := Bd.exec
  have hby := Bd.bytes
  have hml : c.maxLocals = 2 := hml0
  have hown : s.vm.findClass "java/lang/Math" = some m.cls := findClass_of_methodNamed Bd.named
  have X0 : Stand p l e (zr 0 0 0 0) s m #[.int p1, .int p2] below meth c s₁ [] 0 0 := Stand.of_body Bd
  have e0 : s₁.heap = h0 := by rw [← hh, Bd.state]; rfl
  have N0 := Fr.nil n0
  have pre0 := zP p e below s₁ (ef_28 m p1 p2)
  obtain ⟨fs, hr, hrun, hended, hW, hsame⟩ := X0.leave (v := some (.int p2)) (fun h => by rw [Bd.returns] at h; cases h)
  refine ⟨_, _, pre0 _ ?_, hrun, hended, _, _, rfl, ?_, ⟨_, rfl⟩, hW, hsame.mono (by decide) (by decide)⟩
  · refine XS.iloadN X0.here hx rfl (D28 hby 0 rfl) rfl ?_
    refine XS.iloadN X0.here hx rfl (D28 hby 1 rfl) rfl ?_
    refine XS.icmpYes X0.here hx rfl (pc0 := 2) (pc' := 9) rfl (D28 hby 2 rfl) rfl (tlt hc2).2.2.1 (by decide) (by decide) ?_
    refine XS.iloadN X0.here hx rfl (D28 hby 6 rfl) rfl ?_
    exact retI X0 hx Bd.returns (D28 hby 5 rfl) hr
  · show QR (some (.int p2)) h0 n0 _ s₁.heap _
    rw [e0]
    exact ⟨rfl, N0, rfl⟩
def l26 : List (Nat × Instr × Nat) := [(0, .iload_n 0, 1), (1, .iload_n 1, 1), (2, .if_icmp .lt 7, 3), (5, .iload_n 0, 1), (6, .goto 4, 3), (10, .ireturn, 1), (9, .iload_n 1, 1)]
theorem D26 {c : Code} (h : c.code = jdk_29_method_65_code) : zQ c l26 := zD h (by decide +kernel)
theorem r26a (l : Launch) (Z : State) (a0 : Array Value) (hw : zH Z a0) (ws : List Jvm.Cond) (p1 : Int32) (p2 : Int32) (h0 : Heap) (n0 : Nat) (Z0 : n0 ≤ h0.size) (hc2 : ¬ (p1 < p2)) :
    zM l Z h0 ws y_14 jdk_29_method_65_code 2 (some .int) (zr 0 0 0 0) #[.int p1, .int p2] (QR (some (.int p1)) h0 n0) := by
  refine MetFree.of_bodySF (Jvm.Free.JP.mathPlain rfl (by decide +kernel)) hisR ?_
  intro p e s m args below meth c s₁ Bd hml0 hP hK
  obtain ⟨rfl, hZ, hh⟩ := hP
  have hx := Bd.exec
  have hby := Bd.bytes
  have hml : c.maxLocals = 2 := hml0
  have hown : s.vm.findClass "java/lang/Math" = some m.cls := findClass_of_methodNamed Bd.named
  have X0 : Stand p l e (zr 0 0 0 0) s m #[.int p1, .int p2] below meth c s₁ [] 0 0 := Stand.of_body Bd
  have e0 : s₁.heap = h0 := by rw [← hh, Bd.state]; rfl
  have N0 := Fr.nil n0
  have pre0 := zP p e below s₁ (ef_28 m p1 p2)
  obtain ⟨fs, hr, hrun, hended, hW, hsame⟩ := X0.leave (v := some (.int p1)) (fun h => by rw [Bd.returns] at h; cases h)
  refine ⟨_, _, pre0 _ ?_, hrun, hended, _, _, rfl, ?_, ⟨_, rfl⟩, hW, hsame.mono (by decide) (by decide)⟩
  · refine XS.iloadN X0.here hx rfl (D26 hby 0 rfl) rfl ?_
    refine XS.iloadN X0.here hx rfl (D26 hby 1 rfl) rfl ?_
    refine XS.icmpNo X0.here hx rfl (D26 hby 2 rfl) rfl (flt hc2).1 ?_
    refine XS.iloadN X0.here hx rfl (D26 hby 3 rfl) rfl ?_
    refine XS.goto X0.here hx rfl (pc0 := 6) (pc' := 10) rfl (D26 hby 4 rfl) (by decide) (by decide) ?_
    exact retI X0 hx Bd.returns (D26 hby 5 rfl) hr
  · show QR (some (.int p1)) h0 n0 _ s₁.heap _
    rw [e0]
    exact ⟨rfl, N0, rfl⟩
theorem r26b (l : Launch) (Z : State) (a0 : Array Value) (hw : zH Z a0) (ws : List Jvm.Cond) (p1 : Int32) (p2 : Int32) (h0 : Heap) (n0 : Nat) (Z0 : n0 ≤ h0.size) (hc2 : p1 < p2) :
    zM l Z h0 ws y_14 jdk_29_method_65_code 2 (some .int) (zr 0 0 0 0) #[.int p1, .int p2] (QR (some (.int p2)) h0 n0) := by
  refine MetFree.of_bodySF (Jvm.Free.JP.mathPlain rfl (by decide +kernel)) hisR ?_
  intro p e s m args below meth c s₁ Bd hml0 hP hK
  obtain ⟨rfl, hZ, hh⟩ := hP
  have hx := Bd.exec
  have hby := Bd.bytes
  have hml : c.maxLocals = 2 := hml0
  have hown : s.vm.findClass "java/lang/Math" = some m.cls := findClass_of_methodNamed Bd.named
  have X0 : Stand p l e (zr 0 0 0 0) s m #[.int p1, .int p2] below meth c s₁ [] 0 0 := Stand.of_body Bd
  have e0 : s₁.heap = h0 := by rw [← hh, Bd.state]; rfl
  have N0 := Fr.nil n0
  have pre0 := zP p e below s₁ (ef_28 m p1 p2)
  obtain ⟨fs, hr, hrun, hended, hW, hsame⟩ := X0.leave (v := some (.int p2)) (fun h => by rw [Bd.returns] at h; cases h)
  refine ⟨_, _, pre0 _ ?_, hrun, hended, _, _, rfl, ?_, ⟨_, rfl⟩, hW, hsame.mono (by decide) (by decide)⟩
  · refine XS.iloadN X0.here hx rfl (D26 hby 0 rfl) rfl ?_
    refine XS.iloadN X0.here hx rfl (D26 hby 1 rfl) rfl ?_
    refine XS.icmpYes X0.here hx rfl (pc0 := 2) (pc' := 9) rfl (D26 hby 2 rfl) rfl (tlt hc2).1 (by decide) (by decide) ?_
    refine XS.iloadN X0.here hx rfl (D26 hby 6 rfl) rfl ?_
    exact retI X0 hx Bd.returns (D26 hby 5 rfl) hr
  · show QR (some (.int p2)) h0 n0 _ s₁.heap _
    rw [e0]
    exact ⟨rfl, N0, rfl⟩
def own_min (x y : Int32) : Int32 := if y < x then y else x
def own_max (x y : Int32) : Int32 := if x < y then y else x
theorem own_max_n (a b : Nat) (ha : a < 2147483648) (hb : b < 2147483648) : own_max (Int32.ofNat a) (Int32.ofNat b) = Int32.ofNat (max a b) := by
  unfold own_max
  by_cases h : Int32.ofNat a < Int32.ofNat b
  · rw [if_pos h, show max a b = b by have := (own_lt a b ha hb).mp h; omega]
  · rw [if_neg h, show max a b = a by have : ¬ a < b := fun q => h ((own_lt a b ha hb).mpr q)
                                      omega]
theorem own_min_n (a b : Nat) (ha : a < 2147483648) (hb : b < 2147483648) : own_min (Int32.ofNat a) (Int32.ofNat b) = Int32.ofNat (min a b) := by
  unfold own_min
  by_cases h : Int32.ofNat b < Int32.ofNat a
  · rw [if_pos h, show min a b = b by have := (own_lt b a hb ha).mp h; omega]
  · rw [if_neg h, show min a b = a by have : ¬ b < a := fun q => h ((own_lt b a hb ha).mpr q)
                                      omega]
theorem r26 (l : Launch) (Z : State) (a0 : Array Value) (hw : zH Z a0) (ws : List Jvm.Cond) (p1 p2 vv : Int32) (h0 : Heap) (n0 : Nat) (Z0 : n0 ≤ h0.size) (hv : own_max p1 p2 = vv) :
    zM l Z h0 ws y_14 jdk_29_method_65_code 2 (some .int) (zr 0 0 0 0) #[.int p1, .int p2] (QR (some (.int vv)) h0 n0) := by
  subst hv
  by_cases h : p1 < p2
  · rw [show own_max p1 p2 = p2 from if_pos h]; exact r26b l Z a0 hw ws p1 p2 h0 n0 Z0 h
  · rw [show own_max p1 p2 = p1 from if_neg h]; exact r26a l Z a0 hw ws p1 p2 h0 n0 Z0 h
theorem r28 (l : Launch) (Z : State) (a0 : Array Value) (hw : zH Z a0) (ws : List Jvm.Cond) (p1 p2 vv : Int32) (h0 : Heap) (n0 : Nat) (Z0 : n0 ≤ h0.size) (hv : own_min p1 p2 = vv) :
    zM l Z h0 ws y_9 jdk_29_method_69_code 2 (some .int) (zr 0 0 0 0) #[.int p1, .int p2] (QR (some (.int vv)) h0 n0) := by
  subst hv
  by_cases h : p2 < p1
  · rw [show own_min p1 p2 = p2 from if_pos h]; exact r28b l Z a0 hw ws p1 p2 h0 n0 Z0 h
  · rw [show own_min p1 p2 = p1 from if_neg h]; exact r28a l Z a0 hw ws p1 p2 h0 n0 Z0 h
def own_by (xs : List Int32) : List Value := (xs.map StrChars.lo8).map Value.int
def own_Str (Z : State) (h : Heap) (o : Addr) (xs : List Int32) : Prop := Exa Z h o "java/lang/String" ∧ Fld Z h o "java/lang/String" "coder" "B" (.int 0) ∧ ∃ (t : Addr) (k : ClassId), Fld Z h o "java/lang/String" "value" "[B" (.ref t) ∧ Arv Z h t k .byte (Int32.ofNat xs.length) (own_by xs) (.int 0)
def own_SBv (Z : State) (h : Heap) (b : Addr) (cs : List Int32) (c : Nat) (t : Addr) : Prop := Exa Z h b "java/lang/StringBuilder" ∧ Fld Z h b "java/lang/AbstractStringBuilder" "coder" "B" (.int 0) ∧ Fld Z h b "java/lang/AbstractStringBuilder" "count" "I" (.int (Int32.ofNat cs.length)) ∧ Fld Z h b "java/lang/AbstractStringBuilder" "value" "[B" (.ref t) ∧ ∃ (k : ClassId) (vs : List Value), Arv Z h t k .byte (Int32.ofNat c) vs (.int 0) ∧ vs.length = c ∧ cs.length ≤ c ∧ vs.take cs.length = own_by cs
def own_CS (Z : State) (h : Heap) : Prop := ∃ z : Int32, Sta Z h "java/lang/String" "COMPACT_STRINGS" "Z" (.int z) ∧ ¬ z = 0
theorem own_CS.ext {Z : State} {h h' : Heap} (S : own_CS Z h) (E : Ext h h') : own_CS Z h' := by
  obtain ⟨z, S1, hz⟩ := S
  exact ⟨z, S1.ext E, hz⟩
theorem own_by_len (xs : List Int32) : (own_by xs).length = xs.length := by unfold own_by; rw [List.length_map, List.length_map]
theorem own_by_app (xs ys : List Int32) : own_by (xs ++ ys) = own_by xs ++ own_by ys := by unfold own_by; rw [List.map_append, List.map_append]
theorem own_rng (vs : List Value) (d : Value) (n : Nat) (h : vs.length = n) : ((List.range n).map fun i => vs.getD (0 + i) d) = vs := by
  subst h
  apply List.ext_getElem
  · simp
  · intro i h1 h2
    simp [List.getD_eq_getElem?_getD, List.getElem?_eq_getElem h2]
theorem own_Str.keep1 {Z : State} {h h' : Heap} {o x : Addr} {xs : List Int32} {a0 : Array Value} {C : String} {kI : Nat} (T : own_Str Z h o xs) (K : Keep h h' [x]) (X : Exa Z h x C) (hC : "java/lang/String" ≠ C) (w : (Cond.instantiable C kI).before a0 Z = true) : own_Str Z h' o xs := by
  obtain ⟨E, FC, t, k, FV, V⟩ := T
  have h1 : o ≠ x := Exa.ne E X hC
  have h2 : t ≠ x := fun q => Exa.neArv X V w q.symm
  exact ⟨E.keep K, FC.keep K (ninS h1 nin0), t, k, FV.keep K (ninS h1 nin0), V.keep K (ninS h2 nin0)⟩
theorem own_Str.keep0 {Z : State} {h h' : Heap} {o : Addr} {xs : List Int32} (T : own_Str Z h o xs) (K : Keep h h' []) : own_Str Z h' o xs := by
  obtain ⟨E, FC, t, k, FV, V⟩ := T
  exact ⟨E.keep K, FC.keep K nin0, t, k, FV.keep K nin0, V.keep K nin0⟩
theorem own_SBv.keep0 {Z : State} {h h' : Heap} {b t : Addr} {cs : List Int32} {c : Nat} (T : own_SBv Z h b cs c t) (K : Keep h h' []) : own_SBv Z h' b cs c t := by
  obtain ⟨E, F1, F2, F3, k, vs, V, hv⟩ := T
  exact ⟨E.keep K, F1.keep K nin0, F2.keep K nin0, F3.keep K nin0, k, vs, V.keep K nin0, hv⟩
def l15 : List (Nat × Instr × Nat) := [(0, .getstatic 38, 3), (3, .ifCond .eq 10, 3), (6, .aload_n 0, 1), (7, .getfield 15, 3), (10, .goto 4, 3), (14, .ireturn, 1)]
theorem D15 {c : Code} (h : c.code = jdk_42_method_152_code) : zQ c l15 := zD h (by decide +kernel)
theorem pn_15 : plainName "java/lang/String" = true := by first | (simp [plainName, overriddenIn]; done) | decide +kernel
theorem ef_15 (m : MethodId) (x0 : Addr) : entryFrame m #[.ref x0] 1 = mkF m 0 #[.val (.ref x0)] [] := by first | (simp [entryFrame, mkF, argsToLocals, Value.category]; done) | rfl
theorem zW {Z : State} {a0 : Array Value} {d : Jvm.Cond} (hw : zH Z a0) (i : Nat) (h : tables_1[i]? = some d) : d.before a0 Z = true := hw d (List.mem_of_getElem? h)
theorem r15 (l : Launch) (Z : State) (a0 : Array Value) (hw : zH Z a0) (ws : List Jvm.Cond) (a1 : Addr) (w2 : Int32) (h0 : Heap) (n0 : Nat) (Z0 : n0 ≤ h0.size) (S_COMPACT_STRINGS : Sta Z h0 "java/lang/String" "COMPACT_STRINGS" "Z" (.int w2)) (F_coder_a1 : Fld Z h0 a1 "java/lang/String" "coder" "B" (.int 0)) (hc3 : ¬ (w2 = (0 : Int32))) :
    zM l Z h0 ws y_10 jdk_42_method_152_code 1 (some .byte) (zr 0 0 0 0) #[.ref a1] (QR (some (.int 0)) h0 n0) := by
  refine MetFree.of_bodySF (plainFor_of_name pn_15) hisR ?_
  intro p e s m args below meth c s₁ Bd hml0 hP hK
  obtain ⟨rfl, hZ, hh⟩ := hP
  have hx := Bd.exec
  have hby := Bd.bytes
  have hml : c.maxLocals = 1 := hml0
  have hown : s.vm.findClass "java/lang/String" = some m.cls := findClass_of_methodNamed Bd.named
  have X0 : Stand p l e (zr 0 0 0 0) s m #[.ref a1] below meth c s₁ [] 0 0 := Stand.of_body Bd
  have e0 : s₁.heap = h0 := by rw [← hh, Bd.state]; rfl
  have N0 := Fr.nil n0
  have pre0 := zP p e below s₁ (ef_15 m a1)
  obtain ⟨T3, X3, e3, st3⟩ := getS2 X0 hx hZ hown (host := "") (Or.inl (zW hw 14 rfl)) Via.refl e0 S_COMPACT_STRINGS (g := (mkF m 0 #[.val (.ref a1)] [])) rfl (D15 hby 0 rfl)
  obtain ⟨T5, X5, e5, st5⟩ := getF X3 hx hZ hown (host := "") (Or.inl (zW hw 26 rfl)) Via.refl e3 F_coder_a1 (g := (mkF m 7 #[.val (.ref a1)] [.ref a1])) rfl rfl (D15 hby 3 rfl)
  obtain ⟨fs, hr, hrun, hended, hW, hsame⟩ := X5.leave (v := some (.int 0)) (fun h => by rw [Bd.returns] at h; cases h)
  refine ⟨_, _, pre0 _ ?_, hrun, hended, _, _, rfl, ?_, ⟨_, rfl⟩, hW, hsame.mono (by decide) (by decide)⟩
  · refine st3 _ ?_
    refine XS.ifNo X3.here hx rfl (D15 hby 1 rfl) rfl ((if0 _ _).trans (feq hc3).1) ?_
    refine XS.aloadN X3.here hx rfl (D15 hby 2 rfl) rfl rfl ?_
    refine st5 _ ?_
    refine XS.goto X5.here hx rfl (pc0 := 10) (pc' := 14) rfl (D15 hby 4 rfl) (by decide) (by decide) ?_
    exact retN X5 hx (t := .byte) Bd.returns (by simp) (D15 hby 5 rfl) hr
  · show QR (some (.int 0)) h0 n0 _ T5.heap _
    rw [e5]
    exact ⟨rfl, N0, rfl⟩
def l14 : List (Nat × Instr × Nat) := [(0, .aload_n 0, 1), (1, .getfield 9, 3), (4, .arraylength, 1), (5, .aload_n 0, 1), (6, .invokevirtual 335, 3), (9, .ishr, 1), (10, .ireturn, 1)]
theorem D14 {c : Code} (h : c.code = jdk_42_method_54_code) : zQ c l14 := zD h (by decide +kernel)
theorem pd_14_12 : parseMethodDescriptor "()B" = some ⟨[], some .byte⟩ := by decide +kernel
theorem r14 (l : Launch) (Z : State) (a0 : Array Value) (hw : zH Z a0) (ws : List Jvm.Cond) (a1 : Addr) (w2 : Addr) (cl_w2 : Cell) (z_w2 : Int32) (zc : Int32) (h0 : Heap) (n0 : Nat) (Z0 : n0 ≤ h0.size) (F_value_a1 : Fld Z h0 a1 "java/lang/String" "value" "[B" (.ref w2)) (Ar_w2 : Arr Z h0 w2 cl_w2 .byte) (S_w2 : cl_w2.slots.size = z_w2.toNatClampNeg) (N_w2 : ¬ z_w2 < 0) (E_a1 : Exa Z h0 a1 "java/lang/String") (SC : Sta Z h0 "java/lang/String" "COMPACT_STRINGS" "Z" (.int zc)) (hz : ¬ zc = 0) (FC : Fld Z h0 a1 "java/lang/String" "coder" "B" (.int 0)) :
    zM l Z h0 ws y_7 jdk_42_method_54_code 1 (some .int) (zr 1 0 0 13) #[.ref a1] (QR (some (.int (z_w2 >>> ((0 : Int32) &&& 31)))) h0 n0) := by
  refine MetFree.of_bodySF (plainFor_of_name pn_15) hisR ?_
  intro p e s m args below meth c s₁ Bd hml0 hP hK
  obtain ⟨rfl, hZ, hh⟩ := hP
  have hx := Bd.exec
  have hby := Bd.bytes
  have hml : c.maxLocals = 1 := hml0
  have hown : s.vm.findClass "java/lang/String" = some m.cls := findClass_of_methodNamed Bd.named
  have X0 : Stand p l e (zr 1 0 0 13) s m #[.ref a1] below meth c s₁ [] 0 0 := Stand.of_body Bd
  have e0 : s₁.heap = h0 := by rw [← hh, Bd.state]; rfl
  have N0 := Fr.nil n0
  have pre0 := zP p e below s₁ (ef_15 m a1)
  obtain ⟨T3, X3, e3, st3⟩ := getF X0 hx hZ hown (host := "") (Or.inl (zW hw 28 rfl)) Via.refl e0 F_value_a1 (g := (mkF m 1 #[.val (.ref a1)] [.ref a1])) rfl rfl (D14 hby 1 rfl)
  obtain ⟨cq4, kq4, q4a, q4b, q4c⟩ := isOf hZ e3 E_a1
  obtain ⟨_, _, ⟨T4, L4, k4, n4⟩, -, X4, ⟨Lc4, hQ4, l4, y4, z4⟩, st4⟩ := X3.virtualBack hx (y := y_10) hown (zT hZ hw 85 rfl) (zT hZ hw 86 rfl) (notFace_of_selects (args := #[]) (zT hZ hw 88 rfl)) (zT hZ hw 88 rfl) (zT hZ hw 87 rfl) (by decide) (backOf (W := 1) (r15 l Z a0 hw [] a1 zc h0 n0 Z0 SC FC hz) hZ (zW hw 89 rfl) (zW hw 2 rfl) (by decide) (by decide)) q4a q4c (g := (mkF m 6 #[.val (.ref a1)] [.ref a1, .int z_w2])) rfl (by rw [hml]; rfl) (Steps.refl _) (argsL := []) (rest := [.int z_w2]) (lenOf pd_14_12 rfl) rfl (Nat.le_of_eq rfl) (D14 hby 4 rfl) (fun _ _ => ⟨rfl, e3, (by decide : 0 + 0 ≤ _), (by decide : 0 + 0 ≤ _)⟩)
  dsimp only [Pt.U, Pt.locs, Pt.cells, Pt.slots] at X4 l4 y4 z4 st4 hQ4
  subst l4 y4 z4
  obtain ⟨rfl, N4q, e4⟩ := hQ4
  have N4 := Fr.app N0 N4q
  obtain ⟨fs, hr, hrun, hended, hW, hsame⟩ := X4.leave (v := some (.int (z_w2 >>> ((0 : Int32) &&& 31)))) (fun h => by rw [Bd.returns] at h; cases h)
  refine ⟨_, _, pre0 _ ?_, hrun, hended, _, _, rfl, ?_, ⟨_, rfl⟩, hW, hsame.mono (by decide) (by decide)⟩
  · refine XS.aloadN X0.here hx rfl (D14 hby 0 rfl) rfl rfl ?_
    refine st3 _ ?_
    refine X3.arraylength hx (by rw [e3]; exact Ar_w2.1) (State.isArrayOf_alike hZ.alike Ar_w2.2.1) (g := (mkF m 4 #[.val (.ref a1)] [.ref w2])) rfl rfl (D14 hby 2 rfl) _ ?_
    rw [len_of S_w2 N_w2]
    refine XS.aloadN X3.here hx rfl (D14 hby 3 rfl) rfl rfl ?_
    refine st4.trans ?_
    refine XS.ishr X4.here hx rfl (D14 hby 5 rfl) rfl ?_
    exact retI X4 hx Bd.returns (D14 hby 6 rfl) hr
  · show QR (some (.int (z_w2 >>> ((0 : Int32) &&& 31)))) h0 n0 _ T4.heap _
    rw [e4]
    exact ⟨rfl, N4, rfl⟩
theorem r14n (l : Launch) (Z : State) (a0 : Array Value) (hw : zH Z a0) (ws : List Jvm.Cond) (a1 : Addr) (xs : List Int32) (h0 : Heap) (n0 : Nat) (Z0 : n0 ≤ h0.size) (S : own_Str Z h0 a1 xs) (CS : own_CS Z h0) :
    zM l Z h0 ws y_7 jdk_42_method_54_code 1 (some .int) (zr 1 0 0 13) #[.ref a1] (QR (some (.int (Int32.ofNat xs.length))) h0 n0) := by
  obtain ⟨E, FC, t, k, FV, cl, Ar, q, Sz, N, H, G⟩ := S
  obtain ⟨zc, SC, hz⟩ := CS
  rw [← own_s0 (Int32.ofNat xs.length)]
  exact r14 l Z a0 hw ws a1 t cl (Int32.ofNat xs.length) zc h0 n0 Z0 FV Ar Sz N E SC hz FC
def l38 : List (Nat × Instr × Nat) := [(0, .aload_n 0, 1), (1, .getfield 15, 3), (4, .areturn, 1)]
theorem D38 {c : Code} (h : c.code = jdk_68_method_64_code) : zQ c l38 := zD h (by decide +kernel)
theorem pn_38 : plainName "java/lang/AbstractStringBuilder" = true := by first | (simp [plainName, overriddenIn]; done) | decide +kernel
theorem r38 (l : Launch) (Z : State) (a0 : Array Value) (hw : zH Z a0) (ws : List Jvm.Cond) (a1 : Addr) (w2 : Addr) (h0 : Heap) (n0 : Nat) (Z0 : n0 ≤ h0.size) (F_value_a1 : Fld Z h0 a1 "java/lang/AbstractStringBuilder" "value" "[B" (.ref w2)) :
    zM l Z h0 ws y_21 jdk_68_method_64_code 1 (some (.array .byte)) (zr 0 0 0 0) #[.ref a1] (QR (some (.ref w2)) h0 n0) := by
  refine MetFree.of_bodySF (plainFor_of_name pn_38) hisR ?_
  intro p e s m args below meth c s₁ Bd hml0 hP hK
  obtain ⟨rfl, hZ, hh⟩ := hP
  have hx := Bd.exec
  have hby := Bd.bytes
  have hml : c.maxLocals = 1 := hml0
  have hown : s.vm.findClass "java/lang/AbstractStringBuilder" = some m.cls := findClass_of_methodNamed Bd.named
  have X0 : Stand p l e (zr 0 0 0 0) s m #[.ref a1] below meth c s₁ [] 0 0 := Stand.of_body Bd
  have e0 : s₁.heap = h0 := by rw [← hh, Bd.state]; rfl
  have N0 := Fr.nil n0
  have pre0 := zP p e below s₁ (ef_15 m a1)
  obtain ⟨T3, X3, e3, st3⟩ := getF X0 hx hZ hown (host := "") (Or.inl (zW hw 51 rfl)) Via.refl e0 F_value_a1 (g := (mkF m 1 #[.val (.ref a1)] [.ref a1])) rfl rfl (D38 hby 1 rfl)
  obtain ⟨fs, hr, hrun, hended, hW, hsame⟩ := X3.leave (v := some (.ref w2)) (fun h => by rw [Bd.returns] at h; cases h)
  refine ⟨_, _, pre0 _ ?_, hrun, hended, _, _, rfl, ?_, ⟨_, rfl⟩, hW, hsame.mono (by decide) (by decide)⟩
  · refine XS.aloadN X0.here hx rfl (D38 hby 0 rfl) rfl rfl ?_
    refine st3 _ ?_
    jvm_step X3.here [X3.here.top, hx, (D38 hby 2 rfl), X3.method', Bd.returns, Value.isRef, FieldType.isReference]
    first | (intro acts; rw [hr _ acts rfl rfl rfl]) | rw [hr _ _ rfl rfl rfl]
    exact Steps.refl _
  · show QR (some (.ref w2)) h0 n0 _ T3.heap _
    rw [e3]
    exact ⟨rfl, N0, rfl⟩
def l40 : List (Nat × Instr × Nat) := [(0, .aload_n 0, 1), (1, .getfield 79, 3), (4, .ireturn, 1)]
theorem D40 {c : Code} (h : c.code = jdk_68_method_6_code) : zQ c l40 := zD h (by decide +kernel)
theorem r40 (l : Launch) (Z : State) (a0 : Array Value) (hw : zH Z a0) (ws : List Jvm.Cond) (a1 : Addr) (w2 : Int32) (h0 : Heap) (n0 : Nat) (Z0 : n0 ≤ h0.size) (F_count_a1 : Fld Z h0 a1 "java/lang/AbstractStringBuilder" "count" "I" (.int w2)) :
    zM l Z h0 ws y_19 jdk_68_method_6_code 1 (some .int) (zr 0 0 0 0) #[.ref a1] (QR (some (.int w2)) h0 n0) := by
  refine MetFree.of_bodySF (plainFor_of_name pn_38) hisR ?_
  intro p e s m args below meth c s₁ Bd hml0 hP hK
  obtain ⟨rfl, hZ, hh⟩ := hP
  have hx := Bd.exec
  have hby := Bd.bytes
  have hml : c.maxLocals = 1 := hml0
  have hown : s.vm.findClass "java/lang/AbstractStringBuilder" = some m.cls := findClass_of_methodNamed Bd.named
  have X0 : Stand p l e (zr 0 0 0 0) s m #[.ref a1] below meth c s₁ [] 0 0 := Stand.of_body Bd
  have e0 : s₁.heap = h0 := by rw [← hh, Bd.state]; rfl
  have N0 := Fr.nil n0
  have pre0 := zP p e below s₁ (ef_15 m a1)
  obtain ⟨T3, X3, e3, st3⟩ := getF X0 hx hZ hown (host := "") (Or.inl (zW hw 90 rfl)) Via.refl e0 F_count_a1 (g := (mkF m 1 #[.val (.ref a1)] [.ref a1])) rfl rfl (D40 hby 1 rfl)
  obtain ⟨fs, hr, hrun, hended, hW, hsame⟩ := X3.leave (v := some (.int w2)) (fun h => by rw [Bd.returns] at h; cases h)
  refine ⟨_, _, pre0 _ ?_, hrun, hended, _, _, rfl, ?_, ⟨_, rfl⟩, hW, hsame.mono (by decide) (by decide)⟩
  · refine XS.aloadN X0.here hx rfl (D40 hby 0 rfl) rfl rfl ?_
    refine st3 _ ?_
    exact retI X3 hx Bd.returns (D40 hby 2 rfl) hr
  · show QR (some (.int w2)) h0 n0 _ T3.heap _
    rw [e3]
    exact ⟨rfl, N0, rfl⟩
def l22 : List (Nat × Instr × Nat) := [(0, .getstatic 18, 3), (3, .ifCond .eq 14, 3), (6, .aload_n 0, 1), (7, .getfield 22, 3), (10, .ifCond .ne 7, 3), (13, .iconst 1, 1), (14, .goto 4, 3), (18, .ireturn, 1)]
theorem D22 {c : Code} (h : c.code = jdk_68_method_68_code) : zQ c l22 := zD h (by decide +kernel)
theorem r22 (l : Launch) (Z : State) (a0 : Array Value) (hw : zH Z a0) (ws : List Jvm.Cond) (a1 : Addr) (w2 : Int32) (w4 : Int32) (h0 : Heap) (n0 : Nat) (Z0 : n0 ≤ h0.size) (S_COMPACT_STRINGS : Sta Z h0 "java/lang/String" "COMPACT_STRINGS" "Z" (.int w2)) (F_coder_a1 : Fld Z h0 a1 "java/lang/AbstractStringBuilder" "coder" "B" (.int w4)) (hc3 : ¬ (w2 = (0 : Int32))) (hc10 : w4 = (0 : Int32)) :
    zM l Z h0 ws y_8 jdk_68_method_68_code 1 (some .boolean) (zr 0 0 0 0) #[.ref a1] (QR (some (.int 1)) h0 n0) := by
  refine MetFree.of_bodySF (plainFor_of_name pn_38) hisR ?_
  intro p e s m args below meth c s₁ Bd hml0 hP hK
  obtain ⟨rfl, hZ, hh⟩ := hP
  have hx := Bd.exec
  have hby := Bd.bytes
  have hml : c.maxLocals = 1 := hml0
  have hown : s.vm.findClass "java/lang/AbstractStringBuilder" = some m.cls := findClass_of_methodNamed Bd.named
  have X0 : Stand p l e (zr 0 0 0 0) s m #[.ref a1] below meth c s₁ [] 0 0 := Stand.of_body Bd
  have e0 : s₁.heap = h0 := by rw [← hh, Bd.state]; rfl
  have N0 := Fr.nil n0
  have pre0 := zP p e below s₁ (ef_15 m a1)
  obtain ⟨T3, X3, e3, st3⟩ := getS2 X0 hx hZ hown (host := "") (Or.inl (zW hw 50 rfl)) Via.refl e0 S_COMPACT_STRINGS (g := (mkF m 0 #[.val (.ref a1)] [])) rfl (D22 hby 0 rfl)
  obtain ⟨T5, X5, e5, st5⟩ := getF X3 hx hZ hown (host := "") (Or.inl (zW hw 53 rfl)) Via.refl e3 F_coder_a1 (g := (mkF m 7 #[.val (.ref a1)] [.ref a1])) rfl rfl (D22 hby 3 rfl)
  obtain ⟨fs, hr, hrun, hended, hW, hsame⟩ := X5.leave (v := some (.int 1)) (fun h => by rw [Bd.returns] at h; cases h)
  refine ⟨_, _, pre0 _ ?_, hrun, hended, _, _, rfl, ?_, ⟨_, rfl⟩, hW, hsame.mono (by decide) (by decide)⟩
  · refine st3 _ ?_
    refine XS.ifNo X3.here hx rfl (D22 hby 1 rfl) rfl ((if0 _ _).trans (feq hc3).1) ?_
    refine XS.aloadN X3.here hx rfl (D22 hby 2 rfl) rfl rfl ?_
    refine st5 _ ?_
    refine XS.ifNo X5.here hx rfl (D22 hby 4 rfl) rfl ((if0 _ _).trans (teq hc10).2) ?_
    refine XS.iconst X5.here hx rfl (D22 hby 5 rfl) ?_
    refine XS.goto X5.here hx rfl (pc0 := 14) (pc' := 18) rfl (D22 hby 6 rfl) (by decide) (by decide) ?_
    exact retN X5 hx (t := .boolean) Bd.returns (by simp) (D22 hby 7 rfl) hr
  · show QR (some (.int 1)) h0 n0 _ T5.heap _
    rw [e5]
    exact ⟨rfl, N0, rfl⟩
def l23 : List (Nat × Instr × Nat) := [(0, .iload_n 0, 1), (1, .sipush 255, 3), (4, .if_icmp .gt 7, 3), (7, .iconst 1, 1), (8, .goto 4, 3), (12, .ireturn, 1)]
theorem D23 {c : Code} (h : c.code = jdk_43_method_3_code) : zQ c l23 := zD h (by decide +kernel)
theorem pn_23 : plainName "java/lang/StringLatin1" = true := by first | (simp [plainName, overriddenIn]; done) | decide +kernel
theorem ef_23 (m : MethodId) (x0 : Int32) : entryFrame m #[.int x0] 1 = mkF m 0 #[.val (.int x0)] [] := by first | (simp [entryFrame, mkF, argsToLocals, Value.category]; done) | rfl
theorem r23 (l : Launch) (Z : State) (a0 : Array Value) (hw : zH Z a0) (ws : List Jvm.Cond) (p1 : Int32) (h0 : Heap) (n0 : Nat) (Z0 : n0 ≤ h0.size) (hc4 : ¬ ((255 : Int32) < p1)) :
    zM l Z h0 ws y_22 jdk_43_method_3_code 1 (some .boolean) (zr 0 0 0 0) #[.int p1] (QR (some (.int 1)) h0 n0) := by
  refine MetFree.of_bodySF (plainFor_of_name pn_23) hisR ?_
  intro p e s m args below meth c s₁ Bd hml0 hP hK
  obtain ⟨rfl, hZ, hh⟩ := hP
  have hx := Bd.exec
  have hby := Bd.bytes
  have hml : c.maxLocals = 1 := hml0
  have hown : s.vm.findClass "java/lang/StringLatin1" = some m.cls := findClass_of_methodNamed Bd.named
  have X0 : Stand p l e (zr 0 0 0 0) s m #[.int p1] below meth c s₁ [] 0 0 := Stand.of_body Bd
  have e0 : s₁.heap = h0 := by rw [← hh, Bd.state]; rfl
  have N0 := Fr.nil n0
  have pre0 := zP p e below s₁ (ef_23 m p1)
  obtain ⟨fs, hr, hrun, hended, hW, hsame⟩ := X0.leave (v := some (.int 1)) (fun h => by rw [Bd.returns] at h; cases h)
  refine ⟨_, _, pre0 _ ?_, hrun, hended, _, _, rfl, ?_, ⟨_, rfl⟩, hW, hsame.mono (by decide) (by decide)⟩
  · refine XS.iloadN X0.here hx rfl (D23 hby 0 rfl) rfl ?_
    refine XS.sipush X0.here hx rfl (D23 hby 1 rfl) ?_
    refine XS.icmpNo X0.here hx rfl (D23 hby 2 rfl) rfl (flt hc4).2.2.1 ?_
    refine XS.iconst X0.here hx rfl (D23 hby 3 rfl) ?_
    refine XS.goto X0.here hx rfl (pc0 := 8) (pc' := 12) rfl (D23 hby 4 rfl) (by decide) (by decide) ?_
    exact retN X0 hx (t := .boolean) Bd.returns (by simp) (D23 hby 5 rfl) hr
  · show QR (some (.int 1)) h0 n0 _ s₁.heap _
    rw [e0]
    exact ⟨rfl, N0, rfl⟩
def l39 : List (Nat × Instr × Nat) := [(0, .aload_n 0, 1), (1, .invokespecial 343, 3), (4, .ireturn, 1)]
theorem D39 {c : Code} (h : c.code = jdk_67_method_93_code) : zQ c l39 := zD h (by decide +kernel)
theorem pn_39 : plainName "java/lang/StringBuilder" = true := by first | (simp [plainName, overriddenIn]; done) | decide +kernel
theorem pd_39_11 : parseMethodDescriptor "()I" = some ⟨[], some .int⟩ := by decide +kernel
theorem r39 (l : Launch) (Z : State) (a0 : Array Value) (hw : zH Z a0) (ws : List Jvm.Cond) (a1 : Addr) (w2 : Int32) (h0 : Heap) (n0 : Nat) (Z0 : n0 ≤ h0.size) (E_a1 : Exa Z h0 a1 "java/lang/StringBuilder") (F : Fld Z h0 a1 "java/lang/AbstractStringBuilder" "count" "I" (.int w2)) :
    zM l Z h0 ws y_29 jdk_67_method_93_code 1 (some .int) (zr 1 0 0 12) #[.ref a1] (QR (some (.int w2)) h0 n0) := by
  refine MetFree.of_bodySF (plainFor_of_name pn_39) hisR ?_
  intro p e s m args below meth c s₁ Bd hml0 hP hK
  obtain ⟨rfl, hZ, hh⟩ := hP
  have hx := Bd.exec
  have hby := Bd.bytes
  have hml : c.maxLocals = 1 := hml0
  have hown : s.vm.findClass "java/lang/StringBuilder" = some m.cls := findClass_of_methodNamed Bd.named
  have X0 : Stand p l e (zr 1 0 0 12) s m #[.ref a1] below meth c s₁ [] 0 0 := Stand.of_body Bd
  have e0 : s₁.heap = h0 := by rw [← hh, Bd.state]; rfl
  have N0 := Fr.nil n0
  have pre0 := zP p e below s₁ (ef_15 m a1)
  obtain ⟨_, _, ⟨T2, L2, k2, n2⟩, -, X2, ⟨Lc2, hQ2, l2, y2, z2⟩, st2⟩ := superBack X0 hx hZ (y := y_19) hown (zW hw 212 rfl) (own_same (y := y_19) (own_nf (notFace_of_selects (zW hw 95 rfl)) (zW hw 93 rfl) rfl) (zW hw 208 rfl) (by decide)) (zW hw 208 rfl) (zW hw 77 rfl) (by decide) (backOf (W := 0) (r40 l Z a0 hw [] a1 w2 h0 n0 Z0 F) hZ (zW hw 213 rfl) (zW hw 47 rfl) (by decide) (by decide)) e0 (Ins.self E_a1) (g := (mkF m 1 #[.val (.ref a1)] [.ref a1])) rfl (by rw [hml]; rfl) (zW hw 213 rfl) (argsL := []) (rest := []) (lenOf pd_39_11 rfl) rfl (Nat.le_of_eq rfl) (D39 hby 1 rfl) (fun _ _ => ⟨rfl, e0, (by decide : 0 + 0 ≤ _), (by decide : 0 + 0 ≤ _)⟩)
  dsimp only [Pt.U, Pt.locs, Pt.cells, Pt.slots] at X2 l2 y2 z2 st2 hQ2
  subst l2 y2 z2
  obtain ⟨rfl, N2q, e2⟩ := hQ2
  have N2 := Fr.app N0 N2q
  obtain ⟨fs, hr, hrun, hended, hW, hsame⟩ := X2.leave (v := some (.int w2)) (fun h => by rw [Bd.returns] at h; cases h)
  refine ⟨_, _, pre0 _ ?_, hrun, hended, _, _, rfl, ?_, ⟨_, rfl⟩, hW, hsame.mono (by decide) (by decide)⟩
  · refine XS.aloadN X0.here hx rfl (D39 hby 0 rfl) rfl rfl ?_
    refine st2.trans ?_
    exact retI X2 hx Bd.returns (D39 hby 2 rfl) hr
  · show QR (some (.int w2)) h0 n0 _ T2.heap _
    exact ⟨rfl, N2, e2⟩
def l18 : List (Nat × Instr × Nat) := [(0, .getstatic 18, 3), (3, .ifCond .eq 18, 3), (6, .aload_n 0, 1), (7, .getfield 22, 3), (10, .aload_n 1, 1), (11, .invokevirtual 40, 3), (14, .if_icmp .eq 7, 3), (21, .return_, 1)]
theorem D18 {c : Code} (h : c.code = jdk_68_method_71_code) : zQ c l18 := zD h (by decide +kernel)
theorem ef_18 (m : MethodId) (x0 : Addr) (x1 : Addr) : entryFrame m #[.ref x0, .ref x1] 2 = mkF m 0 #[.val (.ref x0), .val (.ref x1)] [] := by first | (simp [entryFrame, mkF, argsToLocals, Value.category]; done) | rfl
theorem r18 (l : Launch) (Z : State) (a0 : Array Value) (hw : zH Z a0) (ws : List Jvm.Cond) (a1 : Addr) (a2 : Addr) (xs : List Int32) (h0 : Heap) (n0 : Nat) (Z0 : n0 ≤ h0.size) (F_coder_a1 : Fld Z h0 a1 "java/lang/AbstractStringBuilder" "coder" "B" (.int 0)) (S : own_Str Z h0 a2 xs) (CS : own_CS Z h0) :
    zM l Z h0 ws y_30 jdk_68_method_71_code 2 none (zr 1 0 0 13) #[.ref a1, .ref a2] (QR none h0 n0) := by
  refine MetFree.of_bodySF (plainFor_of_name pn_38) hisR ?_
  intro p e s m args below meth c s₁ Bd hml0 hP hK
  obtain ⟨rfl, hZ, hh⟩ := hP
  have hx := Bd.exec
  obtain ⟨E_a2, FC, -⟩ := id S
  obtain ⟨zc, S_COMPACT_STRINGS, hc3⟩ := id CS
  have hby := Bd.bytes
  have hml : c.maxLocals = 2 := hml0
  have hown : s.vm.findClass "java/lang/AbstractStringBuilder" = some m.cls := findClass_of_methodNamed Bd.named
  have X0 : Stand p l e (zr 1 0 0 13) s m #[.ref a1, .ref a2] below meth c s₁ [] 0 0 := Stand.of_body Bd
  have e0 : s₁.heap = h0 := by rw [← hh, Bd.state]; rfl
  have N0 := Fr.nil n0
  have pre0 := zP p e below s₁ (ef_18 m a1 a2)
  obtain ⟨T4, X4, e4, st4⟩ := getS2 X0 hx hZ hown (host := "") (Or.inl (zW hw 50 rfl)) Via.refl e0 S_COMPACT_STRINGS (g := (mkF m 0 #[.val (.ref a1), .val (.ref a2)] [])) rfl (D18 hby 0 rfl)
  obtain ⟨T6, X6, e6, st6⟩ := getF X4 hx hZ hown (host := "") (Or.inl (zW hw 53 rfl)) Via.refl e4 F_coder_a1 (g := (mkF m 7 #[.val (.ref a1), .val (.ref a2)] [.ref a1])) rfl rfl (D18 hby 3 rfl)
  obtain ⟨cq7, kq7, q7a, q7b, q7c⟩ := isOf hZ e6 E_a2
  obtain ⟨_, _, ⟨T7, L7, k7, n7⟩, -, X7, ⟨Lc7, hQ7, l7, y7, z7⟩, st7⟩ := X6.virtualBack hx (y := y_10) hown (zT hZ hw 107 rfl) (zT hZ hw 86 rfl) (notFace_of_selects (args := #[]) (zT hZ hw 88 rfl)) (zT hZ hw 88 rfl) (zT hZ hw 87 rfl) (by decide) (backOf (W := 1) (r15 l Z a0 hw [] a2 zc h0 n0 Z0 S_COMPACT_STRINGS FC hc3) hZ (zW hw 89 rfl) (zW hw 2 rfl) (by decide) (by decide)) q7a q7c (g := (mkF m 11 #[.val (.ref a1), .val (.ref a2)] [.ref a2, .int 0])) rfl (by rw [hml]; rfl) (Steps.refl _) (argsL := []) (rest := [.int 0]) (lenOf pd_14_12 rfl) rfl (Nat.le_of_eq rfl) (D18 hby 5 rfl) (fun _ _ => ⟨rfl, e6, (by decide : 0 + 0 ≤ _), (by decide : 0 + 0 ≤ _)⟩)
  dsimp only [Pt.U, Pt.locs, Pt.cells, Pt.slots] at X7 l7 y7 z7 st7 hQ7
  subst l7 y7 z7
  obtain ⟨rfl, N7q, e7⟩ := hQ7
  have N7 := Fr.app N0 N7q
  obtain ⟨fs, hr, hrun, hended, hW, hsame⟩ := X7.leave (v := none) (fun _ => rfl)
  refine ⟨_, _, pre0 _ ?_, hrun, hended, _, _, rfl, ?_, ⟨_, rfl⟩, hW, hsame.mono (by decide) (by decide)⟩
  · refine st4 _ ?_
    refine XS.ifNo X4.here hx rfl (D18 hby 1 rfl) rfl ((if0 _ _).trans (feq hc3).1) ?_
    refine XS.aloadN X4.here hx rfl (D18 hby 2 rfl) rfl rfl ?_
    refine st6 _ ?_
    refine XS.aloadN X6.here hx rfl (D18 hby 4 rfl) rfl rfl ?_
    refine st7.trans ?_
    refine XS.icmpYes X7.here hx rfl (pc0 := 14) (pc' := 21) rfl (D18 hby 6 rfl) rfl (teq (rfl : (0 : Int32) = (0 : Int32))).1 (by decide) (by decide) ?_
    exact X7.returnOut hx Bd.returns (D18 hby 7 rfl) hr
  · show QR none h0 n0 _ T7.heap _
    exact ⟨rfl, N7, e7⟩
def l9 : List (Nat × Instr × Nat) := [(0, .aload_n 0, 1), (1, .invokespecial 3, 3), (4, .getstatic 18, 3), (7, .ifCond .eq 18, 3), (10, .aload_n 0, 1), (11, .iload_n 1, 1), (12, .newarray .byte, 2), (14, .putfield 15, 3), (17, .aload_n 0, 1), (18, .iconst 0, 1), (19, .putfield 22, 3), (22, .goto 16, 3), (38, .return_, 1)]
theorem D9 {c : Code} (h : c.code = jdk_68_method_2_code) : zQ c l9 := zD h (by decide +kernel)
theorem ef_9 (m : MethodId) (x0 : Addr) (x1 : Int32) : entryFrame m #[.ref x0, .int x1] 2 = mkF m 0 #[.val (.ref x0), .val (.int x1)] [] := by first | (simp [entryFrame, mkF, argsToLocals, Value.category]; done) | rfl
def Q9 (Z : State) (a1 : Addr) (h0 : Heap) (n0 : Nat) (v : Option Value) (h : Heap) (L : List Loc) : Prop := v = none ∧ Fr n0 L ∧ Keep h0 h [a1] ∧ own_SBv Z h a1 [] 16 h0.size
theorem r9 (l : Launch) (Z : State) (a0 : Array Value) (hw : zH Z a0) (ws : List Jvm.Cond) (a1 : Addr) (u_value_a1 : Value) (u_coder_a1 : Value) (h0 : Heap) (n0 : Nat) (Z0 : n0 ≤ h0.size) (E_a1 : Exa Z h0 a1 "java/lang/StringBuilder") (F_value_a1 : Fld Z h0 a1 "java/lang/AbstractStringBuilder" "value" "[B" u_value_a1) (g_a1 : n0 ≤ a1) (F_coder_a1 : Fld Z h0 a1 "java/lang/AbstractStringBuilder" "coder" "B" u_coder_a1) (F_count_a1 : Fld Z h0 a1 "java/lang/AbstractStringBuilder" "count" "I" (.int 0)) (CS : own_CS Z h0) :
    zM l Z h0 ws y_31 jdk_68_method_2_code 2 none (zr 1 1 16 12) #[.ref a1, .int 16] (Q9 Z a1 h0 n0) := by
  refine MetFree.of_bodySF (plainFor_of_name pn_38) hisR ?_
  intro p e s m args below meth c s₁ Bd hml0 hP hK
  obtain ⟨rfl, hZ, hh⟩ := hP
  have hx := Bd.exec
  obtain ⟨zc, S_COMPACT_STRINGS, hc7⟩ := id CS
  have hby := Bd.bytes
  have hml : c.maxLocals = 2 := hml0
  have hown : s.vm.findClass "java/lang/AbstractStringBuilder" = some m.cls := findClass_of_methodNamed Bd.named
  have X0 : Stand p l e (zr 1 1 16 12) s m #[.ref a1, .int 16] below meth c s₁ [] 0 0 := Stand.of_body Bd
  have e0 : s₁.heap = h0 := by rw [← hh, Bd.state]; rfl
  have N0 := Fr.nil n0
  have pre0 := zP p e below s₁ (ef_9 m a1 (16 : Int32))
  obtain ⟨T3, X3, e3, st3⟩ := initO X0 hx hZ hown (zW hw 49 rfl) (zW hw 12 rfl) (zW hw 13 rfl) e0 (g := (mkF m 1 #[.val (.ref a1), .val (.int 16)] [.ref a1])) rfl (by rw [hml]; rfl) rfl (D9 hby 1 rfl) (by decide) (W := 0) (Nat.le_of_eq rfl) (by decide)
  obtain ⟨T5, X5, e5, st5⟩ := getS2 X3 hx hZ hown (host := "") (Or.inl (zW hw 50 rfl)) Via.refl e3 S_COMPACT_STRINGS (g := (mkF m 4 #[.val (.ref a1), .val (.int 16)] [])) rfl (D9 hby 2 rfl)
  obtain ⟨T6, h6, k6, X6, e6, E6, A6, st6⟩ := newP X5 hx hZ (zW hw 19 rfl) e5 (g := (mkF m 12 #[.val (.ref a1), .val (.int 16)] [.int 16, .ref a1])) rfl (D9 hby 6 rfl) rfl (by decide) (cap := 16) (by decide) (by decide) (by decide) (by decide)
  obtain ⟨b6, g6⟩ : ∃ z, z = h0.size := ⟨_, rfl⟩
  rw [← g6] at A6 st6
  have V_b6 : Arv Z h6 b6 k6 .byte (16 : Int32) [.int 0, .int 0, .int 0, .int 0, .int 0, .int 0, .int 0, .int 0, .int 0, .int 0, .int 0, .int 0, .int 0, .int 0, .int 0, .int 0] (.int 0) := (Arv.new A6 (by decide)).pad (pad_rep [] (.int 0) 16)
  have g_b6 : n0 ≤ b6 := Nat.le_trans Z0 (Nat.le_of_eq g6.symm)
  have sz_b6 : h0.size ≤ b6 := (Nat.le_trans (Keep.refl h0 [a1]).1 (Nat.le_of_eq g6.symm))
  have K6 : Keep h0 h6 [a1] := (Keep.refl h0 [a1]).ext E6
  obtain ⟨T7, h7, X7, e7, W7, st7⟩ := putF X6 hx hZ hown (host := "") (Or.inl (zW hw 51 rfl)) Via.refl e6 (F_value_a1.ext E6) (E_a1.ext E6) (Or.inl (zW hw 52 rfl)) (zW hw 38 rfl) (ty := (.array .byte)) (by decide) rfl rfl (g := (mkF m 14 #[.val (.ref a1), .val (.int 16)] [.ref b6, .ref a1])) rfl rfl (D9 hby 7 rfl)
  have Fw7 := (F_value_a1.ext E6).same W7
  have K7 : Keep h0 h7 [a1] := K6.wr W7 (Or.inl (List.mem_of_getElem? (i := 0) rfl))
  have N7 := Fr.snoc X7 N0 g_a1
  obtain ⟨T8, h8, X8, e8, W8, st8⟩ := putFN X7 hx hZ hown (zW hw 53 rfl) Via.refl e7 ((F_coder_a1.ext E6).other W7 (Or.inr (slot_ne (Or.inl (zW hw 54 rfl)) (Or.inl (zW hw 52 rfl)) (by decide) (t := .byte) (t' := (.array .byte)) (by decide) (by decide)))) ((E_a1.ext E6).wr W7) (Or.inl (zW hw 54 rfl)) (zW hw 38 rfl) (ty := .byte) (v' := (.int 0)) (by decide) rfl (by decide) (g := (mkF m 19 #[.val (.ref a1), .val (.int 16)] [.int 0, .ref a1])) rfl rfl (D9 hby 10 rfl)
  have Fw8 := ((F_coder_a1.ext E6).other W7 (Or.inr (slot_ne (Or.inl (zW hw 54 rfl)) (Or.inl (zW hw 52 rfl)) (by decide) (t := .byte) (t' := (.array .byte)) (by decide) (by decide)))).same W8
  have K8 : Keep h0 h8 [a1] := K7.wr W8 (Or.inl (List.mem_of_getElem? (i := 0) rfl))
  have N8 := Fr.snoc X8 N7 g_a1
  obtain ⟨fs, hr, hrun, hended, hW, hsame⟩ := X8.leave (v := none) (fun _ => rfl)
  refine ⟨_, _, pre0 _ ?_, hrun, hended, _, _, rfl, ?_, ⟨_, rfl⟩, hW, hsame.mono (by decide) (by decide)⟩
  · refine XS.aloadN X0.here hx rfl (D9 hby 0 rfl) rfl rfl ?_
    refine st3 _ ?_
    refine st5 _ ?_
    refine XS.ifNo X5.here hx rfl (D9 hby 3 rfl) rfl ((if0 _ _).trans (feq hc7).1) ?_
    refine XS.aloadN X5.here hx rfl (D9 hby 4 rfl) rfl rfl ?_
    refine XS.iloadN X5.here hx rfl (D9 hby 5 rfl) rfl ?_
    refine st6 _ ?_
    refine st7 _ ?_
    refine XS.aloadN X7.here hx rfl (D9 hby 8 rfl) rfl rfl ?_
    refine XS.iconst X7.here hx rfl (D9 hby 9 rfl) ?_
    refine st8 _ ?_
    refine XS.goto X8.here hx rfl (pc0 := 22) (pc' := 38) rfl (D9 hby 11 rfl) (by decide) (by decide) ?_
    exact X8.returnOut hx Bd.returns (D9 hby 12 rfl) hr
  · show Q9 Z a1 h0 n0 _ T8.heap _
    rw [e8]
    have hb : b6 ≠ a1 := fun q => Nat.lt_irrefl _ (Nat.lt_of_lt_of_eq (q ▸ E_a1.lt) g6.symm)
    subst g6
    exact ⟨rfl, N8, K8, ((E_a1.ext E6).wr W7).wr W8, Fw8, ((F_count_a1.ext E6).other W7 (Or.inr (slot_ne (Or.inl (zW hw 91 rfl)) (Or.inl (zW hw 52 rfl)) (by decide) (t := .int) (t' := (.array .byte)) (by decide) (by decide)))).other W8 (Or.inr (slot_ne (Or.inl (zW hw 91 rfl)) (Or.inl (zW hw 54 rfl)) (by decide) (t := .int) (t' := .byte) (by decide) (by decide))), Fw7.other W8 (Or.inr (slot_ne (Or.inl (zW hw 52 rfl)) (Or.inl (zW hw 54 rfl)) (by decide) (t := (.array .byte)) (t' := .byte) (by decide) (by decide))), k6, _, (V_b6.other W7 hb).other W8 hb, rfl, by decide, rfl⟩
def l8 : List (Nat × Instr × Nat) := [(0, .aload_n 0, 1), (1, .bipush 16, 2), (3, .invokespecial 1, 3), (6, .return_, 1)]
theorem D8 {c : Code} (h : c.code = jdk_67_method_1_code) : zQ c l8 := zD h (by decide +kernel)
theorem pd_8_6 : parseMethodDescriptor "(I)V" = some ⟨[.int], none⟩ := by decide +kernel
theorem r8 (l : Launch) (Z : State) (a0 : Array Value) (hw : zH Z a0) (ws : List Jvm.Cond) (a1 : Addr) (u_value_a1 : Value) (u_coder_a1 : Value) (h0 : Heap) (n0 : Nat) (Z0 : n0 ≤ h0.size) (E_a1 : Exa Z h0 a1 "java/lang/StringBuilder") (F_value_a1 : Fld Z h0 a1 "java/lang/AbstractStringBuilder" "value" "[B" u_value_a1) (g_a1 : n0 ≤ a1) (F_coder_a1 : Fld Z h0 a1 "java/lang/AbstractStringBuilder" "coder" "B" u_coder_a1) (F_count_a1 : Fld Z h0 a1 "java/lang/AbstractStringBuilder" "count" "I" (.int 0)) (CS : own_CS Z h0) :
    zM l Z h0 ws y_32 jdk_67_method_1_code 1 none (zr 2 1 16 25) #[.ref a1] (Q9 Z a1 h0 n0) := by
  refine MetFree.of_bodySF (plainFor_of_name pn_39) hisR ?_
  intro p e s m args below meth c s₁ Bd hml0 hP hK
  obtain ⟨rfl, hZ, hh⟩ := hP
  have hx := Bd.exec
  have hby := Bd.bytes
  have hml : c.maxLocals = 1 := hml0
  have hown : s.vm.findClass "java/lang/StringBuilder" = some m.cls := findClass_of_methodNamed Bd.named
  have X0 : Stand p l e (zr 2 1 16 25) s m #[.ref a1] below meth c s₁ [] 0 0 := Stand.of_body Bd
  have e0 : s₁.heap = h0 := by rw [← hh, Bd.state]; rfl
  have N0 := Fr.nil n0
  have pre0 := zP p e below s₁ (ef_15 m a1)
  obtain ⟨_, _, ⟨T2, L2, k2, n2⟩, -, X2, ⟨Lc2, hQ2, l2, y2, z2⟩, st2⟩ := X0.specialBack hx (y := y_31) rfl hown (zT hZ hw 43 rfl) (zT hZ hw 44 rfl) (zT hZ hw 48 rfl) (by decide) (backOf (W := 0) (r9 l Z a0 hw [] a1 u_value_a1 u_coder_a1 h0 n0 Z0 E_a1 F_value_a1 g_a1 F_coder_a1 F_count_a1 CS) hZ (zW hw 48 rfl) (zW hw 47 rfl) (by decide) (by decide)) (g := (mkF m 3 #[.val (.ref a1)] [.int 16, .ref a1])) rfl (by rw [hml]; rfl) (Steps.refl _) (a := a1) (argsL := [.int 16]) (rest := []) (lenOf pd_8_6 rfl) rfl (Nat.le_of_eq rfl) (D8 hby 2 rfl) (fun _ _ => ⟨rfl, e0, (by decide : 0 + 1 ≤ _), (by decide : 0 + 16 ≤ _)⟩)
  dsimp only [Pt.U, Pt.locs, Pt.cells, Pt.slots] at X2 l2 y2 z2 st2 hQ2
  subst l2 y2 z2
  obtain ⟨rfl, N2q, Qq⟩ := hQ2
  have N2 := Fr.app N0 N2q
  obtain ⟨fs, hr, hrun, hended, hW, hsame⟩ := X2.leave (v := none) (fun _ => rfl)
  refine ⟨_, _, pre0 _ ?_, hrun, hended, _, _, rfl, ?_, ⟨_, rfl⟩, hW, hsame.mono (by decide) (by decide)⟩
  · refine XS.aloadN X0.here hx rfl (D8 hby 0 rfl) rfl rfl ?_
    refine XS.bipush X0.here hx rfl (D8 hby 1 rfl) ?_
    refine st2.trans ?_
    exact X2.returnOut hx Bd.returns (D8 hby 3 rfl) hr
  · show Q9 Z a1 h0 n0 _ T2.heap _
    exact ⟨rfl, N2, Qq⟩
def l19 : List (Nat × Instr × Nat) := [(0, .aload_n 0, 1), (1, .invokevirtual 335, 3), (4, .iload_n 3, 1), (5, .if_icmp .ne 23, 3), (8, .aload_n 0, 1), (9, .getfield 9, 3), (12, .iconst 0, 1), (13, .aload_n 1, 1), (14, .iload_n 2, 1), (15, .iload_n 3, 1), (16, .ishl, 1), (17, .aload_n 0, 1), (18, .getfield 9, 3), (21, .arraylength, 1), (22, .invokestatic 212, 3), (25, .goto 18, 3), (43, .return_, 1)]
theorem D19 {c : Code} (h : c.code = jdk_42_method_147_code) : zQ c l19 := zD h (by decide +kernel)
theorem ef_19 (m : MethodId) (x0 : Addr) (x1 : Addr) (x2 : Int32) (x3 : Int32) : entryFrame m #[.ref x0, .ref x1, .int x2, .int x3] 4 = mkF m 0 #[.val (.ref x0), .val (.ref x1), .val (.int x2), .val (.int x3)] [] := by first | (simp [entryFrame, mkF, argsToLocals, Value.category]; done) | rfl
def Q19 (Z : State) (a2 : Addr) (kd : ClassId) (c : Nat) (vs : List Value) (h0 : Heap) (n0 : Nat) (v : Option Value) (h : Heap) (L : List Loc) : Prop := v = none ∧ Fr n0 L ∧ Keep h0 h [a2] ∧ Arv Z h a2 kd .byte (Int32.ofNat c) vs (.int 0)
theorem r19 (l : Launch) (Z : State) (a0 : Array Value) (hw : zH Z a0) (ws : List Jvm.Cond) (a1 : Addr) (a2 : Addr) (xs : List Int32) (m_ c_ : Nat) (kd : ClassId) (vd : List Value) (h0 : Heap) (n0 : Nat) (Z0 : n0 ≤ h0.size) (S : own_Str Z h0 a1 xs) (CS : own_CS Z h0) (B : Arv Z h0 a2 kd .byte (Int32.ofNat c_) vd (.int 0)) (hvd : vd.length = c_) (g_a2 : n0 ≤ a2) (hmn : m_ + xs.length ≤ c_) (hc : c_ < 1000) :
    zM l Z h0 ws y_23 jdk_42_method_147_code 4 none (zr 1 0 0 18) #[.ref a1, .ref a2, (.int (Int32.ofNat m_)), .int 0] (Q19 Z a2 kd c_ (vd.take m_ ++ own_by xs ++ vd.drop (m_ + xs.length)) h0 n0) := by
  refine MetFree.of_bodySF (plainFor_of_name pn_15) hisR ?_
  intro p e s m args below meth c s₁ Bd hml0 hP hK
  obtain ⟨rfl, hZ, hh⟩ := hP
  have hx := Bd.exec
  obtain ⟨E_a1, FC, ta, ka, F_value_a1, VA⟩ := id S
  obtain ⟨cl_ta, Ar_ta, qa, S_ta, N_ta, Ha, Ga⟩ := id VA
  obtain ⟨zc, SC, hz⟩ := id CS
  have x1 : (Int32.ofNat xs.length).toNatClampNeg = xs.length := own_cl _ (by omega)
  have x2 : (Int32.ofNat m_).toNatClampNeg = m_ := own_cl m_ (by omega)
  have x3 : (Int32.ofNat c_).toNatClampNeg = c_ := own_cl c_ (by omega)
  have hp2 : ¬ ((Int32.ofNat m_) <<< ((0 : Int32) &&& 31)) < 0 := by rw [own_l0]; exact own_nn m_ (by omega)
  have hp3 : ¬ (Int32.ofNat xs.length) < 0 := own_nn _ (by omega)
  have hby := Bd.bytes
  have hml : c.maxLocals = 4 := hml0
  have hown : s.vm.findClass "java/lang/String" = some m.cls := findClass_of_methodNamed Bd.named
  have X0 : Stand p l e (zr 1 0 0 18) s m #[.ref a1, .ref a2, (.int (Int32.ofNat m_)), .int 0] below meth c s₁ [] 0 0 := Stand.of_body Bd
  have e0 : s₁.heap = h0 := by rw [← hh, Bd.state]; rfl
  have N0 := Fr.nil n0
  have pre0 := zP p e below s₁ (ef_19 m a1 a2 (Int32.ofNat m_) (0 : Int32))
  obtain ⟨cq5, kq5, q5a, q5b, q5c⟩ := isOf hZ e0 E_a1
  obtain ⟨_, _, ⟨T5, L5, k5, n5⟩, -, X5, ⟨Lc5, hQ5, l5, y5, z5⟩, st5⟩ := X0.virtualBack hx (y := y_10) hown (zT hZ hw 85 rfl) (zT hZ hw 86 rfl) (notFace_of_selects (args := #[]) (zT hZ hw 88 rfl)) (zT hZ hw 88 rfl) (zT hZ hw 87 rfl) (by decide) (backOf (W := 0) (r15 l Z a0 hw [] a1 zc h0 n0 Z0 SC FC hz) hZ (zW hw 89 rfl) (zW hw 2 rfl) (by decide) (by decide)) q5a q5c (g := (mkF m 1 #[.val (.ref a1), .val (.ref a2), .val (.int (Int32.ofNat m_)), .val (.int 0)] [.ref a1])) rfl (by rw [hml]; rfl) (Steps.refl _) (argsL := []) (rest := []) (lenOf pd_14_12 rfl) rfl (Nat.le_of_eq rfl) (D19 hby 1 rfl) (fun _ _ => ⟨rfl, e0, (by decide : 0 + 0 ≤ _), (by decide : 0 + 0 ≤ _)⟩)
  dsimp only [Pt.U, Pt.locs, Pt.cells, Pt.slots] at X5 l5 y5 z5 st5 hQ5
  subst l5 y5 z5
  obtain ⟨rfl, N5q, e5⟩ := hQ5
  have N5 := Fr.app N0 N5q
  obtain ⟨T7, X7, e7, st7⟩ := getF X5 hx hZ hown (host := "") (Or.inl (zW hw 28 rfl)) Via.refl e5 F_value_a1 (g := (mkF m 9 #[.val (.ref a1), .val (.ref a2), .val (.int (Int32.ofNat m_)), .val (.int 0)] [.ref a1])) rfl rfl (D19 hby 5 rfl)
  obtain ⟨T8, X8, e8, st8⟩ := getF X7 hx hZ hown (host := "") (Or.inl (zW hw 28 rfl)) Via.refl e7 F_value_a1 (g := (mkF m 18 #[.val (.ref a1), .val (.ref a2), .val (.int (Int32.ofNat m_)), .val (.int 0)] [.ref a1, (.int ((Int32.ofNat m_) <<< ((0 : Int32) &&& 31))), .ref a2, .int 0, .ref ta])) rfl rfl (D19 hby 12 rfl)
  obtain ⟨T9, h9, L9, X9, e9, N9, K9, V9, st9⟩ := cpA X8 hx hZ hown (zW hw 113 rfl) (zW hw 116 rfl) (zW hw 114 rfl) (zW hw 115 rfl) e8 VA B (Or.inl ⟨rfl, rfl⟩) (by decide) hp2 hp3 (by rw [x1]; exact Nat.le_of_eq (Nat.zero_add _)) (by rw [own_l0, x1, x2, x3]; exact hmn) rfl (by rw [own_l0, x1, x2, hvd]; exact hmn) N5 g_a2 (g := (mkF m 22 #[.val (.ref a1), .val (.ref a2), .val (.int (Int32.ofNat m_)), .val (.int 0)] [(.int (Int32.ofNat xs.length)), (.int ((Int32.ofNat m_) <<< ((0 : Int32) &&& 31))), .ref a2, .int 0, .ref ta])) rfl (by rw [hml]; rfl) (rest := []) rfl (D19 hby 14 rfl) (by decide) (W := 0) (Nat.le_of_eq rfl) (by decide)
  obtain ⟨fs, hr, hrun, hended, hW, hsame⟩ := X9.leave (v := none) (fun _ => rfl)
  refine ⟨_, _, pre0 _ ?_, hrun, hended, _, _, rfl, ?_, ⟨_, rfl⟩, hW, hsame.mono (by decide) (by decide)⟩
  · refine XS.aloadN X0.here hx rfl (D19 hby 0 rfl) rfl rfl ?_
    refine st5.trans ?_
    refine XS.iloadN X5.here hx rfl (D19 hby 2 rfl) rfl ?_
    refine XS.icmpNo X5.here hx rfl (D19 hby 3 rfl) rfl (teq (rfl : (0 : Int32) = (0 : Int32))).2 ?_
    refine XS.aloadN X5.here hx rfl (D19 hby 4 rfl) rfl rfl ?_
    refine st7 _ ?_
    refine XS.iconst X7.here hx rfl (D19 hby 6 rfl) ?_
    refine XS.aloadN X7.here hx rfl (D19 hby 7 rfl) rfl rfl ?_
    refine XS.iloadN X7.here hx rfl (D19 hby 8 rfl) rfl ?_
    refine XS.iloadN X7.here hx rfl (D19 hby 9 rfl) rfl ?_
    refine XS.ishl X7.here hx rfl (D19 hby 10 rfl) rfl ?_
    refine XS.aloadN X7.here hx rfl (D19 hby 11 rfl) rfl rfl ?_
    refine st8 _ ?_
    refine X8.arraylength hx (by rw [e8]; exact Ar_ta.1) (State.isArrayOf_alike hZ.alike Ar_ta.2.1) (g := (mkF m 21 #[.val (.ref a1), .val (.ref a2), .val (.int (Int32.ofNat m_)), .val (.int 0)] [.ref ta, (.int ((Int32.ofNat m_) <<< ((0 : Int32) &&& 31))), .ref a2, .int 0, .ref ta])) rfl rfl (D19 hby 13 rfl) _ ?_
    rw [len_of S_ta N_ta]
    refine st9 _ ?_
    refine XS.goto X9.here hx rfl (pc0 := 25) (pc' := 43) rfl (D19 hby 15 rfl) (by decide) (by decide) ?_
    exact X9.returnOut hx Bd.returns (D19 hby 16 rfl) hr
  · show Q19 Z a2 kd c_ (vd.take m_ ++ own_by xs ++ vd.drop (m_ + xs.length)) h0 n0 _ T9.heap _
    rw [own_l0, x1, x2] at V9
    have e0_ : (0 : Int32).toNatClampNeg = 0 := by decide
    simp only [e0_] at V9
    rw [own_rng (own_by xs) _ xs.length (own_by_len xs)] at V9
    exact ⟨rfl, N9, by rw [e9]; exact K9, by rw [e9]; exact V9⟩
def l17 : List (Nat × Instr × Nat) := [(0, .aload_n 0, 1), (1, .aload_n 2, 1), (2, .invokevirtual 397, 3), (5, .aload_n 2, 1), (6, .aload_n 0, 1), (7, .getfield 15, 3), (10, .iload_n 1, 1), (11, .aload_n 0, 1), (12, .getfield 22, 3), (15, .invokevirtual 399, 3), (18, .return_, 1)]
theorem D17 {c : Code} (h : c.code = jdk_68_method_73_code) : zQ c l17 := zD h (by decide +kernel)
theorem pd_17_14 : parseMethodDescriptor "(Ljava/lang/String;)V" = some ⟨[(.object "java/lang/String")], none⟩ := by decide +kernel
theorem pd_17_15 : parseMethodDescriptor "([BIB)V" = some ⟨[(.array .byte), .int, .byte], none⟩ := by decide +kernel
theorem ef_17 (m : MethodId) (x0 : Addr) (x1 : Int32) (x2 : Addr) : entryFrame m #[.ref x0, .int x1, .ref x2] 3 = mkF m 0 #[.val (.ref x0), .val (.int x1), .val (.ref x2)] [] := by first | (simp [entryFrame, mkF, argsToLocals, Value.category]; done) | rfl
theorem r17 (l : Launch) (Z : State) (a0 : Array Value) (hw : zH Z a0) (ws : List Jvm.Cond) (a1 : Addr) (a3 : Addr) (w5 : Addr) (xs : List Int32) (m_ c_ : Nat) (kd : ClassId) (vd : List Value) (h0 : Heap) (n0 : Nat) (Z0 : n0 ≤ h0.size) (E_a1 : Exa Z h0 a1 "java/lang/StringBuilder") (F_value_a1 : Fld Z h0 a1 "java/lang/AbstractStringBuilder" "value" "[B" (.ref w5)) (F_coder_a1 : Fld Z h0 a1 "java/lang/AbstractStringBuilder" "coder" "B" (.int 0)) (S : own_Str Z h0 a3 xs) (CS : own_CS Z h0) (B : Arv Z h0 w5 kd .byte (Int32.ofNat c_) vd (.int 0)) (hvd : vd.length = c_) (g_w5 : n0 ≤ w5) (hmn : m_ + xs.length ≤ c_) (hc : c_ < 1000) :
    zM l Z h0 ws y_24 jdk_68_method_73_code 3 none (zr 2 0 0 33) #[.ref a1, (.int (Int32.ofNat m_)), .ref a3] (Q19 Z w5 kd c_ (vd.take m_ ++ own_by xs ++ vd.drop (m_ + xs.length)) h0 n0) := by
  refine MetFree.of_bodySF (plainFor_of_name pn_38) hisR ?_
  intro p e s m args below meth c s₁ Bd hml0 hP hK
  obtain ⟨rfl, hZ, hh⟩ := hP
  have hx := Bd.exec
  have E_a3 := S.1
  have hby := Bd.bytes
  have hml : c.maxLocals = 3 := hml0
  have hown : s.vm.findClass "java/lang/AbstractStringBuilder" = some m.cls := findClass_of_methodNamed Bd.named
  have X0 : Stand p l e (zr 2 0 0 33) s m #[.ref a1, (.int (Int32.ofNat m_)), .ref a3] below meth c s₁ [] 0 0 := Stand.of_body Bd
  have e0 : s₁.heap = h0 := by rw [← hh, Bd.state]; rfl
  have N0 := Fr.nil n0
  have pre0 := zP p e below s₁ (ef_17 m a1 (Int32.ofNat m_) a3)
  obtain ⟨cq4, q4, q4'⟩ := E_a1.cell
  obtain ⟨_, _, ⟨T4, L4, k4, n4⟩, -, X4, ⟨Lc4, hQ4, l4, y4, z4⟩, st4⟩ := X0.privateBack hx (y := y_30) hown (zT hZ hw 102 rfl) (zT hZ hw 103 rfl) (mvT hZ (own_selP (zW hw 105 rfl) (zW hw 104 rfl) (zW hw 103 rfl) (by decide))) (Cond.privateMethod_at (mvP hZ (zW hw 104 rfl) (args := #[]))) (zT hZ hw 106 rfl) (by decide) (backOf (W := 0) (r18 l Z a0 hw [] a1 a3 xs h0 n0 Z0 F_coder_a1 S CS) hZ (zW hw 106 rfl) (zW hw 47 rfl) (by decide) (by decide)) (g := (mkF m 2 #[.val (.ref a1), .val (.int (Int32.ofNat m_)), .val (.ref a3)] [.ref a3, .ref a1])) rfl (by rw [hml]; rfl) (Steps.refl _) (a := a1) (by rw [e0]; exact q4) q4' (argsL := [.ref a3]) (rest := []) (lenOf pd_17_14 rfl) rfl (Nat.le_of_eq rfl) (D17 hby 2 rfl) (fun _ _ => ⟨rfl, e0, (by decide : 0 + 0 ≤ _), (by decide : 0 + 0 ≤ _)⟩)
  dsimp only [Pt.U, Pt.locs, Pt.cells, Pt.slots] at X4 l4 y4 z4 st4 hQ4
  subst l4 y4 z4
  obtain ⟨rfl, N4q, e4⟩ := hQ4
  have N4 := Fr.app N0 N4q
  obtain ⟨T6, X6, e6, st6⟩ := getF X4 hx hZ hown (host := "") (Or.inl (zW hw 51 rfl)) Via.refl e4 F_value_a1 (g := (mkF m 7 #[.val (.ref a1), .val (.int (Int32.ofNat m_)), .val (.ref a3)] [.ref a1, .ref a3])) rfl rfl (D17 hby 5 rfl)
  obtain ⟨T8, X8, e8, st8⟩ := getF X6 hx hZ hown (host := "") (Or.inl (zW hw 53 rfl)) Via.refl e6 F_coder_a1 (g := (mkF m 12 #[.val (.ref a1), .val (.int (Int32.ofNat m_)), .val (.ref a3)] [.ref a1, (.int (Int32.ofNat m_)), .ref w5, .ref a3])) rfl rfl (D17 hby 8 rfl)
  obtain ⟨cq9, kq9, q9a, q9b, q9c⟩ := isOf hZ e8 E_a3
  obtain ⟨_, _, ⟨T9, L9, k9, n9⟩, -, X9, ⟨Lc9, hQ9, l9, y9, z9⟩, st9⟩ := X8.virtualBack hx (y := y_23) hown (zT hZ hw 108 rfl) (zT hZ hw 109 rfl) (notFace_of_selects (args := #[]) (zT hZ hw 111 rfl)) (zT hZ hw 111 rfl) (zT hZ hw 110 rfl) (by decide) (backOf (W := 0) (r19 l Z a0 hw [] a3 w5 xs m_ c_ kd vd h0 n0 Z0 S CS B hvd g_w5 hmn hc) hZ (zW hw 112 rfl) (zW hw 2 rfl) (by decide) (by decide)) q9a q9c (g := (mkF m 15 #[.val (.ref a1), .val (.int (Int32.ofNat m_)), .val (.ref a3)] [.int 0, (.int (Int32.ofNat m_)), .ref w5, .ref a3])) rfl (by rw [hml]; rfl) (Steps.refl _) (argsL := [.ref w5, (.int (Int32.ofNat m_)), .int 0]) (rest := []) (lenOf pd_17_15 rfl) rfl (Nat.le_of_eq rfl) (D17 hby 9 rfl) (fun _ _ => ⟨rfl, e8, (by decide : 0 + 0 ≤ _), (by decide : 0 + 0 ≤ _)⟩)
  dsimp only [Pt.U, Pt.locs, Pt.cells, Pt.slots] at X9 l9 y9 z9 st9 hQ9
  subst l9 y9 z9
  obtain ⟨rfl, N9q, Qq⟩ := hQ9
  have N9 := Fr.app N4 N9q
  obtain ⟨fs, hr, hrun, hended, hW, hsame⟩ := X9.leave (v := none) (fun _ => rfl)
  refine ⟨_, _, pre0 _ ?_, hrun, hended, _, _, rfl, ?_, ⟨_, rfl⟩, hW, hsame.mono (by decide) (by decide)⟩
  · refine XS.aloadN X0.here hx rfl (D17 hby 0 rfl) rfl rfl ?_
    refine XS.aloadN X0.here hx rfl (D17 hby 1 rfl) rfl rfl ?_
    refine st4.trans ?_
    refine XS.aloadN X4.here hx rfl (D17 hby 3 rfl) rfl rfl ?_
    refine XS.aloadN X4.here hx rfl (D17 hby 4 rfl) rfl rfl ?_
    refine st6 _ ?_
    refine XS.iloadN X6.here hx rfl (D17 hby 6 rfl) rfl ?_
    refine XS.aloadN X6.here hx rfl (D17 hby 7 rfl) rfl rfl ?_
    refine st8 _ ?_
    refine st9.trans ?_
    exact X9.returnOut hx Bd.returns (D17 hby 10 rfl) hr
  · show Q19 Z w5 kd c_ (vd.take m_ ++ own_by xs ++ vd.drop (m_ + xs.length)) h0 n0 _ T9.heap _
    exact ⟨rfl, N9, Qq⟩
def l25 : List (Nat × Instr × Nat) := [(0, .iload_n 0, 1), (1, .iload_n 1, 1), (2, .iload_n 2, 1), (3, .invokestatic 194, 3), (6, .iadd, 1), (7, .istore_n 3, 1), (8, .iconst 0, 1), (9, .iload_n 3, 1), (10, .if_icmp .ge 11, 3), (13, .iload_n 3, 1), (14, .ldc 200, 2), (16, .if_icmp .gt 5, 3), (19, .iload_n 3, 1), (20, .ireturn, 1)]
theorem D25 {c : Code} (h : c.code = jdk_48_method_27_code) : zQ c l25 := zD h (by decide +kernel)
theorem pn_25 : plainName "jdk/internal/util/ArraysSupport" = true := by first | (simp [plainName, overriddenIn]; done) | decide +kernel
theorem pd_25_23 : parseMethodDescriptor "(II)I" = some ⟨[.int, .int], some .int⟩ := by decide +kernel
theorem ef_25 (m : MethodId) (x0 : Int32) (x1 : Int32) (x2 : Int32) : entryFrame m #[.int x0, .int x1, .int x2] 4 = mkF m 0 #[.val (.int x0), .val (.int x1), .val (.int x2), .unset] [] := by first | (simp [entryFrame, mkF, argsToLocals, Value.category]; done) | rfl
theorem r25 (l : Launch) (Z : State) (a0 : Array Value) (hw : zH Z a0) (ws : List Jvm.Cond) (p1 : Int32) (p2 : Int32) (p3 : Int32) (vv : Int32) (h0 : Heap) (n0 : Nat) (Z0 : n0 ≤ h0.size) (hm : own_max p2 p3 = vv) (hA : (0 : Int32) < (p1 + vv)) (hB : ¬ ((2147483639 : Int32) < (p1 + vv))) :
    zM l Z h0 ws y_33 jdk_48_method_27_code 4 (some .int) (zr 1 0 0 14) #[.int p1, .int p2, .int p3] (QR (some (.int (p1 + vv))) h0 n0) := by
  refine MetFree.of_bodySF (plainFor_of_name pn_25) hisR ?_
  intro p e s m args below meth c s₁ Bd hml0 hP hK
  obtain ⟨rfl, hZ, hh⟩ := hP
  have hx := Bd.exec
  have hby := Bd.bytes
  have hml : c.maxLocals = 4 := hml0
  have hown : s.vm.findClass "jdk/internal/util/ArraysSupport" = some m.cls := findClass_of_methodNamed Bd.named
  have X0 : Stand p l e (zr 1 0 0 14) s m #[.int p1, .int p2, .int p3] below meth c s₁ [] 0 0 := Stand.of_body Bd
  have e0 : s₁.heap = h0 := by rw [← hh, Bd.state]; rfl
  have N0 := Fr.nil n0
  have pre0 := zP p e below s₁ (ef_25 m p1 p2 p3)
  obtain ⟨_, _, ⟨T4, L4, k4, n4⟩, -, X4, ⟨Lc4, hQ4, l4, y4, z4⟩, st4⟩ := Jvm.LawKit.callS X0 hx (y := y_14) hown (zT hZ hw 145 rfl) (zT hZ hw 146 rfl) (zT hZ hw 147 rfl) (zT hZ hw 148 rfl) (by decide) (backOf (W := 1) (r26 l Z a0 hw [] p2 p3 vv h0 n0 Z0 hm) hZ (zW hw 148 rfl) (zW hw 147 rfl) (by decide) (by decide)) (g := (mkF m 3 #[.val (.int p1), .val (.int p2), .val (.int p3), .unset] [.int p3, .int p2, .int p1])) rfl (by rw [hml]; rfl) (argsL := [.int p2, .int p3]) (rest := [.int p1]) (lenOf pd_25_23 rfl) rfl (Nat.le_of_eq rfl) (D25 hby 3 rfl) (fun _ _ => ⟨rfl, e0, (by decide : 0 + 0 ≤ _), (by decide : 0 + 0 ≤ _)⟩)
  dsimp only [Pt.U, Pt.locs, Pt.cells, Pt.slots] at X4 l4 y4 z4 st4 hQ4
  subst l4 y4 z4
  obtain ⟨rfl, N4q, e4⟩ := hQ4
  have N4 := Fr.app N0 N4q
  obtain ⟨fs, hr, hrun, hended, hW, hsame⟩ := X4.leave (v := some (.int (p1 + vv))) (fun h => by rw [Bd.returns] at h; cases h)
  refine ⟨_, _, pre0 _ ?_, hrun, hended, _, _, rfl, ?_, ⟨_, rfl⟩, hW, hsame.mono (by decide) (by decide)⟩
  · refine XS.iloadN X0.here hx rfl (D25 hby 0 rfl) rfl ?_
    refine XS.iloadN X0.here hx rfl (D25 hby 1 rfl) rfl ?_
    refine XS.iloadN X0.here hx rfl (D25 hby 2 rfl) rfl ?_
    refine st4 _ ?_
    refine XS.iadd X4.here hx rfl (D25 hby 4 rfl) rfl ?_
    refine XS.istoreN X4.here hx rfl (D25 hby 5 rfl) rfl (l' := #[.val (.int p1), .val (.int p2), .val (.int p3), .val (.int (p1 + vv))]) rfl ?_
    refine XS.iconst X4.here hx rfl (D25 hby 6 rfl) ?_
    refine XS.iloadN X4.here hx rfl (D25 hby 7 rfl) rfl ?_
    refine XS.icmpNo X4.here hx rfl (D25 hby 8 rfl) rfl (tlt (hA : (0 : Int32) < (p1 + vv))).2.1 ?_
    refine XS.iloadN X4.here hx rfl (D25 hby 9 rfl) rfl ?_
    refine X4.ldcInt hx hown (zT hZ hw 149 rfl) (g := (mkF m 14 #[.val (.int p1), .val (.int p2), .val (.int p3), .val (.int (p1 + vv))] [(.int (p1 + vv))])) rfl (D25 hby 10 rfl) _ ?_
    refine XS.icmpNo X4.here hx rfl (D25 hby 11 rfl) rfl (flt (hB : ¬ ((2147483639 : Int32) < (p1 + vv)))).2.2.1 ?_
    refine XS.iloadN X4.here hx rfl (D25 hby 12 rfl) rfl ?_
    exact retI X4 hx Bd.returns (D25 hby 13 rfl) hr
  · show QR (some (.int (p1 + vv))) h0 n0 _ T4.heap _
    rw [e4]
    exact ⟨rfl, N4, rfl⟩
def l24 : List (Nat × Instr × Nat) := [(0, .aload_n 0, 1), (1, .getfield 15, 3), (4, .arraylength, 1), (5, .istore_n 2, 1), (6, .iload_n 1, 1), (7, .aload_n 0, 1), (8, .getfield 22, 3), (11, .ishl, 1), (12, .istore_n 3, 1), (13, .iload_n 3, 1), (14, .iload_n 2, 1), (15, .isub, 1), (16, .istore 4, 2), (18, .iload_n 2, 1), (19, .iload 4, 2), (21, .iload_n 2, 1), (22, .iconst 2, 1), (23, .aload_n 0, 1), (24, .getfield 22, 3), (27, .ishl, 1), (28, .iadd, 1), (29, .invokestatic 114, 3), (32, .istore 5, 2), (34, .iload 5, 2), (36, .ldc 39, 2), (38, .if_icmp .ne 13, 3), (51, .iload 5, 2), (53, .aload_n 0, 1), (54, .getfield 22, 3), (57, .ishr, 1), (58, .ireturn, 1)]
theorem D24 {c : Code} (h : c.code = jdk_68_method_10_code) : zQ c l24 := zD h (by decide +kernel)
theorem pd_24_22 : parseMethodDescriptor "(III)I" = some ⟨[.int, .int, .int], some .int⟩ := by decide +kernel
theorem ef_24 (m : MethodId) (x0 : Addr) (x1 : Int32) : entryFrame m #[.ref x0, .int x1] 6 = mkF m 0 #[.val (.ref x0), .val (.int x1), .unset, .unset, .unset, .unset] [] := by first | (simp [entryFrame, mkF, argsToLocals, Value.category]; done) | rfl
theorem r24 (l : Launch) (Z : State) (a0 : Array Value) (hw : zH Z a0) (ws : List Jvm.Cond) (a1 : Addr) (w3 : Addr) (c_ q : Nat) (kd : ClassId) (vd : List Value) (h0 : Heap) (n0 : Nat) (Z0 : n0 ≤ h0.size) (F_value_a1 : Fld Z h0 a1 "java/lang/AbstractStringBuilder" "value" "[B" (.ref w3)) (F_coder_a1 : Fld Z h0 a1 "java/lang/AbstractStringBuilder" "coder" "B" (.int 0)) (B : Arv Z h0 w3 kd .byte (Int32.ofNat c_) vd (.int 0)) (h1 : c_ < q) (h2 : q ≤ 2 * c_ + 2) (hc : c_ < 1000) :
    zM l Z h0 ws y_34 jdk_68_method_10_code 6 (some .int) (zr 2 0 0 29) #[.ref a1, (.int (Int32.ofNat q))] (QR (some (.int (Int32.ofNat (2 * c_ + 2)))) h0 n0) := by
  refine MetFree.of_bodySF (plainFor_of_name pn_38) hisR ?_
  intro p e s m args below meth c s₁ Bd hml0 hP hK
  obtain ⟨rfl, hZ, hh⟩ := hP
  have hx := Bd.exec
  obtain ⟨cl_w3, Ar_w3, qb, S_w3, N_w3, Hb, Gb⟩ := id B
  have ey : ((Int32.ofNat c_) + ((2 : Int32) <<< ((0 : Int32) &&& 31))) = Int32.ofNat (c_ + 2) := by rw [Int32.ofNat_add]; rfl
  have ex : (((Int32.ofNat q) <<< ((0 : Int32) &&& 31)) - (Int32.ofNat c_)) = Int32.ofNat (q - c_) := by rw [own_l0, own_sub c_ q (by omega)]
  have hm : own_max (((Int32.ofNat q) <<< ((0 : Int32) &&& 31)) - (Int32.ofNat c_)) ((Int32.ofNat c_) + ((2 : Int32) <<< ((0 : Int32) &&& 31))) = Int32.ofNat (c_ + 2) := by
    rw [ex, ey, own_max_n _ _ (by omega) (by omega)]
    congr 1
    omega
  have es : (Int32.ofNat c_) + Int32.ofNat (c_ + 2) = Int32.ofNat (2 * c_ + 2) := by
    rw [← Int32.ofNat_add]
    congr 1
    omega
  have hA : (0 : Int32) < ((Int32.ofNat c_) + Int32.ofNat (c_ + 2)) := by rw [es]; exact (own_lt 0 _ (by decide) (by omega)).mpr (by omega)
  have hB : ¬ ((2147483639 : Int32) < ((Int32.ofNat c_) + Int32.ofNat (c_ + 2))) := by rw [es]; intro q_; have := (own_lt 2147483639 _ (by decide) (by omega)).mp q_; omega
  have hN : ¬ (((Int32.ofNat c_) + Int32.ofNat (c_ + 2)) = (2147483647 : Int32)) := by rw [es]; intro q_; have := (own_eq _ 2147483647 (by omega) (by decide)).mp q_; omega
  have hby := Bd.bytes
  have hml : c.maxLocals = 6 := hml0
  have hown : s.vm.findClass "java/lang/AbstractStringBuilder" = some m.cls := findClass_of_methodNamed Bd.named
  have X0 : Stand p l e (zr 2 0 0 29) s m #[.ref a1, (.int (Int32.ofNat q))] below meth c s₁ [] 0 0 := Stand.of_body Bd
  have e0 : s₁.heap = h0 := by rw [← hh, Bd.state]; rfl
  have N0 := Fr.nil n0
  have pre0 := zP p e below s₁ (ef_24 m a1 (Int32.ofNat q))
  obtain ⟨T4, X4, e4, st4⟩ := getF X0 hx hZ hown (host := "") (Or.inl (zW hw 51 rfl)) Via.refl e0 F_value_a1 (g := (mkF m 1 #[.val (.ref a1), .val (.int (Int32.ofNat q)), .unset, .unset, .unset, .unset] [.ref a1])) rfl rfl (D24 hby 1 rfl)
  obtain ⟨T6, X6, e6, st6⟩ := getF X4 hx hZ hown (host := "") (Or.inl (zW hw 53 rfl)) Via.refl e4 F_coder_a1 (g := (mkF m 8 #[.val (.ref a1), .val (.int (Int32.ofNat q)), .val (.int (Int32.ofNat c_)), .unset, .unset, .unset] [.ref a1, (.int (Int32.ofNat q))])) rfl rfl (D24 hby 6 rfl)
  obtain ⟨T7, X7, e7, st7⟩ := getF X6 hx hZ hown (host := "") (Or.inl (zW hw 53 rfl)) Via.refl e6 F_coder_a1 (g := (mkF m 24 #[.val (.ref a1), .val (.int (Int32.ofNat q)), .val (.int (Int32.ofNat c_)), .val (.int ((Int32.ofNat q) <<< ((0 : Int32) &&& 31))), .val (.int (((Int32.ofNat q) <<< ((0 : Int32) &&& 31)) - (Int32.ofNat c_))), .unset] [.ref a1, .int 2, (.int (Int32.ofNat c_)), (.int (((Int32.ofNat q) <<< ((0 : Int32) &&& 31)) - (Int32.ofNat c_))), (.int (Int32.ofNat c_))])) rfl rfl (D24 hby 18 rfl)
  obtain ⟨_, _, ⟨T8, L8, k8, n8⟩, -, X8, ⟨Lc8, hQ8, l8, y8, z8⟩, st8⟩ := Jvm.LawKit.callS X7 hx (y := y_33) hown (zT hZ hw 141 rfl) (zT hZ hw 142 rfl) (zT hZ hw 143 rfl) (zT hZ hw 144 rfl) (by decide) (backOf (W := 0) (r25 l Z a0 hw [] (Int32.ofNat c_) (((Int32.ofNat q) <<< ((0 : Int32) &&& 31)) - (Int32.ofNat c_)) ((Int32.ofNat c_) + ((2 : Int32) <<< ((0 : Int32) &&& 31))) (Int32.ofNat (c_ + 2)) h0 n0 Z0 hm hA hB) hZ (zW hw 144 rfl) (zW hw 143 rfl) (by decide) (by decide)) (g := (mkF m 29 #[.val (.ref a1), .val (.int (Int32.ofNat q)), .val (.int (Int32.ofNat c_)), .val (.int ((Int32.ofNat q) <<< ((0 : Int32) &&& 31))), .val (.int (((Int32.ofNat q) <<< ((0 : Int32) &&& 31)) - (Int32.ofNat c_))), .unset] [(.int ((Int32.ofNat c_) + ((2 : Int32) <<< ((0 : Int32) &&& 31)))), (.int (((Int32.ofNat q) <<< ((0 : Int32) &&& 31)) - (Int32.ofNat c_))), (.int (Int32.ofNat c_))])) rfl (by rw [hml]; rfl) (argsL := [(.int (Int32.ofNat c_)), (.int (((Int32.ofNat q) <<< ((0 : Int32) &&& 31)) - (Int32.ofNat c_))), (.int ((Int32.ofNat c_) + ((2 : Int32) <<< ((0 : Int32) &&& 31))))]) (rest := []) (lenOf pd_24_22 rfl) rfl (Nat.le_of_eq rfl) (D24 hby 21 rfl) (fun _ _ => ⟨rfl, e7, (by decide : 0 + 0 ≤ _), (by decide : 0 + 0 ≤ _)⟩)
  dsimp only [Pt.U, Pt.locs, Pt.cells, Pt.slots] at X8 l8 y8 z8 st8 hQ8
  subst l8 y8 z8
  obtain ⟨rfl, N8q, e8⟩ := hQ8
  have N8 := Fr.app N0 N8q
  obtain ⟨T10, X10, e10, st10⟩ := getF X8 hx hZ hown (host := "") (Or.inl (zW hw 53 rfl)) Via.refl e8 F_coder_a1 (g := (mkF m 54 #[.val (.ref a1), .val (.int (Int32.ofNat q)), .val (.int (Int32.ofNat c_)), .val (.int ((Int32.ofNat q) <<< ((0 : Int32) &&& 31))), .val (.int (((Int32.ofNat q) <<< ((0 : Int32) &&& 31)) - (Int32.ofNat c_))), .val (.int ((Int32.ofNat c_) + Int32.ofNat (c_ + 2)))] [.ref a1, (.int ((Int32.ofNat c_) + Int32.ofNat (c_ + 2)))])) rfl rfl (D24 hby 28 rfl)
  obtain ⟨fs, hr, hrun, hended, hW, hsame⟩ := X10.leave (v := some (.int (((Int32.ofNat c_) + Int32.ofNat (c_ + 2)) >>> ((0 : Int32) &&& 31)))) (fun h => by rw [Bd.returns] at h; cases h)
  refine ⟨_, _, pre0 _ ?_, hrun, hended, _, _, rfl, ?_, ⟨_, rfl⟩, hW, hsame.mono (by decide) (by decide)⟩
  · refine XS.aloadN X0.here hx rfl (D24 hby 0 rfl) rfl rfl ?_
    refine st4 _ ?_
    refine X4.arraylength hx (by rw [e4]; exact Ar_w3.1) (State.isArrayOf_alike hZ.alike Ar_w3.2.1) (g := (mkF m 4 #[.val (.ref a1), .val (.int (Int32.ofNat q)), .unset, .unset, .unset, .unset] [.ref w3])) rfl rfl (D24 hby 2 rfl) _ ?_
    rw [len_of S_w3 N_w3]
    refine XS.istoreN X4.here hx rfl (D24 hby 3 rfl) rfl (l' := #[.val (.ref a1), .val (.int (Int32.ofNat q)), .val (.int (Int32.ofNat c_)), .unset, .unset, .unset]) rfl ?_
    refine XS.iloadN X4.here hx rfl (D24 hby 4 rfl) rfl ?_
    refine XS.aloadN X4.here hx rfl (D24 hby 5 rfl) rfl rfl ?_
    refine st6 _ ?_
    refine XS.ishl X6.here hx rfl (D24 hby 7 rfl) rfl ?_
    refine XS.istoreN X6.here hx rfl (D24 hby 8 rfl) rfl (l' := #[.val (.ref a1), .val (.int (Int32.ofNat q)), .val (.int (Int32.ofNat c_)), .val (.int ((Int32.ofNat q) <<< ((0 : Int32) &&& 31))), .unset, .unset]) rfl ?_
    refine XS.iloadN X6.here hx rfl (D24 hby 9 rfl) rfl ?_
    refine XS.iloadN X6.here hx rfl (D24 hby 10 rfl) rfl ?_
    refine XS.isub X6.here hx rfl (D24 hby 11 rfl) rfl ?_
    refine XS.istore X6.here hx rfl (D24 hby 12 rfl) rfl (l' := #[.val (.ref a1), .val (.int (Int32.ofNat q)), .val (.int (Int32.ofNat c_)), .val (.int ((Int32.ofNat q) <<< ((0 : Int32) &&& 31))), .val (.int (((Int32.ofNat q) <<< ((0 : Int32) &&& 31)) - (Int32.ofNat c_))), .unset]) rfl ?_
    refine XS.iloadN X6.here hx rfl (D24 hby 13 rfl) rfl ?_
    refine XS.iload X6.here hx rfl (D24 hby 14 rfl) rfl ?_
    refine XS.iloadN X6.here hx rfl (D24 hby 15 rfl) rfl ?_
    refine XS.iconst X6.here hx rfl (D24 hby 16 rfl) ?_
    refine XS.aloadN X6.here hx rfl (D24 hby 17 rfl) rfl rfl ?_
    refine st7 _ ?_
    refine XS.ishl X7.here hx rfl (D24 hby 19 rfl) rfl ?_
    refine XS.iadd X7.here hx rfl (D24 hby 20 rfl) rfl ?_
    refine st8 _ ?_
    refine XS.istore X8.here hx rfl (D24 hby 22 rfl) rfl (l' := #[.val (.ref a1), .val (.int (Int32.ofNat q)), .val (.int (Int32.ofNat c_)), .val (.int ((Int32.ofNat q) <<< ((0 : Int32) &&& 31))), .val (.int (((Int32.ofNat q) <<< ((0 : Int32) &&& 31)) - (Int32.ofNat c_))), .val (.int ((Int32.ofNat c_) + Int32.ofNat (c_ + 2)))]) rfl ?_
    refine XS.iload X8.here hx rfl (D24 hby 23 rfl) rfl ?_
    refine X8.ldcInt hx hown (zT hZ hw 150 rfl) (g := (mkF m 36 #[.val (.ref a1), .val (.int (Int32.ofNat q)), .val (.int (Int32.ofNat c_)), .val (.int ((Int32.ofNat q) <<< ((0 : Int32) &&& 31))), .val (.int (((Int32.ofNat q) <<< ((0 : Int32) &&& 31)) - (Int32.ofNat c_))), .val (.int ((Int32.ofNat c_) + Int32.ofNat (c_ + 2)))] [(.int ((Int32.ofNat c_) + Int32.ofNat (c_ + 2)))])) rfl (D24 hby 24 rfl) _ ?_
    refine XS.icmpYes X8.here hx rfl (pc0 := 38) (pc' := 51) rfl (D24 hby 25 rfl) rfl (feq (hN : ¬ (((Int32.ofNat c_) + Int32.ofNat (c_ + 2)) = (2147483647 : Int32)))).2 (by decide) (by decide) ?_
    refine XS.iload X8.here hx rfl (D24 hby 26 rfl) rfl ?_
    refine XS.aloadN X8.here hx rfl (D24 hby 27 rfl) rfl rfl ?_
    refine st10 _ ?_
    refine XS.ishr X10.here hx rfl (D24 hby 29 rfl) rfl ?_
    exact retI X10 hx Bd.returns (D24 hby 30 rfl) hr
  · show QR (some (.int (Int32.ofNat (2 * c_ + 2)))) h0 n0 _ T10.heap _
    rw [e10]
    exact ⟨by rw [own_s0, es], N8, rfl⟩
def l27 : List (Nat × Instr × Nat) := [(0, .iload_n 1, 1), (1, .aload_n 0, 1), (2, .arraylength, 1), (3, .if_icmp .ne 11, 3), (14, .iload_n 1, 1), (15, .newarray .byte, 2), (17, .astore_n 2, 1), (18, .aload_n 0, 1), (19, .iconst 0, 1), (20, .aload_n 2, 1), (21, .iconst 0, 1), (22, .aload_n 0, 1), (23, .arraylength, 1), (24, .iload_n 1, 1), (25, .invokestatic 304, 3), (28, .invokestatic 150, 3), (31, .aload_n 2, 1), (32, .areturn, 1)]
theorem D27 {c : Code} (h : c.code = jdk_65_method_121_code) : zQ c l27 := zD h (by decide +kernel)
theorem pn_27 : plainName "java/util/Arrays" = true := by first | (simp [plainName, overriddenIn]; done) | decide +kernel
theorem ef_27 (m : MethodId) (x0 : Addr) (x1 : Int32) : entryFrame m #[.ref x0, .int x1] 3 = mkF m 0 #[.val (.ref x0), .val (.int x1), .unset] [] := by first | (simp [entryFrame, mkF, argsToLocals, Value.category]; done) | rfl
def Q27 (Z : State) (c : Nat) (n : Nat) (vd : List Value) (h0 : Heap) (n0 : Nat) (v : Option Value) (h : Heap) (L : List Loc) : Prop := v = some (.ref h0.size) ∧ Fr n0 L ∧ Keep h0 h [] ∧ ∃ (k : ClassId) (vs : List Value), Arv Z h h0.size k .byte (Int32.ofNat c) vs (.int 0) ∧ vs.length = c ∧ vs.take n = vd
theorem r27 (l : Launch) (Z : State) (a0 : Array Value) (hw : zH Z a0) (ws : List Jvm.Cond) (a1 : Addr) (c_ : Nat) (kd : ClassId) (vd : List Value) (h0 : Heap) (n0 : Nat) (Z0 : n0 ≤ h0.size) (B : Arv Z h0 a1 kd .byte (Int32.ofNat c_) vd (.int 0)) (hvd : vd.length = c_) (hc : c_ ≤ 70) :
    zM l Z h0 ws y_20 jdk_65_method_121_code 3 (some (.array .byte)) (zr 1 1 142 18) #[.ref a1, (.int (Int32.ofNat (2 * c_ + 2)))] (Q27 Z (2 * c_ + 2) c_ vd h0 n0) := by
  refine MetFree.of_bodySF (plainFor_of_name pn_27) hisR ?_
  intro p e s m args below meth c s₁ Bd hml0 hP hK
  obtain ⟨rfl, hZ, hh⟩ := hP
  have hx := Bd.exec
  obtain ⟨cl_a1, Ar_a1, qb, S_a1, N_a1, Hb, Gb⟩ := id B
  have x1 : (Int32.ofNat c_).toNatClampNeg = c_ := own_cl c_ (by omega)
  have x2 : (Int32.ofNat (2 * c_ + 2)).toNatClampNeg = (2 * c_ + 2) := own_cl _ (by omega)
  have hc3 : ¬ ((Int32.ofNat (2 * c_ + 2)) = (Int32.ofNat c_)) := fun q_ => by have := (own_eq _ _ (by omega) (by omega)).mp q_; omega
  have hby := Bd.bytes
  have hml : c.maxLocals = 3 := hml0
  have hown : s.vm.findClass "java/util/Arrays" = some m.cls := findClass_of_methodNamed Bd.named
  have X0 : Stand p l e (zr 1 1 142 18) s m #[.ref a1, (.int (Int32.ofNat (2 * c_ + 2)))] below meth c s₁ [] 0 0 := Stand.of_body Bd
  have e0 : s₁.heap = h0 := by rw [← hh, Bd.state]; rfl
  have N0 := Fr.nil n0
  have pre0 := zP p e below s₁ (ef_27 m a1 (Int32.ofNat (2 * c_ + 2)))
  obtain ⟨T3, h3, k3, X3, e3, E3, A3, st3⟩ := newP X0 hx hZ (zW hw 19 rfl) e0 (g := (mkF m 15 #[.val (.ref a1), .val (.int (Int32.ofNat (2 * c_ + 2))), .unset] [(.int (Int32.ofNat (2 * c_ + 2)))])) rfl (D27 hby 5 rfl) rfl (own_nn _ (by omega)) (cap := 142) (by rw [x2]; omega) (by decide) (by decide) (by decide)
  obtain ⟨b3, g3⟩ : ∃ z, z = h0.size := ⟨_, rfl⟩
  rw [← g3] at A3 st3
  have V_b3 : Arv Z h3 b3 k3 .byte (Int32.ofNat (2 * c_ + 2)) ([] ++ List.replicate (2 * c_ + 2) (.int 0)) (.int 0) := (Arv.new A3 (own_nn _ (by omega))).pad (pad_rep [] (.int 0) (2 * c_ + 2))
  have g_b3 : n0 ≤ b3 := Nat.le_trans Z0 (Nat.le_of_eq g3.symm)
  have sz_b3 : h0.size ≤ b3 := (Nat.le_trans (Keep.refl h0 []).1 (Nat.le_of_eq g3.symm))
  have K3 : Keep h0 h3 [] := (Keep.refl h0 []).ext E3
  obtain ⟨_, _, ⟨T4, L4, k4, n4⟩, -, X4, ⟨Lc4, hQ4, l4, y4, z4⟩, st4⟩ := Jvm.LawKit.callS X3 hx (y := y_9) hown (zT hZ hw 155 rfl) (zT hZ hw 156 rfl) (zT hZ hw 147 rfl) (zT hZ hw 157 rfl) (by decide) (backOf (W := 4) (r28 l Z a0 hw [] (Int32.ofNat c_) (Int32.ofNat (2 * c_ + 2)) (Int32.ofNat c_) h3 n0 (Nat.le_trans Z0 E3.1) (by rw [own_min_n _ _ (by omega) (by omega)]; congr 1; omega)) hZ (zW hw 157 rfl) (zW hw 147 rfl) (by decide) (by decide)) (g := (mkF m 25 #[.val (.ref a1), .val (.int (Int32.ofNat (2 * c_ + 2))), .val (.ref b3)] [(.int (Int32.ofNat (2 * c_ + 2))), (.int (Int32.ofNat c_)), .int 0, .ref b3, .int 0, .ref a1])) rfl (by rw [hml]; rfl) (argsL := [(.int (Int32.ofNat c_)), (.int (Int32.ofNat (2 * c_ + 2)))]) (rest := [.int 0, .ref b3, .int 0, .ref a1]) (lenOf pd_25_23 rfl) rfl (Nat.le_of_eq rfl) (D27 hby 14 rfl) (fun _ _ => ⟨rfl, e3, (by decide : 1 + 0 ≤ _), (by decide : 142 + 0 ≤ _)⟩)
  dsimp only [Pt.U, Pt.locs, Pt.cells, Pt.slots] at X4 l4 y4 z4 st4 hQ4
  subst l4 y4 z4
  obtain ⟨rfl, N4q, e4⟩ := hQ4
  have N4 := Fr.app N0 N4q
  obtain ⟨T5, h5, L5, X5, e5, N5, K5, V5, st5⟩ := cpA X4 hx hZ hown (zW hw 158 rfl) (zW hw 116 rfl) (zW hw 114 rfl) (zW hw 115 rfl) e4 (B.ext E3) V_b3 (Or.inl ⟨rfl, rfl⟩) (by decide) (by decide) (own_nn c_ (by omega)) (by rw [x1]; show 0 + c_ ≤ c_; omega) (by rw [x1, x2]; show 0 + c_ ≤ _; omega) rfl (by rw [x1]; simp; omega) N4 g_b3 (g := (mkF m 28 #[.val (.ref a1), .val (.int (Int32.ofNat (2 * c_ + 2))), .val (.ref b3)] [(.int (Int32.ofNat c_)), .int 0, .ref b3, .int 0, .ref a1])) rfl (by rw [hml]; rfl) (rest := []) rfl (D27 hby 15 rfl) (by decide) (W := 0) (Nat.le_of_eq rfl) (by decide)
  obtain ⟨fs, hr, hrun, hended, hW, hsame⟩ := X5.leave (v := some (.ref b3)) (fun h => by rw [Bd.returns] at h; cases h)
  refine ⟨_, _, pre0 _ ?_, hrun, hended, _, _, rfl, ?_, ⟨_, rfl⟩, hW, hsame.mono (by decide) (by decide)⟩
  · refine XS.iloadN X0.here hx rfl (D27 hby 0 rfl) rfl ?_
    refine XS.aloadN X0.here hx rfl (D27 hby 1 rfl) rfl rfl ?_
    refine X0.arraylength hx (by rw [e0]; exact Ar_a1.1) (State.isArrayOf_alike hZ.alike Ar_a1.2.1) (g := (mkF m 2 #[.val (.ref a1), .val (.int (Int32.ofNat (2 * c_ + 2))), .unset] [.ref a1, (.int (Int32.ofNat (2 * c_ + 2)))])) rfl rfl (D27 hby 2 rfl) _ ?_
    rw [len_of S_a1 N_a1]
    refine XS.icmpYes X0.here hx rfl (pc0 := 3) (pc' := 14) rfl (D27 hby 3 rfl) rfl (feq hc3).2 (by decide) (by decide) ?_
    refine XS.iloadN X0.here hx rfl (D27 hby 4 rfl) rfl ?_
    refine st3 _ ?_
    refine XS.astoreN X3.here hx rfl (D27 hby 6 rfl) rfl rfl (l' := #[.val (.ref a1), .val (.int (Int32.ofNat (2 * c_ + 2))), .val (.ref b3)]) rfl ?_
    refine XS.aloadN X3.here hx rfl (D27 hby 7 rfl) rfl rfl ?_
    refine XS.iconst X3.here hx rfl (D27 hby 8 rfl) ?_
    refine XS.aloadN X3.here hx rfl (D27 hby 9 rfl) rfl rfl ?_
    refine XS.iconst X3.here hx rfl (D27 hby 10 rfl) ?_
    refine XS.aloadN X3.here hx rfl (D27 hby 11 rfl) rfl rfl ?_
    refine X3.arraylength hx (by rw [e3]; exact (Ar_a1.ext E3).1) (State.isArrayOf_alike hZ.alike Ar_a1.2.1) (g := (mkF m 23 #[.val (.ref a1), .val (.int (Int32.ofNat (2 * c_ + 2))), .val (.ref b3)] [.ref a1, .int 0, .ref b3, .int 0, .ref a1])) rfl rfl (D27 hby 12 rfl) _ ?_
    rw [len_of S_a1 N_a1]
    refine XS.iloadN X3.here hx rfl (D27 hby 13 rfl) rfl ?_
    refine st4 _ ?_
    refine st5 _ ?_
    refine XS.aloadN X5.here hx rfl (D27 hby 16 rfl) rfl rfl ?_
    jvm_step X5.here [X5.here.top, hx, (D27 hby 17 rfl), X5.method', Bd.returns, Value.isRef, FieldType.isReference]
    first | (intro acts; rw [hr _ acts rfl rfl rfl]) | rw [hr _ _ rfl rfl rfl]
    exact Steps.refl _
  · show Q27 Z (2 * c_ + 2) c_ vd h0 n0 _ T5.heap _
    rw [e5]
    have e0_ : (0 : Int32).toNatClampNeg = 0 := by decide
    rw [x1] at V5
    simp only [e0_] at V5
    rw [own_rng vd _ c_ hvd] at V5
    refine ⟨by rw [g3], N5, K3.trans K5 (allS (Or.inr sz_b3) all0), k3, _, by rw [← g3]; exact V5, ?_, ?_⟩
    · simp [hvd]; omega
    · simp [hvd]
theorem own_subt (a b : Nat) (ha : a < 1000) (hb : b < 1000) : ((Int32.ofNat a) - ((Int32.ofNat b) >>> ((0 : Int32) &&& 31))).toInt = (a : Int) - b := by
  rw [own_s0, Int32.toInt_sub, own_ti a (by omega), own_ti b (by omega)]
  exact Int.bmod_eq_of_le (by omega) (by omega)
theorem own_dle (a b : Nat) (ha : a < 1000) (hb : b < 1000) (h : a ≤ b) : ¬ (0 : Int32) < (Int32.ofNat a) - ((Int32.ofNat b) >>> ((0 : Int32) &&& 31)) := by
  rw [Int32.lt_iff_toInt_lt, own_subt a b ha hb]
  show ¬ (0 : Int) < _
  omega
theorem own_dlt (a b : Nat) (ha : a < 1000) (hb : b < 1000) (h : b < a) : (0 : Int32) < (Int32.ofNat a) - ((Int32.ofNat b) >>> ((0 : Int32) &&& 31)) := by
  rw [Int32.lt_iff_toInt_lt, own_subt a b ha hb]
  show (0 : Int) < _
  omega
theorem own_takeset {α : Type} (vs : List α) (n : Nat) (v : α) (hn : n < vs.length) : (vs.set n v).take (n + 1) = vs.take n ++ [v] := by
  apply List.ext_getElem
  · simp; omega
  · intro i h1 h2
    simp at h1 h2
    rw [List.getElem_take, List.getElem_set, List.getElem_append]
    by_cases h : n = i
    · subst h; simp; intro q; omega
    · have : i < n := by omega
      simp [h]; intro q; omega
theorem own_lo8i (x : Int32) : x.toInt8.toInt32.toInt8.toInt32 = x.toInt8.toInt32 := by simp
theorem own_takesplice {α : Type} (vd as xs : List α) (m n c : Nat) (h1 : vd.length = c) (h2 : vd.take m = as) (h3 : as.length = m) (h4 : xs.length = n) (h5 : m + n ≤ c) : (vd.take m ++ xs ++ vd.drop (m + n)).length = c ∧ (vd.take m ++ xs ++ vd.drop (m + n)).take (m + n) = as ++ xs := by
  subst h4 h2
  constructor
  · simp; omega
  · rw [List.take_append_of_le_length (by simp at *; omega)]
    apply List.take_of_length_le
    simp at *; omega
def own_P (c q c' : Nat) : Prop := (c' = c ∧ q ≤ c) ∨ (c' = 2 * c + 2 ∧ c < q)
def own_St (Z : State) (h0 : Heap) (b t0 : Addr) (h : Heap) (cs : List Int32) (c q : Nat) : Prop := Keep h0 h [b, t0] ∧ ∃ (c' : Nat) (t' : Addr), own_P c q c' ∧ own_SBv Z h b cs c' t' ∧ (t' = t0 ∨ h0.size ≤ t')
def Q16 (Z : State) (a1 t0 : Addr) (cs : List Int32) (c q : Nat) (h0 : Heap) (n0 : Nat) (v : Option Value) (h : Heap) (L : List Loc) : Prop := v = none ∧ Fr n0 L ∧ own_St Z h0 a1 t0 h cs c q
def Q13 (Z : State) (a1 t0 : Addr) (cs : List Int32) (c q : Nat) (h0 : Heap) (n0 : Nat) (v : Option Value) (h : Heap) (L : List Loc) : Prop := v = some (.ref a1) ∧ Fr n0 L ∧ own_St Z h0 a1 t0 h cs c q
theorem own_t_ge {h0 : Heap} {n0 : Nat} {t t0 : Addr} (Z0 : n0 ≤ h0.size) (g : n0 ≤ t0) (ht : t = t0 ∨ h0.size ≤ t) : n0 ≤ t := by rcases ht with rfl | ht; exact g; exact Nat.le_trans Z0 ht
theorem own_t_in {h0 : Heap} {t t0 b : Addr} (ht : t = t0 ∨ h0.size ≤ t) : t ∈ [b, t0] ∨ h0.size ≤ t := by rcases ht with rfl | ht; exact Or.inl (List.mem_of_getElem? (i := 1) rfl); exact Or.inr ht
theorem own_Str.keep2 {Z : State} {h h' : Heap} {o b t0 : Addr} {xs cs : List Int32} {c : Nat} (T : own_Str Z h o xs) (K : Keep h h' [b, t0]) (SB : own_SBv Z h b cs c t0) {a0 : Array Value} {k1 k2 : Nat} (w : (Cond.instantiable "java/lang/StringBuilder" k1).before a0 Z = true) (w2 : (Cond.instantiable "java/lang/String" k2).before a0 Z = true) (hne : ∀ t, Fld Z h o "java/lang/String" "value" "[B" (.ref t) → t ≠ t0) : own_Str Z h' o xs := by
  obtain ⟨E, FC, t, k, FV, V⟩ := T
  obtain ⟨EB, -, -, -, kd, vd, B, -⟩ := SB
  have h1 : o ≠ b := Exa.ne E EB (by decide)
  have h2 : t ≠ b := fun q => Exa.neArv EB V w q.symm
  have h3 : o ≠ t0 := Exa.neArv E B w2
  have h4 := hne t FV
  exact ⟨E.keep K, FC.keep K (ninS h1 (ninS h3 nin0)), t, k, FV.keep K (ninS h1 (ninS h3 nin0)), V.keep K (ninS h2 (ninS h4 nin0))⟩
def l16 : List (Nat × Instr × Nat) := [(0, .aload_n 0, 1), (1, .getfield 15, 3), (4, .arraylength, 1), (5, .aload_n 0, 1), (6, .getfield 22, 3), (9, .ishr, 1), (10, .istore_n 2, 1), (11, .iload_n 1, 1), (12, .iload_n 2, 1), (13, .isub, 1), (14, .ifCond .le 24, 3), (38, .return_, 1), (17, .aload_n 0, 1), (18, .aload_n 0, 1), (19, .getfield 15, 3), (22, .aload_n 0, 1), (23, .iload_n 1, 1), (24, .invokevirtual 104, 3), (27, .aload_n 0, 1), (28, .getfield 22, 3), (31, .ishl, 1), (32, .invokestatic 108, 3), (35, .putfield 15, 3)]
theorem D16 {c : Code} (h : c.code = jdk_68_method_9_code) : zQ c l16 := zD h (by decide +kernel)
theorem r16a (l : Launch) (Z : State) (a0 : Array Value) (hw : zH Z a0) (ws : List Jvm.Cond) (a1 : Addr) (p2 : Int32) (w3 : Addr) (cs : List Int32) (c_ q : Nat) (h0 : Heap) (n0 : Nat) (Z0 : n0 ≤ h0.size) (hp : p2 = Int32.ofNat q) (SB : own_SBv Z h0 a1 cs c_ w3) (g_a1 : n0 ≤ a1) (hq : q ≤ c_) (hc : c_ < 1000) :
    zM l Z h0 ws y_4 jdk_68_method_9_code 3 none (zr 0 0 0 0) #[.ref a1, .int p2] (Q16 Z a1 w3 cs c_ q h0 n0) := by
  refine MetFree.of_bodySF (plainFor_of_name pn_38) hisR ?_
  intro p e s m args below meth c s₁ Bd hml0 hP hK
  obtain ⟨rfl, hZ, hh⟩ := hP
  have hx := Bd.exec
  obtain ⟨E_a1, F_coder_a1, F_count_a1, F_value_a1, kd, vd, B, hvd, hcs, htk⟩ := id SB
  obtain ⟨cl_w3, Ar_w3, qb, S_w3, N_w3, Hb, Gb⟩ := id B
  have hc14 : ¬ ((0 : Int32) < (p2 - ((Int32.ofNat c_) >>> ((0 : Int32) &&& 31)))) := by rw [hp]; exact own_dle q c_ (by omega) hc hq
  have hby := Bd.bytes
  have hml : c.maxLocals = 3 := hml0
  have hown : s.vm.findClass "java/lang/AbstractStringBuilder" = some m.cls := findClass_of_methodNamed Bd.named
  have X0 : Stand p l e (zr 0 0 0 0) s m #[.ref a1, .int p2] below meth c s₁ [] 0 0 := Stand.of_body Bd
  have e0 : s₁.heap = h0 := by rw [← hh, Bd.state]; rfl
  have N0 := Fr.nil n0
  have pre0 := zP p e below s₁ (ef_27 m a1 p2)
  obtain ⟨T4, X4, e4, st4⟩ := getF X0 hx hZ hown (host := "") (Or.inl (zW hw 51 rfl)) Via.refl e0 F_value_a1 (g := (mkF m 1 #[.val (.ref a1), .val (.int p2), .unset] [.ref a1])) rfl rfl (D16 hby 1 rfl)
  obtain ⟨T6, X6, e6, st6⟩ := getF X4 hx hZ hown (host := "") (Or.inl (zW hw 53 rfl)) Via.refl e4 F_coder_a1 (g := (mkF m 6 #[.val (.ref a1), .val (.int p2), .unset] [.ref a1, (.int (Int32.ofNat c_))])) rfl rfl (D16 hby 4 rfl)
  obtain ⟨fs, hr, hrun, hended, hW, hsame⟩ := X6.leave (v := none) (fun _ => rfl)
  refine ⟨_, _, pre0 _ ?_, hrun, hended, _, _, rfl, ?_, ⟨_, rfl⟩, hW, hsame.mono (by decide) (by decide)⟩
  · refine XS.aloadN X0.here hx rfl (D16 hby 0 rfl) rfl rfl ?_
    refine st4 _ ?_
    refine X4.arraylength hx (by rw [e4]; exact Ar_w3.1) (State.isArrayOf_alike hZ.alike Ar_w3.2.1) (g := (mkF m 4 #[.val (.ref a1), .val (.int p2), .unset] [.ref w3])) rfl rfl (D16 hby 2 rfl) _ ?_
    rw [len_of S_w3 N_w3]
    refine XS.aloadN X4.here hx rfl (D16 hby 3 rfl) rfl rfl ?_
    refine st6 _ ?_
    refine XS.ishr X6.here hx rfl (D16 hby 5 rfl) rfl ?_
    refine XS.istoreN X6.here hx rfl (D16 hby 6 rfl) rfl (l' := #[.val (.ref a1), .val (.int p2), .val (.int ((Int32.ofNat c_) >>> ((0 : Int32) &&& 31)))]) rfl ?_
    refine XS.iloadN X6.here hx rfl (D16 hby 7 rfl) rfl ?_
    refine XS.iloadN X6.here hx rfl (D16 hby 8 rfl) rfl ?_
    refine XS.isub X6.here hx rfl (D16 hby 9 rfl) rfl ?_
    refine XS.ifYes X6.here hx rfl (pc0 := 14) (pc' := 38) rfl (D16 hby 10 rfl) rfl ((if0 _ _).trans (flt hc14).2.2.2) (by decide) (by decide) ?_
    exact X6.returnOut hx Bd.returns (D16 hby 11 rfl) hr
  · show Q16 Z a1 w3 cs c_ q h0 n0 _ T6.heap _
    rw [e6]
    exact ⟨rfl, N0, Keep.refl _ _, c_, w3, Or.inl ⟨rfl, hq⟩, SB, Or.inl rfl⟩
theorem r16b (l : Launch) (Z : State) (a0 : Array Value) (hw : zH Z a0) (ws : List Jvm.Cond) (a1 : Addr) (p2 : Int32) (w3 : Addr) (cs : List Int32) (c_ q : Nat) (h0 : Heap) (n0 : Nat) (Z0 : n0 ≤ h0.size) (hp : p2 = Int32.ofNat q) (SB : own_SBv Z h0 a1 cs c_ w3) (g_a1 : n0 ≤ a1) (hq : q ≤ c_) (hc : c_ < 1000) :
    zM l Z h0 ws y_4 jdk_68_method_9_code 3 none (zr 3 1 142 48) #[.ref a1, .int p2] (Q16 Z a1 w3 cs c_ q h0 n0) := by
  refine MetFree.of_bodySF (plainFor_of_name pn_38) hisR ?_
  intro p e s m args below meth c s₁ Bd hml0 hP hK
  obtain ⟨rfl, hZ, hh⟩ := hP
  have hx := Bd.exec
  obtain ⟨E_a1, F_coder_a1, F_count_a1, F_value_a1, kd, vd, B, hvd, hcs, htk⟩ := id SB
  obtain ⟨cl_w3, Ar_w3, qb, S_w3, N_w3, Hb, Gb⟩ := id B
  have hc14 : ¬ ((0 : Int32) < (p2 - ((Int32.ofNat c_) >>> ((0 : Int32) &&& 31)))) := by rw [hp]; exact own_dle q c_ (by omega) hc hq
  have hby := Bd.bytes
  have hml : c.maxLocals = 3 := hml0
  have hown : s.vm.findClass "java/lang/AbstractStringBuilder" = some m.cls := findClass_of_methodNamed Bd.named
  have X0 : Stand p l e (zr 3 1 142 48) s m #[.ref a1, .int p2] below meth c s₁ [] 0 0 := Stand.of_body Bd
  have e0 : s₁.heap = h0 := by rw [← hh, Bd.state]; rfl
  have N0 := Fr.nil n0
  have pre0 := zP p e below s₁ (ef_27 m a1 p2)
  obtain ⟨T4, X4, e4, st4⟩ := getF X0 hx hZ hown (host := "") (Or.inl (zW hw 51 rfl)) Via.refl e0 F_value_a1 (g := (mkF m 1 #[.val (.ref a1), .val (.int p2), .unset] [.ref a1])) rfl rfl (D16 hby 1 rfl)
  obtain ⟨T6, X6, e6, st6⟩ := getF X4 hx hZ hown (host := "") (Or.inl (zW hw 53 rfl)) Via.refl e4 F_coder_a1 (g := (mkF m 6 #[.val (.ref a1), .val (.int p2), .unset] [.ref a1, (.int (Int32.ofNat c_))])) rfl rfl (D16 hby 4 rfl)
  obtain ⟨fs, hr, hrun, hended, hW, hsame⟩ := X6.leave (v := none) (fun _ => rfl)
  refine ⟨_, _, pre0 _ ?_, hrun, hended, _, _, rfl, ?_, ⟨_, rfl⟩, hW, hsame.mono (by decide) (by decide)⟩
  · refine XS.aloadN X0.here hx rfl (D16 hby 0 rfl) rfl rfl ?_
    refine st4 _ ?_
    refine X4.arraylength hx (by rw [e4]; exact Ar_w3.1) (State.isArrayOf_alike hZ.alike Ar_w3.2.1) (g := (mkF m 4 #[.val (.ref a1), .val (.int p2), .unset] [.ref w3])) rfl rfl (D16 hby 2 rfl) _ ?_
    rw [len_of S_w3 N_w3]
    refine XS.aloadN X4.here hx rfl (D16 hby 3 rfl) rfl rfl ?_
    refine st6 _ ?_
    refine XS.ishr X6.here hx rfl (D16 hby 5 rfl) rfl ?_
    refine XS.istoreN X6.here hx rfl (D16 hby 6 rfl) rfl (l' := #[.val (.ref a1), .val (.int p2), .val (.int ((Int32.ofNat c_) >>> ((0 : Int32) &&& 31)))]) rfl ?_
    refine XS.iloadN X6.here hx rfl (D16 hby 7 rfl) rfl ?_
    refine XS.iloadN X6.here hx rfl (D16 hby 8 rfl) rfl ?_
    refine XS.isub X6.here hx rfl (D16 hby 9 rfl) rfl ?_
    refine XS.ifYes X6.here hx rfl (pc0 := 14) (pc' := 38) rfl (D16 hby 10 rfl) rfl ((if0 _ _).trans (flt hc14).2.2.2) (by decide) (by decide) ?_
    exact X6.returnOut hx Bd.returns (D16 hby 11 rfl) hr
  · show Q16 Z a1 w3 cs c_ q h0 n0 _ T6.heap _
    rw [e6]
    exact ⟨rfl, N0, Keep.refl _ _, c_, w3, Or.inl ⟨rfl, hq⟩, SB, Or.inl rfl⟩
theorem pd_16_21 : parseMethodDescriptor "(I)I" = some ⟨[.int], some .int⟩ := by decide +kernel
theorem pd_16_24 : parseMethodDescriptor "([BI)[B" = some ⟨[(.array .byte), .int], some (.array .byte)⟩ := by decide +kernel
theorem r27w (l : Launch) (Z : State) (a0 : Array Value) (hw : zH Z a0) (ws : List Jvm.Cond) (a1 : Addr) (p2 : Int32) (c_ : Nat) (kd : ClassId) (vd : List Value) (h0 : Heap) (n0 : Nat) (Z0 : n0 ≤ h0.size) (hp : p2 = Int32.ofNat (2 * c_ + 2)) (B : Arv Z h0 a1 kd .byte (Int32.ofNat c_) vd (.int 0)) (hvd : vd.length = c_) (hc : c_ ≤ 70) :
    zM l Z h0 ws y_20 jdk_65_method_121_code 3 (some (.array .byte)) (zr 1 1 142 18) #[.ref a1, .int p2] (Q27 Z (2 * c_ + 2) c_ vd h0 n0) := by
  subst hp
  exact r27 l Z a0 hw ws a1 c_ kd vd h0 n0 Z0 B hvd hc
theorem r16g (l : Launch) (Z : State) (a0 : Array Value) (hw : zH Z a0) (ws : List Jvm.Cond) (a1 : Addr) (w3 : Addr) (cs : List Int32) (c_ q : Nat) (h0 : Heap) (n0 : Nat) (Z0 : n0 ≤ h0.size) (SB : own_SBv Z h0 a1 cs c_ w3) (g_a1 : n0 ≤ a1) (hq : q ≤ 2 * c_ + 2) (hcq : c_ < q) (hc : c_ ≤ 70) :
    zM l Z h0 ws y_4 jdk_68_method_9_code 3 none (zr 3 1 142 48) #[.ref a1, (.int (Int32.ofNat q))] (Q16 Z a1 w3 cs c_ q h0 n0) := by
  refine MetFree.of_bodySF (plainFor_of_name pn_38) hisR ?_
  intro p e s m args below meth c s₁ Bd hml0 hP hK
  obtain ⟨rfl, hZ, hh⟩ := hP
  have hx := Bd.exec
  obtain ⟨E_a1, F_coder_a1, F_count_a1, F_value_a1, kd, vd, B, hvd, hcs, htk⟩ := id SB
  obtain ⟨cl_w3, Ar_w3, qb, S_w3, N_w3, Hb, Gb⟩ := id B
  have hc14 : (0 : Int32) < ((Int32.ofNat q) - ((Int32.ofNat c_) >>> ((0 : Int32) &&& 31))) := own_dlt q c_ (by omega) (by omega) hcq
  have hby := Bd.bytes
  have hml : c.maxLocals = 3 := hml0
  have hown : s.vm.findClass "java/lang/AbstractStringBuilder" = some m.cls := findClass_of_methodNamed Bd.named
  have X0 : Stand p l e (zr 3 1 142 48) s m #[.ref a1, (.int (Int32.ofNat q))] below meth c s₁ [] 0 0 := Stand.of_body Bd
  have e0 : s₁.heap = h0 := by rw [← hh, Bd.state]; rfl
  have N0 := Fr.nil n0
  have pre0 := zP p e below s₁ (ef_27 m a1 (Int32.ofNat q))
  obtain ⟨T4, X4, e4, st4⟩ := getF X0 hx hZ hown (host := "") (Or.inl (zW hw 51 rfl)) Via.refl e0 F_value_a1 (g := (mkF m 1 #[.val (.ref a1), .val (.int (Int32.ofNat q)), .unset] [.ref a1])) rfl rfl (D16 hby 1 rfl)
  obtain ⟨T6, X6, e6, st6⟩ := getF X4 hx hZ hown (host := "") (Or.inl (zW hw 53 rfl)) Via.refl e4 F_coder_a1 (g := (mkF m 6 #[.val (.ref a1), .val (.int (Int32.ofNat q)), .unset] [.ref a1, (.int (Int32.ofNat c_))])) rfl rfl (D16 hby 4 rfl)
  obtain ⟨T7, X7, e7, st7⟩ := getF X6 hx hZ hown (host := "") (Or.inl (zW hw 51 rfl)) Via.refl e6 F_value_a1 (g := (mkF m 19 #[.val (.ref a1), .val (.int (Int32.ofNat q)), .val (.int ((Int32.ofNat c_) >>> ((0 : Int32) &&& 31)))] [.ref a1, .ref a1])) rfl rfl (D16 hby 14 rfl)
  obtain ⟨cq8, q8, q8'⟩ := E_a1.cell
  obtain ⟨_, _, ⟨T8, L8, k8, n8⟩, -, X8, ⟨Lc8, hQ8, l8, y8, z8⟩, st8⟩ := X7.privateBack hx (y := y_34) hown (zT hZ hw 136 rfl) (zT hZ hw 137 rfl) (mvT hZ (own_selP (zW hw 139 rfl) (zW hw 138 rfl) (zW hw 137 rfl) (by decide))) (Cond.privateMethod_at (mvP hZ (zW hw 138 rfl) (args := #[]))) (zT hZ hw 140 rfl) (by decide) (backOf (W := 2) (r24 l Z a0 hw [] a1 w3 c_ q kd vd h0 n0 Z0 F_value_a1 F_coder_a1 B hcq hq (by omega)) hZ (zW hw 140 rfl) (zW hw 47 rfl) (by decide) (by decide)) (g := (mkF m 24 #[.val (.ref a1), .val (.int (Int32.ofNat q)), .val (.int ((Int32.ofNat c_) >>> ((0 : Int32) &&& 31)))] [(.int (Int32.ofNat q)), .ref a1, .ref w3, .ref a1])) rfl (by rw [hml]; rfl) (Steps.refl _) (a := a1) (by rw [e7]; exact q8) q8' (argsL := [(.int (Int32.ofNat q))]) (rest := [.ref w3, .ref a1]) (lenOf pd_16_21 rfl) rfl (Nat.le_of_eq rfl) (D16 hby 17 rfl) (fun _ _ => ⟨rfl, e7, (by decide : 0 + 0 ≤ _), (by decide : 0 + 0 ≤ _)⟩)
  dsimp only [Pt.U, Pt.locs, Pt.cells, Pt.slots] at X8 l8 y8 z8 st8 hQ8
  subst l8 y8 z8
  obtain ⟨rfl, N8q, e8⟩ := hQ8
  have N8 := Fr.app N0 N8q
  obtain ⟨T10, X10, e10, st10⟩ := getF X8 hx hZ hown (host := "") (Or.inl (zW hw 53 rfl)) Via.refl e8 F_coder_a1 (g := (mkF m 28 #[.val (.ref a1), .val (.int (Int32.ofNat q)), .val (.int ((Int32.ofNat c_) >>> ((0 : Int32) &&& 31)))] [.ref a1, (.int (Int32.ofNat (2 * c_ + 2))), .ref w3, .ref a1])) rfl rfl (D16 hby 19 rfl)
  obtain ⟨_, _, ⟨T11, L11, k11, n11⟩, -, X11, ⟨Lc11, hQ11, l11, y11, z11⟩, st11⟩ := Jvm.LawKit.callS X10 hx (y := y_20) hown (zT hZ hw 151 rfl) (zT hZ hw 152 rfl) (zT hZ hw 153 rfl) (zT hZ hw 154 rfl) (by decide) (backOf (W := 1) (r27w l Z a0 hw [] w3 _ c_ kd vd h0 n0 Z0 (own_l0 _) B hvd hc) hZ (zW hw 154 rfl) (zW hw 153 rfl) (by decide) (by decide)) (g := (mkF m 32 #[.val (.ref a1), .val (.int (Int32.ofNat q)), .val (.int ((Int32.ofNat c_) >>> ((0 : Int32) &&& 31)))] [(.int ((Int32.ofNat (2 * c_ + 2)) <<< ((0 : Int32) &&& 31))), .ref w3, .ref a1])) rfl (by rw [hml]; rfl) (argsL := [.ref w3, (.int ((Int32.ofNat (2 * c_ + 2)) <<< ((0 : Int32) &&& 31)))]) (rest := [.ref a1]) (lenOf pd_16_24 rfl) rfl (Nat.le_of_eq rfl) (D16 hby 21 rfl) (fun _ _ => ⟨rfl, e10, (by decide : 0 + 1 ≤ _), (by decide : 0 + 142 ≤ _)⟩)
  dsimp only [Pt.U, Pt.locs, Pt.cells, Pt.slots] at X11 l11 y11 z11 st11 hQ11
  subst l11 y11 z11
  obtain ⟨rfl, N11q, K11, k11x, vs11, V11, hv11, ht11⟩ := hQ11
  have N11 := Fr.app N8 N11q
  obtain ⟨T12, h12, X12, e12, W12, st12⟩ := putF X11 hx hZ hown (host := "") (Or.inl (zW hw 51 rfl)) Via.refl rfl (F_value_a1.keep K11 nin0) (E_a1.keep K11) (Or.inl (zW hw 52 rfl)) (zW hw 38 rfl) (ty := (.array .byte)) (by decide) rfl rfl (g := (mkF m 35 #[.val (.ref a1), .val (.int (Int32.ofNat q)), .val (.int ((Int32.ofNat c_) >>> ((0 : Int32) &&& 31)))] [.ref h0.size, .ref a1])) rfl rfl (D16 hby 22 rfl)
  have Fw12 := (F_value_a1.keep K11 nin0).same W12
  have K12 : Keep h0 h12 [a1, w3] := ((Keep.refl h0 [a1, w3]).trans K11 all0).wr W12 (Or.inl (List.mem_of_getElem? (i := 0) rfl))
  have N12 := Fr.snoc X12 N11 g_a1
  obtain ⟨fs, hr, hrun, hended, hW, hsame⟩ := X12.leave (v := none) (fun _ => rfl)
  refine ⟨_, _, pre0 _ ?_, hrun, hended, _, _, rfl, ?_, ⟨_, rfl⟩, hW, hsame.mono (by decide) (by decide)⟩
  · refine XS.aloadN X0.here hx rfl (D16 hby 0 rfl) rfl rfl ?_
    refine st4 _ ?_
    refine X4.arraylength hx (by rw [e4]; exact Ar_w3.1) (State.isArrayOf_alike hZ.alike Ar_w3.2.1) (g := (mkF m 4 #[.val (.ref a1), .val (.int (Int32.ofNat q)), .unset] [.ref w3])) rfl rfl (D16 hby 2 rfl) _ ?_
    rw [len_of S_w3 N_w3]
    refine XS.aloadN X4.here hx rfl (D16 hby 3 rfl) rfl rfl ?_
    refine st6 _ ?_
    refine XS.ishr X6.here hx rfl (D16 hby 5 rfl) rfl ?_
    refine XS.istoreN X6.here hx rfl (D16 hby 6 rfl) rfl (l' := #[.val (.ref a1), .val (.int (Int32.ofNat q)), .val (.int ((Int32.ofNat c_) >>> ((0 : Int32) &&& 31)))]) rfl ?_
    refine XS.iloadN X6.here hx rfl (D16 hby 7 rfl) rfl ?_
    refine XS.iloadN X6.here hx rfl (D16 hby 8 rfl) rfl ?_
    refine XS.isub X6.here hx rfl (D16 hby 9 rfl) rfl ?_
    refine XS.ifNo X6.here hx rfl (D16 hby 10 rfl) rfl ((if0 _ _).trans (tlt hc14).2.2.2) ?_
    refine XS.aloadN X6.here hx rfl (D16 hby 12 rfl) rfl rfl ?_
    refine XS.aloadN X6.here hx rfl (D16 hby 13 rfl) rfl rfl ?_
    refine st7 _ ?_
    refine XS.aloadN X7.here hx rfl (D16 hby 15 rfl) rfl rfl ?_
    refine XS.iloadN X7.here hx rfl (D16 hby 16 rfl) rfl ?_
    refine st8.trans ?_
    refine XS.aloadN X8.here hx rfl (D16 hby 18 rfl) rfl rfl ?_
    refine st10 _ ?_
    refine XS.ishl X10.here hx rfl (D16 hby 20 rfl) rfl ?_
    refine st11 _ ?_
    refine st12 _ ?_
    exact X12.returnOut hx Bd.returns (D16 hby 11 rfl) hr
  · show Q16 Z a1 w3 cs c_ q h0 n0 _ T12.heap _
    have hne : h0.size ≠ a1 := Nat.ne_of_gt E_a1.lt
    rw [e12]
    refine ⟨rfl, N12, K12, 2 * c_ + 2, h0.size, Or.inr ⟨rfl, hcq⟩, ⟨(E_a1.keep K11).wr W12, (F_coder_a1.keep K11 nin0).other W12 (Or.inr (slot_ne (Or.inl (zW hw 54 rfl)) (Or.inl (zW hw 52 rfl)) (by decide) (t := .byte) (t' := (.array .byte)) (by decide) (by decide))), (F_count_a1.keep K11 nin0).other W12 (Or.inr (slot_ne (Or.inl (zW hw 91 rfl)) (Or.inl (zW hw 52 rfl)) (by decide) (t := .int) (t' := (.array .byte)) (by decide) (by decide))), Fw12, k11x, vs11, V11.other W12 hne, hv11, by omega, ?_⟩, Or.inr (Nat.le_refl _)⟩
    rw [← htk, ← ht11, List.take_take, Nat.min_eq_left hcs]
theorem r16u (l : Launch) (Z : State) (a0 : Array Value) (hw : zH Z a0) (ws : List Jvm.Cond) (a1 : Addr) (p2 : Int32) (w3 : Addr) (cs : List Int32) (c_ q : Nat) (h0 : Heap) (n0 : Nat) (Z0 : n0 ≤ h0.size) (hp : p2 = Int32.ofNat q) (SB : own_SBv Z h0 a1 cs c_ w3) (g_a1 : n0 ≤ a1) (hq : q ≤ 2 * c_ + 2) (hc : c_ ≤ 70 ∨ q ≤ c_) (hc9 : c_ < 1000) :
    zM l Z h0 ws y_4 jdk_68_method_9_code 3 none (zr 3 1 142 48) #[.ref a1, .int p2] (Q16 Z a1 w3 cs c_ q h0 n0) := by
  by_cases h : q ≤ c_
  · exact r16b l Z a0 hw ws a1 p2 w3 cs c_ q h0 n0 Z0 hp SB g_a1 h hc9
  · subst hp
    exact r16g l Z a0 hw ws a1 w3 cs c_ q h0 n0 Z0 SB g_a1 hq (by omega) (by omega)
def l13 : List (Nat × Instr × Nat) := [(0, .aload_n 1, 1), (1, .ifnonnull 8, 3), (9, .aload_n 1, 1), (10, .invokevirtual 32, 3), (13, .istore_n 2, 1), (14, .aload_n 0, 1), (15, .aload_n 0, 1), (16, .getfield 79, 3), (19, .iload_n 2, 1), (20, .iadd, 1), (21, .invokevirtual 100, 3), (24, .aload_n 0, 1), (25, .aload_n 0, 1), (26, .getfield 79, 3), (29, .aload_n 1, 1), (30, .invokevirtual 208, 3), (33, .aload_n 0, 1), (34, .dup, 1), (35, .getfield 79, 3), (38, .iload_n 2, 1), (39, .iadd, 1), (40, .putfield 79, 3), (43, .aload_n 0, 1), (44, .areturn, 1)]
theorem D13 {c : Code} (h : c.code = jdk_68_method_22_code) : zQ c l13 := zD h (by decide +kernel)
theorem pd_13_13 : parseMethodDescriptor "(ILjava/lang/String;)V" = some ⟨[.int, (.object "java/lang/String")], none⟩ := by decide +kernel
theorem ef_13 (m : MethodId) (x0 : Addr) (x1 : Addr) : entryFrame m #[.ref x0, .ref x1] 3 = mkF m 0 #[.val (.ref x0), .val (.ref x1), .unset] [] := by first | (simp [entryFrame, mkF, argsToLocals, Value.category]; done) | rfl
theorem r13a (l : Launch) (Z : State) (a0 : Array Value) (hw : zH Z a0) (ws : List Jvm.Cond) (a1 : Addr) (a2 : Addr) (t0 : Addr) (cs xs : List Int32) (c_ : Nat) (h0 : Heap) (n0 : Nat) (Z0 : n0 ≤ h0.size) (SB : own_SBv Z h0 a1 cs c_ t0) (S : own_Str Z h0 a2 xs) (g_a1 : n0 ≤ a1) (g_t0 : n0 ≤ t0) (CS : own_CS Z Z.heap) (O : Old Z n0 h0) (hne : ∀ t, Fld Z h0 a2 "java/lang/String" "value" "[B" (.ref t) → t ≠ t0) (hq : (cs.length + xs.length) ≤ c_) (hc : c_ < 1000) :
    zM l Z h0 ws y_11 jdk_68_method_22_code 3 (some (.object "java/lang/AbstractStringBuilder")) (zr 3 0 0 47) #[.ref a1, .ref a2] (Q13 Z a1 t0 (cs ++ xs) c_ (cs.length + xs.length) h0 n0) := by
  refine MetFree.of_bodySF (plainFor_of_name pn_38) hisR ?_
  intro p e s m args below meth c s₁ Bd hml0 hP hK
  obtain ⟨rfl, hZ, hh⟩ := hP
  have hx := Bd.exec
  obtain ⟨E_a1, F_coder_a1, F_count_a1, F_value_a1, kd, vd, B, hvd, hcs, htk⟩ := id SB
  have E_a2 := S.1
  have CS0 := CS.ext O.2
  have hby := Bd.bytes
  have hml : c.maxLocals = 3 := hml0
  have hown : s.vm.findClass "java/lang/AbstractStringBuilder" = some m.cls := findClass_of_methodNamed Bd.named
  have X0 : Stand p l e (zr 3 0 0 47) s m #[.ref a1, .ref a2] below meth c s₁ [] 0 0 := Stand.of_body Bd
  have e0 : s₁.heap = h0 := by rw [← hh, Bd.state]; rfl
  have N0 := Fr.nil n0
  have pre0 := zP p e below s₁ (ef_13 m a1 a2)
  obtain ⟨cq3, kq3, q3a, q3b, q3c⟩ := isOf hZ e0 E_a2
  obtain ⟨_, _, ⟨T3, L3, k3, n3⟩, -, X3, ⟨Lc3, hQ3, l3, y3, z3⟩, st3⟩ := X0.virtualBack hx (y := y_7) hown (zT hZ hw 80 rfl) (zT hZ hw 81 rfl) (notFace_of_selects (args := #[]) (zT hZ hw 83 rfl)) (zT hZ hw 83 rfl) (zT hZ hw 82 rfl) (by decide) (backOf (W := 0) (r14n l Z a0 hw [] a2 xs h0 n0 Z0 S CS0) hZ (zW hw 84 rfl) (zW hw 2 rfl) (by decide) (by decide)) q3a q3c (g := (mkF m 10 #[.val (.ref a1), .val (.ref a2), .unset] [.ref a2])) rfl (by rw [hml]; rfl) (Steps.refl _) (argsL := []) (rest := []) (lenOf pd_39_11 rfl) rfl (Nat.le_of_eq rfl) (D13 hby 3 rfl) (fun _ _ => ⟨rfl, e0, (by decide : 0 + 0 ≤ _), (by decide : 0 + 0 ≤ _)⟩)
  dsimp only [Pt.U, Pt.locs, Pt.cells, Pt.slots] at X3 l3 y3 z3 st3 hQ3
  subst l3 y3 z3
  obtain ⟨rfl, N3q, e3⟩ := hQ3
  have N3 := Fr.app N0 N3q
  obtain ⟨T5, X5, e5, st5⟩ := getF X3 hx hZ hown (host := "") (Or.inl (zW hw 90 rfl)) Via.refl e3 F_count_a1 (g := (mkF m 16 #[.val (.ref a1), .val (.ref a2), .val (.int (Int32.ofNat xs.length))] [.ref a1, .ref a1])) rfl rfl (D13 hby 7 rfl)
  obtain ⟨cq6, q6, q6'⟩ := E_a1.cell
  obtain ⟨_, _, ⟨T6, L6, k6, n6⟩, -, X6, ⟨Lc6, hQ6, l6, y6, z6⟩, st6⟩ := X5.privateBack hx (y := y_4) hown (zT hZ hw 92 rfl) (zT hZ hw 93 rfl) (mvT hZ (own_selP (zW hw 95 rfl) (zW hw 94 rfl) (zW hw 93 rfl) (by decide))) (Cond.privateMethod_at (mvP hZ (zW hw 94 rfl) (args := #[]))) (zT hZ hw 96 rfl) (by decide) (backOf (W := 0) (r16a l Z a0 hw [] a1 ((Int32.ofNat cs.length) + (Int32.ofNat xs.length)) t0 cs c_ (cs.length + xs.length) h0 n0 Z0 (Int32.ofNat_add _ _).symm SB g_a1 hq hc) hZ (zW hw 96 rfl) (zW hw 47 rfl) (by decide) (by decide)) (g := (mkF m 21 #[.val (.ref a1), .val (.ref a2), .val (.int (Int32.ofNat xs.length))] [(.int ((Int32.ofNat cs.length) + (Int32.ofNat xs.length))), .ref a1])) rfl (by rw [hml]; rfl) (Steps.refl _) (a := a1) (by rw [e5]; exact q6) q6' (argsL := [(.int ((Int32.ofNat cs.length) + (Int32.ofNat xs.length)))]) (rest := []) (lenOf pd_8_6 rfl) rfl (Nat.le_of_eq rfl) (D13 hby 10 rfl) (fun _ _ => ⟨rfl, e5, (by decide : 0 + 0 ≤ _), (by decide : 0 + 0 ≤ _)⟩)
  dsimp only [Pt.U, Pt.locs, Pt.cells, Pt.slots] at X6 l6 y6 z6 st6 hQ6
  subst l6 y6 z6
  obtain ⟨rfl, N6q, K6, c6, t6, hP6, SB6, ht6⟩ := hQ6
  have hc6 : (cs.length + xs.length) ≤ c6 ∧ c6 < 1000 := by unfold own_P at hP6; omega
  obtain ⟨E6, Fc6, F6n, Fv6, kd6, vd6, B6, hvd6, hcs6, htk6⟩ := id SB6
  have S6 := S.keep2 K6 SB (zW hw 38 rfl) (zW hw 1 rfl) hne
  have O6 := O.keep K6 (allS g_a1 (allS g_t0 all0))
  have Z6 := Nat.le_trans Z0 K6.1
  have g_t6 := own_t_ge Z0 g_t0 ht6
  have N6 := Fr.app N3 N6q
  obtain ⟨T8, X8, e8, st8⟩ := getF X6 hx hZ hown (host := "") (Or.inl (zW hw 90 rfl)) Via.refl rfl F6n (g := (mkF m 26 #[.val (.ref a1), .val (.ref a2), .val (.int (Int32.ofNat xs.length))] [.ref a1, .ref a1])) rfl rfl (D13 hby 13 rfl)
  obtain ⟨cq9, q9, q9'⟩ := E6.cell
  obtain ⟨_, _, ⟨T9, L9, k9, n9⟩, -, X9, ⟨Lc9, hQ9, l9, y9, z9⟩, st9⟩ := X8.privateBack hx (y := y_24) hown (zT hZ hw 97 rfl) (zT hZ hw 98 rfl) (mvT hZ (own_selP (zW hw 100 rfl) (zW hw 99 rfl) (zW hw 98 rfl) (by decide))) (Cond.privateMethod_at (mvP hZ (zW hw 99 rfl) (args := #[]))) (zT hZ hw 101 rfl) (by decide) (backOf (W := 0) (r17 l Z a0 hw [] a1 a2 t6 xs cs.length c6 kd6 vd6 T6.heap n0 Z6 E6 Fv6 Fc6 S6 (CS.ext O6.2) B6 hvd6 g_t6 hc6.1 hc6.2) hZ (zW hw 101 rfl) (zW hw 47 rfl) (by decide) (by decide)) (g := (mkF m 30 #[.val (.ref a1), .val (.ref a2), .val (.int (Int32.ofNat xs.length))] [.ref a2, (.int (Int32.ofNat cs.length)), .ref a1])) rfl (by rw [hml]; rfl) (Steps.refl _) (a := a1) (by rw [e8]; exact q9) q9' (argsL := [(.int (Int32.ofNat cs.length)), .ref a2]) (rest := []) (lenOf pd_13_13 rfl) rfl (Nat.le_of_eq rfl) (D13 hby 15 rfl) (fun _ _ => ⟨rfl, e8, (by decide : 0 + 0 ≤ _), (by decide : 0 + 0 ≤ _)⟩)
  dsimp only [Pt.U, Pt.locs, Pt.cells, Pt.slots] at X9 l9 y9 z9 st9 hQ9
  subst l9 y9 z9
  obtain ⟨rfl, N9q, K9, V9⟩ := hQ9
  have hn2 : a1 ≠ t6 := Exa.neArv E6 B6 (zW hw 38 rfl)
  have F9n := F6n.keep K9 (ninS hn2 nin0)
  have E9 := E6.keep K9
  have N9 := Fr.app N6 N9q
  obtain ⟨T11, X11, e11, st11⟩ := getF X9 hx hZ hown (host := "") (Or.inl (zW hw 90 rfl)) Via.refl rfl F9n (g := (mkF m 35 #[.val (.ref a1), .val (.ref a2), .val (.int (Int32.ofNat xs.length))] [.ref a1, .ref a1])) rfl rfl (D13 hby 18 rfl)
  obtain ⟨T12, h12, X12, e12, W12, st12⟩ := putF X11 hx hZ hown (host := "") (Or.inl (zW hw 90 rfl)) Via.refl e11 F9n E9 (Or.inl (zW hw 91 rfl)) (zW hw 38 rfl) (ty := .int) (by decide) rfl rfl (g := (mkF m 40 #[.val (.ref a1), .val (.ref a2), .val (.int (Int32.ofNat xs.length))] [(.int ((Int32.ofNat cs.length) + (Int32.ofNat xs.length))), .ref a1])) rfl rfl (D13 hby 21 rfl)
  have Fw12 := F9n.same W12
  have K12 : Keep h0 h12 [a1, t0] := (K6.trans K9 (allS (own_t_in ht6) all0)).wr W12 (Or.inl (List.mem_of_getElem? (i := 0) rfl))
  have N12 := Fr.snoc X12 N9 g_a1
  obtain ⟨fs, hr, hrun, hended, hW, hsame⟩ := X12.leave (v := some (.ref a1)) (fun h => by rw [Bd.returns] at h; cases h)
  refine ⟨_, _, pre0 _ ?_, hrun, hended, _, _, rfl, ?_, ⟨_, rfl⟩, hW, hsame.mono (by decide) (by decide)⟩
  · refine XS.aloadN X0.here hx rfl (D13 hby 0 rfl) rfl rfl ?_
    refine XS.ifnonnullYes X0.here hx rfl (pc0 := 1) (pc' := 9) rfl (D13 hby 1 rfl) rfl (by decide) (by decide) ?_
    refine XS.aloadN X0.here hx rfl (D13 hby 2 rfl) rfl rfl ?_
    refine st3.trans ?_
    refine XS.istoreN X3.here hx rfl (D13 hby 4 rfl) rfl (l' := #[.val (.ref a1), .val (.ref a2), .val (.int (Int32.ofNat xs.length))]) rfl ?_
    refine XS.aloadN X3.here hx rfl (D13 hby 5 rfl) rfl rfl ?_
    refine XS.aloadN X3.here hx rfl (D13 hby 6 rfl) rfl rfl ?_
    refine st5 _ ?_
    refine XS.iloadN X5.here hx rfl (D13 hby 8 rfl) rfl ?_
    refine XS.iadd X5.here hx rfl (D13 hby 9 rfl) rfl ?_
    refine st6.trans ?_
    refine XS.aloadN X6.here hx rfl (D13 hby 11 rfl) rfl rfl ?_
    refine XS.aloadN X6.here hx rfl (D13 hby 12 rfl) rfl rfl ?_
    refine st8 _ ?_
    refine XS.aloadN X8.here hx rfl (D13 hby 14 rfl) rfl rfl ?_
    refine st9.trans ?_
    refine XS.aloadN X9.here hx rfl (D13 hby 16 rfl) rfl rfl ?_
    refine XS.dup X9.here hx rfl (D13 hby 17 rfl) rfl rfl ?_
    refine st11 _ ?_
    refine XS.iloadN X11.here hx rfl (D13 hby 19 rfl) rfl ?_
    refine XS.iadd X11.here hx rfl (D13 hby 20 rfl) rfl ?_
    refine st12 _ ?_
    refine XS.aloadN X12.here hx rfl (D13 hby 22 rfl) rfl rfl ?_
    jvm_step X12.here [X12.here.top, hx, (D13 hby 23 rfl), X12.method', Bd.returns, Value.isRef, FieldType.isReference]
    first | (intro acts; rw [hr _ acts rfl rfl rfl]) | rw [hr _ _ rfl rfl rfl]
    exact Steps.refl _
  · show Q13 Z a1 t0 (cs ++ xs) c_ (cs.length + xs.length) h0 n0 _ T12.heap _
    rw [e12]
    obtain ⟨hl9, ht9⟩ := own_takesplice vd6 (own_by cs) (own_by xs) cs.length xs.length c6 hvd6 htk6 (own_by_len cs) (own_by_len xs) hc6.1
    refine ⟨rfl, N12, K12, c6, t6, hP6, ⟨E9.wr W12, (Fc6.keep K9 (ninS hn2 nin0)).other W12 (Or.inr (slot_ne (Or.inl (zW hw 54 rfl)) (Or.inl (zW hw 91 rfl)) (by decide) (t := .byte) (t' := .int) (by decide) (by decide))), ?_, (Fv6.keep K9 (ninS hn2 nin0)).other W12 (Or.inr (slot_ne (Or.inl (zW hw 52 rfl)) (Or.inl (zW hw 91 rfl)) (by decide) (t := (.array .byte)) (t' := .int) (by decide) (by decide))), kd6, _, V9.other W12 hn2.symm, hl9, ?_, ?_⟩, ht6⟩
    · rw [List.length_append, Int32.ofNat_add]; exact Fw12
    · rw [List.length_append]; exact hc6.1
    · rw [List.length_append, ht9, own_by_app]
theorem r13u (l : Launch) (Z : State) (a0 : Array Value) (hw : zH Z a0) (ws : List Jvm.Cond) (a1 : Addr) (a2 : Addr) (t0 : Addr) (cs xs : List Int32) (c_ : Nat) (h0 : Heap) (n0 : Nat) (Z0 : n0 ≤ h0.size) (SB : own_SBv Z h0 a1 cs c_ t0) (S : own_Str Z h0 a2 xs) (g_a1 : n0 ≤ a1) (g_t0 : n0 ≤ t0) (CS : own_CS Z Z.heap) (O : Old Z n0 h0) (hne : ∀ t, Fld Z h0 a2 "java/lang/String" "value" "[B" (.ref t) → t ≠ t0) (hq : (cs.length + xs.length) ≤ 2 * c_ + 2) (hc : c_ ≤ 70 ∨ (cs.length + xs.length) ≤ c_) (hc9 : c_ < 1000) :
    zM l Z h0 ws y_11 jdk_68_method_22_code 3 (some (.object "java/lang/AbstractStringBuilder")) (zr 4 1 142 62) #[.ref a1, .ref a2] (Q13 Z a1 t0 (cs ++ xs) c_ (cs.length + xs.length) h0 n0) := by
  refine MetFree.of_bodySF (plainFor_of_name pn_38) hisR ?_
  intro p e s m args below meth c s₁ Bd hml0 hP hK
  obtain ⟨rfl, hZ, hh⟩ := hP
  have hx := Bd.exec
  obtain ⟨E_a1, F_coder_a1, F_count_a1, F_value_a1, kd, vd, B, hvd, hcs, htk⟩ := id SB
  have E_a2 := S.1
  have CS0 := CS.ext O.2
  have hby := Bd.bytes
  have hml : c.maxLocals = 3 := hml0
  have hown : s.vm.findClass "java/lang/AbstractStringBuilder" = some m.cls := findClass_of_methodNamed Bd.named
  have X0 : Stand p l e (zr 4 1 142 62) s m #[.ref a1, .ref a2] below meth c s₁ [] 0 0 := Stand.of_body Bd
  have e0 : s₁.heap = h0 := by rw [← hh, Bd.state]; rfl
  have N0 := Fr.nil n0
  have pre0 := zP p e below s₁ (ef_13 m a1 a2)
  obtain ⟨cq3, kq3, q3a, q3b, q3c⟩ := isOf hZ e0 E_a2
  obtain ⟨_, _, ⟨T3, L3, k3, n3⟩, -, X3, ⟨Lc3, hQ3, l3, y3, z3⟩, st3⟩ := X0.virtualBack hx (y := y_7) hown (zT hZ hw 80 rfl) (zT hZ hw 81 rfl) (notFace_of_selects (args := #[]) (zT hZ hw 83 rfl)) (zT hZ hw 83 rfl) (zT hZ hw 82 rfl) (by decide) (backOf (W := 0) (r14n l Z a0 hw [] a2 xs h0 n0 Z0 S CS0) hZ (zW hw 84 rfl) (zW hw 2 rfl) (by decide) (by decide)) q3a q3c (g := (mkF m 10 #[.val (.ref a1), .val (.ref a2), .unset] [.ref a2])) rfl (by rw [hml]; rfl) (Steps.refl _) (argsL := []) (rest := []) (lenOf pd_39_11 rfl) rfl (Nat.le_of_eq rfl) (D13 hby 3 rfl) (fun _ _ => ⟨rfl, e0, (by decide : 0 + 0 ≤ _), (by decide : 0 + 0 ≤ _)⟩)
  dsimp only [Pt.U, Pt.locs, Pt.cells, Pt.slots] at X3 l3 y3 z3 st3 hQ3
  subst l3 y3 z3
  obtain ⟨rfl, N3q, e3⟩ := hQ3
  have N3 := Fr.app N0 N3q
  obtain ⟨T5, X5, e5, st5⟩ := getF X3 hx hZ hown (host := "") (Or.inl (zW hw 90 rfl)) Via.refl e3 F_count_a1 (g := (mkF m 16 #[.val (.ref a1), .val (.ref a2), .val (.int (Int32.ofNat xs.length))] [.ref a1, .ref a1])) rfl rfl (D13 hby 7 rfl)
  obtain ⟨cq6, q6, q6'⟩ := E_a1.cell
  obtain ⟨_, _, ⟨T6, L6, k6, n6⟩, -, X6, ⟨Lc6, hQ6, l6, y6, z6⟩, st6⟩ := X5.privateBack hx (y := y_4) hown (zT hZ hw 92 rfl) (zT hZ hw 93 rfl) (mvT hZ (own_selP (zW hw 95 rfl) (zW hw 94 rfl) (zW hw 93 rfl) (by decide))) (Cond.privateMethod_at (mvP hZ (zW hw 94 rfl) (args := #[]))) (zT hZ hw 96 rfl) (by decide) (backOf (W := 0) (r16u l Z a0 hw [] a1 ((Int32.ofNat cs.length) + (Int32.ofNat xs.length)) t0 cs c_ (cs.length + xs.length) h0 n0 Z0 (Int32.ofNat_add _ _).symm SB g_a1 hq hc hc9) hZ (zW hw 96 rfl) (zW hw 47 rfl) (by decide) (by decide)) (g := (mkF m 21 #[.val (.ref a1), .val (.ref a2), .val (.int (Int32.ofNat xs.length))] [(.int ((Int32.ofNat cs.length) + (Int32.ofNat xs.length))), .ref a1])) rfl (by rw [hml]; rfl) (Steps.refl _) (a := a1) (by rw [e5]; exact q6) q6' (argsL := [(.int ((Int32.ofNat cs.length) + (Int32.ofNat xs.length)))]) (rest := []) (lenOf pd_8_6 rfl) rfl (Nat.le_of_eq rfl) (D13 hby 10 rfl) (fun _ _ => ⟨rfl, e5, (by decide : 0 + 1 ≤ _), (by decide : 0 + 142 ≤ _)⟩)
  dsimp only [Pt.U, Pt.locs, Pt.cells, Pt.slots] at X6 l6 y6 z6 st6 hQ6
  subst l6 y6 z6
  obtain ⟨rfl, N6q, K6, c6, t6, hP6, SB6, ht6⟩ := hQ6
  have hc6 : (cs.length + xs.length) ≤ c6 ∧ c6 < 1000 := by unfold own_P at hP6; omega
  obtain ⟨E6, Fc6, F6n, Fv6, kd6, vd6, B6, hvd6, hcs6, htk6⟩ := id SB6
  have S6 := S.keep2 K6 SB (zW hw 38 rfl) (zW hw 1 rfl) hne
  have O6 := O.keep K6 (allS g_a1 (allS g_t0 all0))
  have Z6 := Nat.le_trans Z0 K6.1
  have g_t6 := own_t_ge Z0 g_t0 ht6
  have N6 := Fr.app N3 N6q
  obtain ⟨T8, X8, e8, st8⟩ := getF X6 hx hZ hown (host := "") (Or.inl (zW hw 90 rfl)) Via.refl rfl F6n (g := (mkF m 26 #[.val (.ref a1), .val (.ref a2), .val (.int (Int32.ofNat xs.length))] [.ref a1, .ref a1])) rfl rfl (D13 hby 13 rfl)
  obtain ⟨cq9, q9, q9'⟩ := E6.cell
  obtain ⟨_, _, ⟨T9, L9, k9, n9⟩, -, X9, ⟨Lc9, hQ9, l9, y9, z9⟩, st9⟩ := X8.privateBack hx (y := y_24) hown (zT hZ hw 97 rfl) (zT hZ hw 98 rfl) (mvT hZ (own_selP (zW hw 100 rfl) (zW hw 99 rfl) (zW hw 98 rfl) (by decide))) (Cond.privateMethod_at (mvP hZ (zW hw 99 rfl) (args := #[]))) (zT hZ hw 101 rfl) (by decide) (backOf (W := 0) (r17 l Z a0 hw [] a1 a2 t6 xs cs.length c6 kd6 vd6 T6.heap n0 Z6 E6 Fv6 Fc6 S6 (CS.ext O6.2) B6 hvd6 g_t6 hc6.1 hc6.2) hZ (zW hw 101 rfl) (zW hw 47 rfl) (by decide) (by decide)) (g := (mkF m 30 #[.val (.ref a1), .val (.ref a2), .val (.int (Int32.ofNat xs.length))] [.ref a2, (.int (Int32.ofNat cs.length)), .ref a1])) rfl (by rw [hml]; rfl) (Steps.refl _) (a := a1) (by rw [e8]; exact q9) q9' (argsL := [(.int (Int32.ofNat cs.length)), .ref a2]) (rest := []) (lenOf pd_13_13 rfl) rfl (Nat.le_of_eq rfl) (D13 hby 15 rfl) (fun _ _ => ⟨rfl, e8, (by decide : 1 + 0 ≤ _), (by decide : 142 + 0 ≤ _)⟩)
  dsimp only [Pt.U, Pt.locs, Pt.cells, Pt.slots] at X9 l9 y9 z9 st9 hQ9
  subst l9 y9 z9
  obtain ⟨rfl, N9q, K9, V9⟩ := hQ9
  have hn2 : a1 ≠ t6 := Exa.neArv E6 B6 (zW hw 38 rfl)
  have F9n := F6n.keep K9 (ninS hn2 nin0)
  have E9 := E6.keep K9
  have N9 := Fr.app N6 N9q
  obtain ⟨T11, X11, e11, st11⟩ := getF X9 hx hZ hown (host := "") (Or.inl (zW hw 90 rfl)) Via.refl rfl F9n (g := (mkF m 35 #[.val (.ref a1), .val (.ref a2), .val (.int (Int32.ofNat xs.length))] [.ref a1, .ref a1])) rfl rfl (D13 hby 18 rfl)
  obtain ⟨T12, h12, X12, e12, W12, st12⟩ := putF X11 hx hZ hown (host := "") (Or.inl (zW hw 90 rfl)) Via.refl e11 F9n E9 (Or.inl (zW hw 91 rfl)) (zW hw 38 rfl) (ty := .int) (by decide) rfl rfl (g := (mkF m 40 #[.val (.ref a1), .val (.ref a2), .val (.int (Int32.ofNat xs.length))] [(.int ((Int32.ofNat cs.length) + (Int32.ofNat xs.length))), .ref a1])) rfl rfl (D13 hby 21 rfl)
  have Fw12 := F9n.same W12
  have K12 : Keep h0 h12 [a1, t0] := (K6.trans K9 (allS (own_t_in ht6) all0)).wr W12 (Or.inl (List.mem_of_getElem? (i := 0) rfl))
  have N12 := Fr.snoc X12 N9 g_a1
  obtain ⟨fs, hr, hrun, hended, hW, hsame⟩ := X12.leave (v := some (.ref a1)) (fun h => by rw [Bd.returns] at h; cases h)
  refine ⟨_, _, pre0 _ ?_, hrun, hended, _, _, rfl, ?_, ⟨_, rfl⟩, hW, hsame.mono (by decide) (by decide)⟩
  · refine XS.aloadN X0.here hx rfl (D13 hby 0 rfl) rfl rfl ?_
    refine XS.ifnonnullYes X0.here hx rfl (pc0 := 1) (pc' := 9) rfl (D13 hby 1 rfl) rfl (by decide) (by decide) ?_
    refine XS.aloadN X0.here hx rfl (D13 hby 2 rfl) rfl rfl ?_
    refine st3.trans ?_
    refine XS.istoreN X3.here hx rfl (D13 hby 4 rfl) rfl (l' := #[.val (.ref a1), .val (.ref a2), .val (.int (Int32.ofNat xs.length))]) rfl ?_
    refine XS.aloadN X3.here hx rfl (D13 hby 5 rfl) rfl rfl ?_
    refine XS.aloadN X3.here hx rfl (D13 hby 6 rfl) rfl rfl ?_
    refine st5 _ ?_
    refine XS.iloadN X5.here hx rfl (D13 hby 8 rfl) rfl ?_
    refine XS.iadd X5.here hx rfl (D13 hby 9 rfl) rfl ?_
    refine st6.trans ?_
    refine XS.aloadN X6.here hx rfl (D13 hby 11 rfl) rfl rfl ?_
    refine XS.aloadN X6.here hx rfl (D13 hby 12 rfl) rfl rfl ?_
    refine st8 _ ?_
    refine XS.aloadN X8.here hx rfl (D13 hby 14 rfl) rfl rfl ?_
    refine st9.trans ?_
    refine XS.aloadN X9.here hx rfl (D13 hby 16 rfl) rfl rfl ?_
    refine XS.dup X9.here hx rfl (D13 hby 17 rfl) rfl rfl ?_
    refine st11 _ ?_
    refine XS.iloadN X11.here hx rfl (D13 hby 19 rfl) rfl ?_
    refine XS.iadd X11.here hx rfl (D13 hby 20 rfl) rfl ?_
    refine st12 _ ?_
    refine XS.aloadN X12.here hx rfl (D13 hby 22 rfl) rfl rfl ?_
    jvm_step X12.here [X12.here.top, hx, (D13 hby 23 rfl), X12.method', Bd.returns, Value.isRef, FieldType.isReference]
    first | (intro acts; rw [hr _ acts rfl rfl rfl]) | rw [hr _ _ rfl rfl rfl]
    exact Steps.refl _
  · show Q13 Z a1 t0 (cs ++ xs) c_ (cs.length + xs.length) h0 n0 _ T12.heap _
    rw [e12]
    obtain ⟨hl9, ht9⟩ := own_takesplice vd6 (own_by cs) (own_by xs) cs.length xs.length c6 hvd6 htk6 (own_by_len cs) (own_by_len xs) hc6.1
    refine ⟨rfl, N12, K12, c6, t6, hP6, ⟨E9.wr W12, (Fc6.keep K9 (ninS hn2 nin0)).other W12 (Or.inr (slot_ne (Or.inl (zW hw 54 rfl)) (Or.inl (zW hw 91 rfl)) (by decide) (t := .byte) (t' := .int) (by decide) (by decide))), ?_, (Fv6.keep K9 (ninS hn2 nin0)).other W12 (Or.inr (slot_ne (Or.inl (zW hw 52 rfl)) (Or.inl (zW hw 91 rfl)) (by decide) (t := (.array .byte)) (t' := .int) (by decide) (by decide))), kd6, _, V9.other W12 hn2.symm, hl9, ?_, ?_⟩, ht6⟩
    · rw [List.length_append, Int32.ofNat_add]; exact Fw12
    · rw [List.length_append]; exact hc6.1
    · rw [List.length_append, ht9, own_by_app]
def l12 : List (Nat × Instr × Nat) := [(0, .aload_n 0, 1), (1, .aload_n 1, 1), (2, .invokespecial 29, 3), (5, .pop, 1), (6, .aload_n 0, 1), (7, .areturn, 1)]
theorem D12 {c : Code} (h : c.code = jdk_67_method_7_code) : zQ c l12 := zD h (by decide +kernel)
theorem pd_12_10 : parseMethodDescriptor "(Ljava/lang/String;)Ljava/lang/AbstractStringBuilder;" = some ⟨[(.object "java/lang/String")], some (.object "java/lang/AbstractStringBuilder")⟩ := by decide +kernel
theorem r12a (l : Launch) (Z : State) (a0 : Array Value) (hw : zH Z a0) (ws : List Jvm.Cond) (a1 : Addr) (a2 : Addr) (t0 : Addr) (cs xs : List Int32) (c_ : Nat) (h0 : Heap) (n0 : Nat) (Z0 : n0 ≤ h0.size) (SB : own_SBv Z h0 a1 cs c_ t0) (S : own_Str Z h0 a2 xs) (g_a1 : n0 ≤ a1) (g_t0 : n0 ≤ t0) (CS : own_CS Z Z.heap) (O : Old Z n0 h0) (hne : ∀ t, Fld Z h0 a2 "java/lang/String" "value" "[B" (.ref t) → t ≠ t0) (hq : (cs.length + xs.length) ≤ c_) (hc : c_ < 1000) :
    zM l Z h0 ws y_0 jdk_67_method_7_code 2 (some (.object "java/lang/StringBuilder")) (zr 4 0 0 61) #[.ref a1, .ref a2] (Q13 Z a1 t0 (cs ++ xs) c_ (cs.length + xs.length) h0 n0) := by
  refine MetFree.of_bodySF (plainFor_of_name pn_39) hisR ?_
  intro p e s m args below meth c s₁ Bd hml0 hP hK
  obtain ⟨rfl, hZ, hh⟩ := hP
  have hx := Bd.exec
  have E_a1 := SB.1
  have hby := Bd.bytes
  have hml : c.maxLocals = 2 := hml0
  have hown : s.vm.findClass "java/lang/StringBuilder" = some m.cls := findClass_of_methodNamed Bd.named
  have X0 : Stand p l e (zr 4 0 0 61) s m #[.ref a1, .ref a2] below meth c s₁ [] 0 0 := Stand.of_body Bd
  have e0 : s₁.heap = h0 := by rw [← hh, Bd.state]; rfl
  have N0 := Fr.nil n0
  have pre0 := zP p e below s₁ (ef_18 m a1 a2)
  obtain ⟨_, _, ⟨T3, L3, k3, n3⟩, -, X3, ⟨Lc3, hQ3, l3, y3, z3⟩, st3⟩ := superBack X0 hx hZ (y := y_11) hown (zW hw 75 rfl) (own_same (y := y_11) (own_nf (notFace_of_selects (zW hw 95 rfl)) (zW hw 93 rfl) rfl) (zW hw 76 rfl) (by decide)) (zW hw 76 rfl) (zW hw 77 rfl) (by decide) (backOf (W := 0) (r13a l Z a0 hw [] a1 a2 t0 cs xs c_ h0 n0 Z0 SB S g_a1 g_t0 CS O hne hq hc) hZ (zW hw 79 rfl) (zW hw 47 rfl) (by decide) (by decide)) e0 (Ins.self E_a1) (g := (mkF m 2 #[.val (.ref a1), .val (.ref a2)] [.ref a2, .ref a1])) rfl (by rw [hml]; rfl) (zW hw 79 rfl) (argsL := [.ref a2]) (rest := []) (lenOf pd_12_10 rfl) rfl (Nat.le_of_eq rfl) (D12 hby 2 rfl) (fun _ _ => ⟨rfl, e0, (by decide : 0 + 0 ≤ _), (by decide : 0 + 0 ≤ _)⟩)
  dsimp only [Pt.U, Pt.locs, Pt.cells, Pt.slots] at X3 l3 y3 z3 st3 hQ3
  subst l3 y3 z3
  obtain ⟨rfl, N3q, Qq⟩ := hQ3
  have N3 := Fr.app N0 N3q
  obtain ⟨fs, hr, hrun, hended, hW, hsame⟩ := X3.leave (v := some (.ref a1)) (fun h => by rw [Bd.returns] at h; cases h)
  refine ⟨_, _, pre0 _ ?_, hrun, hended, _, _, rfl, ?_, ⟨_, rfl⟩, hW, hsame.mono (by decide) (by decide)⟩
  · refine XS.aloadN X0.here hx rfl (D12 hby 0 rfl) rfl rfl ?_
    refine XS.aloadN X0.here hx rfl (D12 hby 1 rfl) rfl rfl ?_
    refine st3.trans ?_
    refine XS.pop X3.here hx rfl (D12 hby 3 rfl) rfl rfl ?_
    refine XS.aloadN X3.here hx rfl (D12 hby 4 rfl) rfl rfl ?_
    jvm_step X3.here [X3.here.top, hx, (D12 hby 5 rfl), X3.method', Bd.returns, Value.isRef, FieldType.isReference]
    first | (intro acts; rw [hr _ acts rfl rfl rfl]) | rw [hr _ _ rfl rfl rfl]
    exact Steps.refl _
  · show Q13 Z a1 t0 (cs ++ xs) c_ (cs.length + xs.length) h0 n0 _ T3.heap _
    exact ⟨rfl, N3, Qq⟩
theorem r12u (l : Launch) (Z : State) (a0 : Array Value) (hw : zH Z a0) (ws : List Jvm.Cond) (a1 : Addr) (a2 : Addr) (t0 : Addr) (cs xs : List Int32) (c_ : Nat) (h0 : Heap) (n0 : Nat) (Z0 : n0 ≤ h0.size) (SB : own_SBv Z h0 a1 cs c_ t0) (S : own_Str Z h0 a2 xs) (g_a1 : n0 ≤ a1) (g_t0 : n0 ≤ t0) (CS : own_CS Z Z.heap) (O : Old Z n0 h0) (hne : ∀ t, Fld Z h0 a2 "java/lang/String" "value" "[B" (.ref t) → t ≠ t0) (hq : (cs.length + xs.length) ≤ 2 * c_ + 2) (hc : c_ ≤ 70 ∨ (cs.length + xs.length) ≤ c_) (hc9 : c_ < 1000) :
    zM l Z h0 ws y_0 jdk_67_method_7_code 2 (some (.object "java/lang/StringBuilder")) (zr 5 1 142 76) #[.ref a1, .ref a2] (Q13 Z a1 t0 (cs ++ xs) c_ (cs.length + xs.length) h0 n0) := by
  refine MetFree.of_bodySF (plainFor_of_name pn_39) hisR ?_
  intro p e s m args below meth c s₁ Bd hml0 hP hK
  obtain ⟨rfl, hZ, hh⟩ := hP
  have hx := Bd.exec
  have E_a1 := SB.1
  have hby := Bd.bytes
  have hml : c.maxLocals = 2 := hml0
  have hown : s.vm.findClass "java/lang/StringBuilder" = some m.cls := findClass_of_methodNamed Bd.named
  have X0 : Stand p l e (zr 5 1 142 76) s m #[.ref a1, .ref a2] below meth c s₁ [] 0 0 := Stand.of_body Bd
  have e0 : s₁.heap = h0 := by rw [← hh, Bd.state]; rfl
  have N0 := Fr.nil n0
  have pre0 := zP p e below s₁ (ef_18 m a1 a2)
  obtain ⟨_, _, ⟨T3, L3, k3, n3⟩, -, X3, ⟨Lc3, hQ3, l3, y3, z3⟩, st3⟩ := superBack X0 hx hZ (y := y_11) hown (zW hw 75 rfl) (own_same (y := y_11) (own_nf (notFace_of_selects (zW hw 95 rfl)) (zW hw 93 rfl) rfl) (zW hw 76 rfl) (by decide)) (zW hw 76 rfl) (zW hw 77 rfl) (by decide) (backOf (W := 0) (r13u l Z a0 hw [] a1 a2 t0 cs xs c_ h0 n0 Z0 SB S g_a1 g_t0 CS O hne hq hc hc9) hZ (zW hw 79 rfl) (zW hw 47 rfl) (by decide) (by decide)) e0 (Ins.self E_a1) (g := (mkF m 2 #[.val (.ref a1), .val (.ref a2)] [.ref a2, .ref a1])) rfl (by rw [hml]; rfl) (zW hw 79 rfl) (argsL := [.ref a2]) (rest := []) (lenOf pd_12_10 rfl) rfl (Nat.le_of_eq rfl) (D12 hby 2 rfl) (fun _ _ => ⟨rfl, e0, (by decide : 0 + 1 ≤ _), (by decide : 0 + 142 ≤ _)⟩)
  dsimp only [Pt.U, Pt.locs, Pt.cells, Pt.slots] at X3 l3 y3 z3 st3 hQ3
  subst l3 y3 z3
  obtain ⟨rfl, N3q, Qq⟩ := hQ3
  have N3 := Fr.app N0 N3q
  obtain ⟨fs, hr, hrun, hended, hW, hsame⟩ := X3.leave (v := some (.ref a1)) (fun h => by rw [Bd.returns] at h; cases h)
  refine ⟨_, _, pre0 _ ?_, hrun, hended, _, _, rfl, ?_, ⟨_, rfl⟩, hW, hsame.mono (by decide) (by decide)⟩
  · refine XS.aloadN X0.here hx rfl (D12 hby 0 rfl) rfl rfl ?_
    refine XS.aloadN X0.here hx rfl (D12 hby 1 rfl) rfl rfl ?_
    refine st3.trans ?_
    refine XS.pop X3.here hx rfl (D12 hby 3 rfl) rfl rfl ?_
    refine XS.aloadN X3.here hx rfl (D12 hby 4 rfl) rfl rfl ?_
    jvm_step X3.here [X3.here.top, hx, (D12 hby 5 rfl), X3.method', Bd.returns, Value.isRef, FieldType.isReference]
    first | (intro acts; rw [hr _ acts rfl rfl rfl]) | rw [hr _ _ rfl rfl rfl]
    exact Steps.refl _
  · show Q13 Z a1 t0 (cs ++ xs) c_ (cs.length + xs.length) h0 n0 _ T3.heap _
    exact ⟨rfl, N3, Qq⟩
def l21 : List (Nat × Instr × Nat) := [(0, .aload_n 0, 1), (1, .aload_n 0, 1), (2, .getfield 79, 3), (5, .iconst 1, 1), (6, .iadd, 1), (7, .invokevirtual 100, 3), (10, .aload_n 0, 1), (11, .invokevirtual 83, 3), (14, .ifCond .eq 31, 3), (17, .iload_n 1, 1), (18, .invokestatic 191, 3), (21, .ifCond .eq 24, 3), (24, .aload_n 0, 1), (25, .getfield 15, 3), (28, .aload_n 0, 1), (29, .dup, 1), (30, .getfield 79, 3), (33, .dup_x1, 1), (34, .iconst 1, 1), (35, .iadd, 1), (36, .putfield 79, 3), (39, .iload_n 1, 1), (40, .i2b, 1), (41, .bastore, 1), (42, .goto 33, 3), (75, .aload_n 0, 1), (76, .areturn, 1)]
theorem D21 {c : Code} (h : c.code = jdk_68_method_31_code) : zQ c l21 := zD h (by decide +kernel)
theorem pd_21_19 : parseMethodDescriptor "()Z" = some ⟨[], some .boolean⟩ := by decide +kernel
theorem pd_21_20 : parseMethodDescriptor "(C)Z" = some ⟨[.char], some .boolean⟩ := by decide +kernel
theorem r21a (l : Launch) (Z : State) (a0 : Array Value) (hw : zH Z a0) (ws : List Jvm.Cond) (a1 : Addr) (p2 : Int32) (t0 : Addr) (cs : List Int32) (c_ : Nat) (h0 : Heap) (n0 : Nat) (Z0 : n0 ≤ h0.size) (SB : own_SBv Z h0 a1 cs c_ t0) (g_a1 : n0 ≤ a1) (g_t0 : n0 ≤ t0) (CS : own_CS Z Z.heap) (O : Old Z n0 h0) (hp2 : ¬ (255 : Int32) < p2) (hq : (cs.length + 1) ≤ c_) (hc : c_ < 1000) :
    zM l Z h0 ws y_12 jdk_68_method_31_code 2 (some (.object "java/lang/AbstractStringBuilder")) (zr 1 0 0 14) #[.ref a1, .int p2] (Q13 Z a1 t0 (cs ++ [p2]) c_ (cs.length + 1) h0 n0) := by
  refine MetFree.of_bodySF (plainFor_of_name pn_38) hisR ?_
  intro p e s m args below meth c s₁ Bd hml0 hP hK
  obtain ⟨rfl, hZ, hh⟩ := hP
  have hx := Bd.exec
  obtain ⟨E_a1, F_coder_a1, F_count_a1, F_value_a1, kd, vd, B, hvd, hcs, htk⟩ := id SB
  have hby := Bd.bytes
  have hml : c.maxLocals = 2 := hml0
  have hown : s.vm.findClass "java/lang/AbstractStringBuilder" = some m.cls := findClass_of_methodNamed Bd.named
  have X0 : Stand p l e (zr 1 0 0 14) s m #[.ref a1, .int p2] below meth c s₁ [] 0 0 := Stand.of_body Bd
  have e0 : s₁.heap = h0 := by rw [← hh, Bd.state]; rfl
  have N0 := Fr.nil n0
  have pre0 := zP p e below s₁ (ef_9 m a1 p2)
  obtain ⟨T4, X4, e4, st4⟩ := getF X0 hx hZ hown (host := "") (Or.inl (zW hw 90 rfl)) Via.refl e0 F_count_a1 (g := (mkF m 2 #[.val (.ref a1), .val (.int p2)] [.ref a1, .ref a1])) rfl rfl (D21 hby 2 rfl)
  obtain ⟨cq5, q5, q5'⟩ := E_a1.cell
  obtain ⟨_, _, ⟨T5, L5, k5, n5⟩, -, X5, ⟨Lc5, hQ5, l5, y5, z5⟩, st5⟩ := X4.privateBack hx (y := y_4) hown (zT hZ hw 92 rfl) (zT hZ hw 93 rfl) (mvT hZ (own_selP (zW hw 95 rfl) (zW hw 94 rfl) (zW hw 93 rfl) (by decide))) (Cond.privateMethod_at (mvP hZ (zW hw 94 rfl) (args := #[]))) (zT hZ hw 96 rfl) (by decide) (backOf (W := 0) (r16a l Z a0 hw [] a1 ((Int32.ofNat cs.length) + (1 : Int32)) t0 cs c_ (cs.length + 1) h0 n0 Z0 (Int32.ofNat_add _ 1).symm SB g_a1 hq hc) hZ (zW hw 96 rfl) (zW hw 47 rfl) (by decide) (by decide)) (g := (mkF m 7 #[.val (.ref a1), .val (.int p2)] [(.int ((Int32.ofNat cs.length) + (1 : Int32))), .ref a1])) rfl (by rw [hml]; rfl) (Steps.refl _) (a := a1) (by rw [e4]; exact q5) q5' (argsL := [(.int ((Int32.ofNat cs.length) + (1 : Int32)))]) (rest := []) (lenOf pd_8_6 rfl) rfl (Nat.le_of_eq rfl) (D21 hby 5 rfl) (fun _ _ => ⟨rfl, e4, (by decide : 0 + 0 ≤ _), (by decide : 0 + 0 ≤ _)⟩)
  dsimp only [Pt.U, Pt.locs, Pt.cells, Pt.slots] at X5 l5 y5 z5 st5 hQ5
  subst l5 y5 z5
  obtain ⟨rfl, N5q, K5, c5, t5, hP5, SB5, ht5⟩ := hQ5
  have hc5 : (cs.length + 1) ≤ c5 ∧ c5 < 1000 := by unfold own_P at hP5; omega
  obtain ⟨E5, Fc5, F5n, Fv5, kd5, vd5, B5, hvd5, hcs5, htk5⟩ := id SB5
  have O5 := O.keep K5 (allS g_a1 (allS g_t0 all0))
  have Z5 := Nat.le_trans Z0 K5.1
  have g_t5 := own_t_ge Z0 g_t0 ht5
  have hn2 : a1 ≠ t5 := Exa.neArv E5 B5 (zW hw 38 rfl)
  obtain ⟨zc, SC5, hz5⟩ := CS.ext O5.2
  have x1 : (Int32.ofNat cs.length).toNatClampNeg = cs.length := own_cl _ (by omega)
  have x3 : (Int32.ofNat c5).toNatClampNeg = c5 := own_cl c5 (by omega)
  have N5 := Fr.app N0 N5q
  obtain ⟨cq6, kq6, q6a, q6b, q6c⟩ := isOf hZ rfl E5
  obtain ⟨_, _, ⟨T6, L6, k6, n6⟩, -, X6, ⟨Lc6, hQ6, l6, y6, z6⟩, st6⟩ := X5.virtualBack hx (y := y_8) hown (zT hZ hw 126 rfl) (zT hZ hw 127 rfl) (notFace_of_selects (args := #[]) (zT hZ hw 129 rfl)) (zT hZ hw 129 rfl) (zT hZ hw 128 rfl) (by decide) (backOf (W := 0) (r22 l Z a0 hw [] a1 zc (0 : Int32) T5.heap n0 Z5 SC5 Fc5 hz5 rfl) hZ (zW hw 130 rfl) (zW hw 47 rfl) (by decide) (by decide)) q6a q6c (g := (mkF m 11 #[.val (.ref a1), .val (.int p2)] [.ref a1])) rfl (by rw [hml]; rfl) (Steps.refl _) (argsL := []) (rest := []) (lenOf pd_21_19 rfl) rfl (Nat.le_of_eq rfl) (D21 hby 7 rfl) (fun _ _ => ⟨rfl, rfl, (by decide : 0 + 0 ≤ _), (by decide : 0 + 0 ≤ _)⟩)
  dsimp only [Pt.U, Pt.locs, Pt.cells, Pt.slots] at X6 l6 y6 z6 st6 hQ6
  subst l6 y6 z6
  obtain ⟨rfl, N6q, e6⟩ := hQ6
  have N6 := Fr.app N5 N6q
  obtain ⟨_, _, ⟨T7, L7, k7, n7⟩, -, X7, ⟨Lc7, hQ7, l7, y7, z7⟩, st7⟩ := Jvm.LawKit.callS X6 hx (y := y_22) hown (zT hZ hw 131 rfl) (zT hZ hw 132 rfl) (zT hZ hw 133 rfl) (zT hZ hw 134 rfl) (by decide) (backOf (W := 0) (r23 l Z a0 hw [] p2 T5.heap n0 Z5 hp2) hZ (zW hw 134 rfl) (zW hw 133 rfl) (by decide) (by decide)) (g := (mkF m 18 #[.val (.ref a1), .val (.int p2)] [.int p2])) rfl (by rw [hml]; rfl) (argsL := [.int p2]) (rest := []) (lenOf pd_21_20 rfl) rfl (Nat.le_of_eq rfl) (D21 hby 10 rfl) (fun _ _ => ⟨rfl, e6, (by decide : 0 + 0 ≤ _), (by decide : 0 + 0 ≤ _)⟩)
  dsimp only [Pt.U, Pt.locs, Pt.cells, Pt.slots] at X7 l7 y7 z7 st7 hQ7
  subst l7 y7 z7
  obtain ⟨rfl, N7q, e7⟩ := hQ7
  have N7 := Fr.app N6 N7q
  obtain ⟨T9, X9, e9, st9⟩ := getF X7 hx hZ hown (host := "") (Or.inl (zW hw 51 rfl)) Via.refl e7 Fv5 (g := (mkF m 25 #[.val (.ref a1), .val (.int p2)] [.ref a1])) rfl rfl (D21 hby 13 rfl)
  obtain ⟨T11, X11, e11, st11⟩ := getF X9 hx hZ hown (host := "") (Or.inl (zW hw 90 rfl)) Via.refl e9 F5n (g := (mkF m 30 #[.val (.ref a1), .val (.int p2)] [.ref a1, .ref a1, .ref t5])) rfl rfl (D21 hby 16 rfl)
  obtain ⟨T12, h12, X12, e12, W12, st12⟩ := putF X11 hx hZ hown (host := "") (Or.inl (zW hw 90 rfl)) Via.refl e11 F5n E5 (Or.inl (zW hw 91 rfl)) (zW hw 38 rfl) (ty := .int) (by decide) rfl rfl (g := (mkF m 36 #[.val (.ref a1), .val (.int p2)] [(.int ((Int32.ofNat cs.length) + (1 : Int32))), .ref a1, (.int (Int32.ofNat cs.length)), .ref t5])) rfl rfl (D21 hby 20 rfl)
  have Fw12 := F5n.same W12
  have K12 : Keep h0 h12 [a1, t0] := K5.wr W12 (Or.inl (List.mem_of_getElem? (i := 0) rfl))
  have N12 := Fr.snoc X12 N7 g_a1
  have B12 := B5.other W12 hn2.symm
  obtain ⟨cl_t5, Ar_t5, qb, S_t5, N_t5, Hb, Gb⟩ := id B12
  have hin41 : ¬ ((Int32.ofNat cs.length) < 0 ∨ cl_t5.slots.size ≤ ((Int32.ofNat cs.length)).toNatClampNeg) := by rw [S_t5, x1, x3]; intro q_; rcases q_ with q_ | q_; exact own_nn _ (by omega) q_; omega
  obtain ⟨T13, h13, X13, e13, W13, st13⟩ := stB X12 hx hZ e12 Ar_t5 (j := (Int32.ofNat cs.length)) hin41 (g := (mkF m 41 #[.val (.ref a1), .val (.int p2)] [(.int (p2.toInt8.toInt32)), (.int (Int32.ofNat cs.length)), .ref t5])) rfl rfl (D21 hby 23 rfl)
  have N13 := Fr.snoc X13 N12 g_t5
  have K13 : Keep h0 h13 [a1, t0] := K12.wr W13 (own_t_in ht5)
  obtain ⟨fs, hr, hrun, hended, hW, hsame⟩ := X13.leave (v := some (.ref a1)) (fun h => by rw [Bd.returns] at h; cases h)
  refine ⟨_, _, pre0 _ ?_, hrun, hended, _, _, rfl, ?_, ⟨_, rfl⟩, hW, hsame.mono (by decide) (by decide)⟩
  · refine XS.aloadN X0.here hx rfl (D21 hby 0 rfl) rfl rfl ?_
    refine XS.aloadN X0.here hx rfl (D21 hby 1 rfl) rfl rfl ?_
    refine st4 _ ?_
    refine XS.iconst X4.here hx rfl (D21 hby 3 rfl) ?_
    refine XS.iadd X4.here hx rfl (D21 hby 4 rfl) rfl ?_
    refine st5.trans ?_
    refine XS.aloadN X5.here hx rfl (D21 hby 6 rfl) rfl rfl ?_
    refine st6.trans ?_
    refine XS.ifNo X6.here hx rfl (D21 hby 8 rfl) rfl ((if0 _ _).trans (feq (by decide : ¬ ((1 : Int32) = (0 : Int32)))).1) ?_
    refine XS.iloadN X6.here hx rfl (D21 hby 9 rfl) rfl ?_
    refine st7 _ ?_
    refine XS.ifNo X7.here hx rfl (D21 hby 11 rfl) rfl ((if0 _ _).trans (feq (by decide : ¬ ((1 : Int32) = (0 : Int32)))).1) ?_
    refine XS.aloadN X7.here hx rfl (D21 hby 12 rfl) rfl rfl ?_
    refine st9 _ ?_
    refine XS.aloadN X9.here hx rfl (D21 hby 14 rfl) rfl rfl ?_
    refine XS.dup X9.here hx rfl (D21 hby 15 rfl) rfl rfl ?_
    refine st11 _ ?_
    refine XS.dupX1 X11.here hx rfl (D21 hby 17 rfl) rfl rfl rfl ?_
    refine XS.iconst X11.here hx rfl (D21 hby 18 rfl) ?_
    refine XS.iadd X11.here hx rfl (D21 hby 19 rfl) rfl ?_
    refine st12 _ ?_
    refine XS.iloadN X12.here hx rfl (D21 hby 21 rfl) rfl ?_
    refine XS.i2b X12.here hx rfl (D21 hby 22 rfl) rfl ?_
    refine st13 _ ?_
    refine XS.goto X13.here hx rfl (pc0 := 42) (pc' := 75) rfl (D21 hby 24 rfl) (by decide) (by decide) ?_
    refine XS.aloadN X13.here hx rfl (D21 hby 25 rfl) rfl rfl ?_
    jvm_step X13.here [X13.here.top, hx, (D21 hby 26 rfl), X13.method', Bd.returns, Value.isRef, FieldType.isReference]
    first | (intro acts; rw [hr _ acts rfl rfl rfl]) | rw [hr _ _ rfl rfl rfl]
    exact Steps.refl _
  · show Q13 Z a1 t0 (cs ++ [p2]) c_ (cs.length + 1) h0 n0 _ T13.heap _
    rw [e13]
    have V13 := Arv.set Ar_t5 qb S_t5 N_t5 Hb Gb (StrChars.fits_lo8 (StrChars.lo8 p2)) W13 cs.length x1 (by omega)
    have hl : StrChars.lo8 (StrChars.lo8 p2) = StrChars.lo8 p2 := own_lo8i p2
    rw [hl] at V13
    refine ⟨rfl, N13, K13, c5, t5, hP5, ⟨(E5.wr W12).wr W13, ?_, ?_, ?_, kd5, _, V13, by rw [List.length_set]; exact hvd5, ?_, ?_⟩, ht5⟩
    · exact (Fc5.other W12 (Or.inr (slot_ne (Or.inl (zW hw 54 rfl)) (Or.inl (zW hw 91 rfl)) (by decide) (t := .byte) (t' := .int) (by decide) (by decide)))).other W13 (Or.inl hn2)
    · rw [List.length_append, Int32.ofNat_add]; exact Fw12.other W13 (Or.inl hn2)
    · exact (Fv5.other W12 (Or.inr (slot_ne (Or.inl (zW hw 52 rfl)) (Or.inl (zW hw 91 rfl)) (by decide) (t := (.array .byte)) (t' := .int) (by decide) (by decide)))).other W13 (Or.inl hn2)
    · rw [List.length_append]; exact hc5.1
    · rw [List.length_append, own_by_app]
      show (vd5.set cs.length _).take (cs.length + 1) = _
      rw [own_takeset _ _ _ (by omega), htk5]
      rfl
theorem r21u (l : Launch) (Z : State) (a0 : Array Value) (hw : zH Z a0) (ws : List Jvm.Cond) (a1 : Addr) (p2 : Int32) (t0 : Addr) (cs : List Int32) (c_ : Nat) (h0 : Heap) (n0 : Nat) (Z0 : n0 ≤ h0.size) (SB : own_SBv Z h0 a1 cs c_ t0) (g_a1 : n0 ≤ a1) (g_t0 : n0 ≤ t0) (CS : own_CS Z Z.heap) (O : Old Z n0 h0) (hp2 : ¬ (255 : Int32) < p2) (hq : (cs.length + 1) ≤ 2 * c_ + 2) (hc : c_ ≤ 70 ∨ (cs.length + 1) ≤ c_) (hc9 : c_ < 1000) :
    zM l Z h0 ws y_12 jdk_68_method_31_code 2 (some (.object "java/lang/AbstractStringBuilder")) (zr 4 1 142 62) #[.ref a1, .int p2] (Q13 Z a1 t0 (cs ++ [p2]) c_ (cs.length + 1) h0 n0) := by
  refine MetFree.of_bodySF (plainFor_of_name pn_38) hisR ?_
  intro p e s m args below meth c s₁ Bd hml0 hP hK
  obtain ⟨rfl, hZ, hh⟩ := hP
  have hx := Bd.exec
  obtain ⟨E_a1, F_coder_a1, F_count_a1, F_value_a1, kd, vd, B, hvd, hcs, htk⟩ := id SB
  have hby := Bd.bytes
  have hml : c.maxLocals = 2 := hml0
  have hown : s.vm.findClass "java/lang/AbstractStringBuilder" = some m.cls := findClass_of_methodNamed Bd.named
  have X0 : Stand p l e (zr 4 1 142 62) s m #[.ref a1, .int p2] below meth c s₁ [] 0 0 := Stand.of_body Bd
  have e0 : s₁.heap = h0 := by rw [← hh, Bd.state]; rfl
  have N0 := Fr.nil n0
  have pre0 := zP p e below s₁ (ef_9 m a1 p2)
  obtain ⟨T4, X4, e4, st4⟩ := getF X0 hx hZ hown (host := "") (Or.inl (zW hw 90 rfl)) Via.refl e0 F_count_a1 (g := (mkF m 2 #[.val (.ref a1), .val (.int p2)] [.ref a1, .ref a1])) rfl rfl (D21 hby 2 rfl)
  obtain ⟨cq5, q5, q5'⟩ := E_a1.cell
  obtain ⟨_, _, ⟨T5, L5, k5, n5⟩, -, X5, ⟨Lc5, hQ5, l5, y5, z5⟩, st5⟩ := X4.privateBack hx (y := y_4) hown (zT hZ hw 92 rfl) (zT hZ hw 93 rfl) (mvT hZ (own_selP (zW hw 95 rfl) (zW hw 94 rfl) (zW hw 93 rfl) (by decide))) (Cond.privateMethod_at (mvP hZ (zW hw 94 rfl) (args := #[]))) (zT hZ hw 96 rfl) (by decide) (backOf (W := 0) (r16u l Z a0 hw [] a1 ((Int32.ofNat cs.length) + (1 : Int32)) t0 cs c_ (cs.length + 1) h0 n0 Z0 (Int32.ofNat_add _ 1).symm SB g_a1 hq hc hc9) hZ (zW hw 96 rfl) (zW hw 47 rfl) (by decide) (by decide)) (g := (mkF m 7 #[.val (.ref a1), .val (.int p2)] [(.int ((Int32.ofNat cs.length) + (1 : Int32))), .ref a1])) rfl (by rw [hml]; rfl) (Steps.refl _) (a := a1) (by rw [e4]; exact q5) q5' (argsL := [(.int ((Int32.ofNat cs.length) + (1 : Int32)))]) (rest := []) (lenOf pd_8_6 rfl) rfl (Nat.le_of_eq rfl) (D21 hby 5 rfl) (fun _ _ => ⟨rfl, e4, (by decide : 0 + 1 ≤ _), (by decide : 0 + 142 ≤ _)⟩)
  dsimp only [Pt.U, Pt.locs, Pt.cells, Pt.slots] at X5 l5 y5 z5 st5 hQ5
  subst l5 y5 z5
  obtain ⟨rfl, N5q, K5, c5, t5, hP5, SB5, ht5⟩ := hQ5
  have hc5 : (cs.length + 1) ≤ c5 ∧ c5 < 1000 := by unfold own_P at hP5; omega
  obtain ⟨E5, Fc5, F5n, Fv5, kd5, vd5, B5, hvd5, hcs5, htk5⟩ := id SB5
  have O5 := O.keep K5 (allS g_a1 (allS g_t0 all0))
  have Z5 := Nat.le_trans Z0 K5.1
  have g_t5 := own_t_ge Z0 g_t0 ht5
  have hn2 : a1 ≠ t5 := Exa.neArv E5 B5 (zW hw 38 rfl)
  obtain ⟨zc, SC5, hz5⟩ := CS.ext O5.2
  have x1 : (Int32.ofNat cs.length).toNatClampNeg = cs.length := own_cl _ (by omega)
  have x3 : (Int32.ofNat c5).toNatClampNeg = c5 := own_cl c5 (by omega)
  have N5 := Fr.app N0 N5q
  obtain ⟨cq6, kq6, q6a, q6b, q6c⟩ := isOf hZ rfl E5
  obtain ⟨_, _, ⟨T6, L6, k6, n6⟩, -, X6, ⟨Lc6, hQ6, l6, y6, z6⟩, st6⟩ := X5.virtualBack hx (y := y_8) hown (zT hZ hw 126 rfl) (zT hZ hw 127 rfl) (notFace_of_selects (args := #[]) (zT hZ hw 129 rfl)) (zT hZ hw 129 rfl) (zT hZ hw 128 rfl) (by decide) (backOf (W := 0) (r22 l Z a0 hw [] a1 zc (0 : Int32) T5.heap n0 Z5 SC5 Fc5 hz5 rfl) hZ (zW hw 130 rfl) (zW hw 47 rfl) (by decide) (by decide)) q6a q6c (g := (mkF m 11 #[.val (.ref a1), .val (.int p2)] [.ref a1])) rfl (by rw [hml]; rfl) (Steps.refl _) (argsL := []) (rest := []) (lenOf pd_21_19 rfl) rfl (Nat.le_of_eq rfl) (D21 hby 7 rfl) (fun _ _ => ⟨rfl, rfl, (by decide : 1 + 0 ≤ _), (by decide : 142 + 0 ≤ _)⟩)
  dsimp only [Pt.U, Pt.locs, Pt.cells, Pt.slots] at X6 l6 y6 z6 st6 hQ6
  subst l6 y6 z6
  obtain ⟨rfl, N6q, e6⟩ := hQ6
  have N6 := Fr.app N5 N6q
  obtain ⟨_, _, ⟨T7, L7, k7, n7⟩, -, X7, ⟨Lc7, hQ7, l7, y7, z7⟩, st7⟩ := Jvm.LawKit.callS X6 hx (y := y_22) hown (zT hZ hw 131 rfl) (zT hZ hw 132 rfl) (zT hZ hw 133 rfl) (zT hZ hw 134 rfl) (by decide) (backOf (W := 0) (r23 l Z a0 hw [] p2 T5.heap n0 Z5 hp2) hZ (zW hw 134 rfl) (zW hw 133 rfl) (by decide) (by decide)) (g := (mkF m 18 #[.val (.ref a1), .val (.int p2)] [.int p2])) rfl (by rw [hml]; rfl) (argsL := [.int p2]) (rest := []) (lenOf pd_21_20 rfl) rfl (Nat.le_of_eq rfl) (D21 hby 10 rfl) (fun _ _ => ⟨rfl, e6, (by decide : 1 + 0 ≤ _), (by decide : 142 + 0 ≤ _)⟩)
  dsimp only [Pt.U, Pt.locs, Pt.cells, Pt.slots] at X7 l7 y7 z7 st7 hQ7
  subst l7 y7 z7
  obtain ⟨rfl, N7q, e7⟩ := hQ7
  have N7 := Fr.app N6 N7q
  obtain ⟨T9, X9, e9, st9⟩ := getF X7 hx hZ hown (host := "") (Or.inl (zW hw 51 rfl)) Via.refl e7 Fv5 (g := (mkF m 25 #[.val (.ref a1), .val (.int p2)] [.ref a1])) rfl rfl (D21 hby 13 rfl)
  obtain ⟨T11, X11, e11, st11⟩ := getF X9 hx hZ hown (host := "") (Or.inl (zW hw 90 rfl)) Via.refl e9 F5n (g := (mkF m 30 #[.val (.ref a1), .val (.int p2)] [.ref a1, .ref a1, .ref t5])) rfl rfl (D21 hby 16 rfl)
  obtain ⟨T12, h12, X12, e12, W12, st12⟩ := putF X11 hx hZ hown (host := "") (Or.inl (zW hw 90 rfl)) Via.refl e11 F5n E5 (Or.inl (zW hw 91 rfl)) (zW hw 38 rfl) (ty := .int) (by decide) rfl rfl (g := (mkF m 36 #[.val (.ref a1), .val (.int p2)] [(.int ((Int32.ofNat cs.length) + (1 : Int32))), .ref a1, (.int (Int32.ofNat cs.length)), .ref t5])) rfl rfl (D21 hby 20 rfl)
  have Fw12 := F5n.same W12
  have K12 : Keep h0 h12 [a1, t0] := K5.wr W12 (Or.inl (List.mem_of_getElem? (i := 0) rfl))
  have N12 := Fr.snoc X12 N7 g_a1
  have B12 := B5.other W12 hn2.symm
  obtain ⟨cl_t5, Ar_t5, qb, S_t5, N_t5, Hb, Gb⟩ := id B12
  have hin41 : ¬ ((Int32.ofNat cs.length) < 0 ∨ cl_t5.slots.size ≤ ((Int32.ofNat cs.length)).toNatClampNeg) := by rw [S_t5, x1, x3]; intro q_; rcases q_ with q_ | q_; exact own_nn _ (by omega) q_; omega
  obtain ⟨T13, h13, X13, e13, W13, st13⟩ := stB X12 hx hZ e12 Ar_t5 (j := (Int32.ofNat cs.length)) hin41 (g := (mkF m 41 #[.val (.ref a1), .val (.int p2)] [(.int (p2.toInt8.toInt32)), (.int (Int32.ofNat cs.length)), .ref t5])) rfl rfl (D21 hby 23 rfl)
  have N13 := Fr.snoc X13 N12 g_t5
  have K13 : Keep h0 h13 [a1, t0] := K12.wr W13 (own_t_in ht5)
  obtain ⟨fs, hr, hrun, hended, hW, hsame⟩ := X13.leave (v := some (.ref a1)) (fun h => by rw [Bd.returns] at h; cases h)
  refine ⟨_, _, pre0 _ ?_, hrun, hended, _, _, rfl, ?_, ⟨_, rfl⟩, hW, hsame.mono (by decide) (by decide)⟩
  · refine XS.aloadN X0.here hx rfl (D21 hby 0 rfl) rfl rfl ?_
    refine XS.aloadN X0.here hx rfl (D21 hby 1 rfl) rfl rfl ?_
    refine st4 _ ?_
    refine XS.iconst X4.here hx rfl (D21 hby 3 rfl) ?_
    refine XS.iadd X4.here hx rfl (D21 hby 4 rfl) rfl ?_
    refine st5.trans ?_
    refine XS.aloadN X5.here hx rfl (D21 hby 6 rfl) rfl rfl ?_
    refine st6.trans ?_
    refine XS.ifNo X6.here hx rfl (D21 hby 8 rfl) rfl ((if0 _ _).trans (feq (by decide : ¬ ((1 : Int32) = (0 : Int32)))).1) ?_
    refine XS.iloadN X6.here hx rfl (D21 hby 9 rfl) rfl ?_
    refine st7 _ ?_
    refine XS.ifNo X7.here hx rfl (D21 hby 11 rfl) rfl ((if0 _ _).trans (feq (by decide : ¬ ((1 : Int32) = (0 : Int32)))).1) ?_
    refine XS.aloadN X7.here hx rfl (D21 hby 12 rfl) rfl rfl ?_
    refine st9 _ ?_
    refine XS.aloadN X9.here hx rfl (D21 hby 14 rfl) rfl rfl ?_
    refine XS.dup X9.here hx rfl (D21 hby 15 rfl) rfl rfl ?_
    refine st11 _ ?_
    refine XS.dupX1 X11.here hx rfl (D21 hby 17 rfl) rfl rfl rfl ?_
    refine XS.iconst X11.here hx rfl (D21 hby 18 rfl) ?_
    refine XS.iadd X11.here hx rfl (D21 hby 19 rfl) rfl ?_
    refine st12 _ ?_
    refine XS.iloadN X12.here hx rfl (D21 hby 21 rfl) rfl ?_
    refine XS.i2b X12.here hx rfl (D21 hby 22 rfl) rfl ?_
    refine st13 _ ?_
    refine XS.goto X13.here hx rfl (pc0 := 42) (pc' := 75) rfl (D21 hby 24 rfl) (by decide) (by decide) ?_
    refine XS.aloadN X13.here hx rfl (D21 hby 25 rfl) rfl rfl ?_
    jvm_step X13.here [X13.here.top, hx, (D21 hby 26 rfl), X13.method', Bd.returns, Value.isRef, FieldType.isReference]
    first | (intro acts; rw [hr _ acts rfl rfl rfl]) | rw [hr _ _ rfl rfl rfl]
    exact Steps.refl _
  · show Q13 Z a1 t0 (cs ++ [p2]) c_ (cs.length + 1) h0 n0 _ T13.heap _
    rw [e13]
    have V13 := Arv.set Ar_t5 qb S_t5 N_t5 Hb Gb (StrChars.fits_lo8 (StrChars.lo8 p2)) W13 cs.length x1 (by omega)
    have hl : StrChars.lo8 (StrChars.lo8 p2) = StrChars.lo8 p2 := own_lo8i p2
    rw [hl] at V13
    refine ⟨rfl, N13, K13, c5, t5, hP5, ⟨(E5.wr W12).wr W13, ?_, ?_, ?_, kd5, _, V13, by rw [List.length_set]; exact hvd5, ?_, ?_⟩, ht5⟩
    · exact (Fc5.other W12 (Or.inr (slot_ne (Or.inl (zW hw 54 rfl)) (Or.inl (zW hw 91 rfl)) (by decide) (t := .byte) (t' := .int) (by decide) (by decide)))).other W13 (Or.inl hn2)
    · rw [List.length_append, Int32.ofNat_add]; exact Fw12.other W13 (Or.inl hn2)
    · exact (Fv5.other W12 (Or.inr (slot_ne (Or.inl (zW hw 52 rfl)) (Or.inl (zW hw 91 rfl)) (by decide) (t := (.array .byte)) (t' := .int) (by decide) (by decide)))).other W13 (Or.inl hn2)
    · rw [List.length_append]; exact hc5.1
    · rw [List.length_append, own_by_app]
      show (vd5.set cs.length _).take (cs.length + 1) = _
      rw [own_takeset _ _ _ (by omega), htk5]
      rfl
def l20 : List (Nat × Instr × Nat) := [(0, .aload_n 0, 1), (1, .iload_n 1, 1), (2, .invokespecial 50, 3), (5, .pop, 1), (6, .aload_n 0, 1), (7, .areturn, 1)]
theorem D20 {c : Code} (h : c.code = jdk_67_method_14_code) : zQ c l20 := zD h (by decide +kernel)
theorem pd_20_18 : parseMethodDescriptor "(C)Ljava/lang/AbstractStringBuilder;" = some ⟨[.char], some (.object "java/lang/AbstractStringBuilder")⟩ := by decide +kernel
theorem r20a (l : Launch) (Z : State) (a0 : Array Value) (hw : zH Z a0) (ws : List Jvm.Cond) (a1 : Addr) (p2 : Int32) (t0 : Addr) (cs : List Int32) (c_ : Nat) (h0 : Heap) (n0 : Nat) (Z0 : n0 ≤ h0.size) (SB : own_SBv Z h0 a1 cs c_ t0) (g_a1 : n0 ≤ a1) (g_t0 : n0 ≤ t0) (CS : own_CS Z Z.heap) (O : Old Z n0 h0) (hp2 : ¬ (255 : Int32) < p2) (hq : (cs.length + 1) ≤ c_) (hc : c_ < 1000) :
    zM l Z h0 ws y_1 jdk_67_method_14_code 2 (some (.object "java/lang/StringBuilder")) (zr 2 0 0 27) #[.ref a1, .int p2] (Q13 Z a1 t0 (cs ++ [p2]) c_ (cs.length + 1) h0 n0) := by
  refine MetFree.of_bodySF (plainFor_of_name pn_39) hisR ?_
  intro p e s m args below meth c s₁ Bd hml0 hP hK
  obtain ⟨rfl, hZ, hh⟩ := hP
  have hx := Bd.exec
  have E_a1 := SB.1
  have hby := Bd.bytes
  have hml : c.maxLocals = 2 := hml0
  have hown : s.vm.findClass "java/lang/StringBuilder" = some m.cls := findClass_of_methodNamed Bd.named
  have X0 : Stand p l e (zr 2 0 0 27) s m #[.ref a1, .int p2] below meth c s₁ [] 0 0 := Stand.of_body Bd
  have e0 : s₁.heap = h0 := by rw [← hh, Bd.state]; rfl
  have N0 := Fr.nil n0
  have pre0 := zP p e below s₁ (ef_9 m a1 p2)
  obtain ⟨_, _, ⟨T3, L3, k3, n3⟩, -, X3, ⟨Lc3, hQ3, l3, y3, z3⟩, st3⟩ := superBack X0 hx hZ (y := y_12) hown (zW hw 122 rfl) (own_same (y := y_12) (own_nf (notFace_of_selects (zW hw 95 rfl)) (zW hw 93 rfl) rfl) (zW hw 123 rfl) (by decide)) (zW hw 123 rfl) (zW hw 77 rfl) (by decide) (backOf (W := 0) (r21a l Z a0 hw [] a1 p2 t0 cs c_ h0 n0 Z0 SB g_a1 g_t0 CS O hp2 hq hc) hZ (zW hw 125 rfl) (zW hw 47 rfl) (by decide) (by decide)) e0 (Ins.self E_a1) (g := (mkF m 2 #[.val (.ref a1), .val (.int p2)] [.int p2, .ref a1])) rfl (by rw [hml]; rfl) (zW hw 125 rfl) (argsL := [.int p2]) (rest := []) (lenOf pd_20_18 rfl) rfl (Nat.le_of_eq rfl) (D20 hby 2 rfl) (fun _ _ => ⟨rfl, e0, (by decide : 0 + 0 ≤ _), (by decide : 0 + 0 ≤ _)⟩)
  dsimp only [Pt.U, Pt.locs, Pt.cells, Pt.slots] at X3 l3 y3 z3 st3 hQ3
  subst l3 y3 z3
  obtain ⟨rfl, N3q, Qq⟩ := hQ3
  have N3 := Fr.app N0 N3q
  obtain ⟨fs, hr, hrun, hended, hW, hsame⟩ := X3.leave (v := some (.ref a1)) (fun h => by rw [Bd.returns] at h; cases h)
  refine ⟨_, _, pre0 _ ?_, hrun, hended, _, _, rfl, ?_, ⟨_, rfl⟩, hW, hsame.mono (by decide) (by decide)⟩
  · refine XS.aloadN X0.here hx rfl (D20 hby 0 rfl) rfl rfl ?_
    refine XS.iloadN X0.here hx rfl (D20 hby 1 rfl) rfl ?_
    refine st3.trans ?_
    refine XS.pop X3.here hx rfl (D20 hby 3 rfl) rfl rfl ?_
    refine XS.aloadN X3.here hx rfl (D20 hby 4 rfl) rfl rfl ?_
    jvm_step X3.here [X3.here.top, hx, (D20 hby 5 rfl), X3.method', Bd.returns, Value.isRef, FieldType.isReference]
    first | (intro acts; rw [hr _ acts rfl rfl rfl]) | rw [hr _ _ rfl rfl rfl]
    exact Steps.refl _
  · show Q13 Z a1 t0 (cs ++ [p2]) c_ (cs.length + 1) h0 n0 _ T3.heap _
    exact ⟨rfl, N3, Qq⟩
theorem r20u (l : Launch) (Z : State) (a0 : Array Value) (hw : zH Z a0) (ws : List Jvm.Cond) (a1 : Addr) (p2 : Int32) (t0 : Addr) (cs : List Int32) (c_ : Nat) (h0 : Heap) (n0 : Nat) (Z0 : n0 ≤ h0.size) (SB : own_SBv Z h0 a1 cs c_ t0) (g_a1 : n0 ≤ a1) (g_t0 : n0 ≤ t0) (CS : own_CS Z Z.heap) (O : Old Z n0 h0) (hp2 : ¬ (255 : Int32) < p2) (hq : (cs.length + 1) ≤ 2 * c_ + 2) (hc : c_ ≤ 70 ∨ (cs.length + 1) ≤ c_) (hc9 : c_ < 1000) :
    zM l Z h0 ws y_1 jdk_67_method_14_code 2 (some (.object "java/lang/StringBuilder")) (zr 5 1 142 75) #[.ref a1, .int p2] (Q13 Z a1 t0 (cs ++ [p2]) c_ (cs.length + 1) h0 n0) := by
  refine MetFree.of_bodySF (plainFor_of_name pn_39) hisR ?_
  intro p e s m args below meth c s₁ Bd hml0 hP hK
  obtain ⟨rfl, hZ, hh⟩ := hP
  have hx := Bd.exec
  have E_a1 := SB.1
  have hby := Bd.bytes
  have hml : c.maxLocals = 2 := hml0
  have hown : s.vm.findClass "java/lang/StringBuilder" = some m.cls := findClass_of_methodNamed Bd.named
  have X0 : Stand p l e (zr 5 1 142 75) s m #[.ref a1, .int p2] below meth c s₁ [] 0 0 := Stand.of_body Bd
  have e0 : s₁.heap = h0 := by rw [← hh, Bd.state]; rfl
  have N0 := Fr.nil n0
  have pre0 := zP p e below s₁ (ef_9 m a1 p2)
  obtain ⟨_, _, ⟨T3, L3, k3, n3⟩, -, X3, ⟨Lc3, hQ3, l3, y3, z3⟩, st3⟩ := superBack X0 hx hZ (y := y_12) hown (zW hw 122 rfl) (own_same (y := y_12) (own_nf (notFace_of_selects (zW hw 95 rfl)) (zW hw 93 rfl) rfl) (zW hw 123 rfl) (by decide)) (zW hw 123 rfl) (zW hw 77 rfl) (by decide) (backOf (W := 0) (r21u l Z a0 hw [] a1 p2 t0 cs c_ h0 n0 Z0 SB g_a1 g_t0 CS O hp2 hq hc hc9) hZ (zW hw 125 rfl) (zW hw 47 rfl) (by decide) (by decide)) e0 (Ins.self E_a1) (g := (mkF m 2 #[.val (.ref a1), .val (.int p2)] [.int p2, .ref a1])) rfl (by rw [hml]; rfl) (zW hw 125 rfl) (argsL := [.int p2]) (rest := []) (lenOf pd_20_18 rfl) rfl (Nat.le_of_eq rfl) (D20 hby 2 rfl) (fun _ _ => ⟨rfl, e0, (by decide : 0 + 1 ≤ _), (by decide : 0 + 142 ≤ _)⟩)
  dsimp only [Pt.U, Pt.locs, Pt.cells, Pt.slots] at X3 l3 y3 z3 st3 hQ3
  subst l3 y3 z3
  obtain ⟨rfl, N3q, Qq⟩ := hQ3
  have N3 := Fr.app N0 N3q
  obtain ⟨fs, hr, hrun, hended, hW, hsame⟩ := X3.leave (v := some (.ref a1)) (fun h => by rw [Bd.returns] at h; cases h)
  refine ⟨_, _, pre0 _ ?_, hrun, hended, _, _, rfl, ?_, ⟨_, rfl⟩, hW, hsame.mono (by decide) (by decide)⟩
  · refine XS.aloadN X0.here hx rfl (D20 hby 0 rfl) rfl rfl ?_
    refine XS.iloadN X0.here hx rfl (D20 hby 1 rfl) rfl ?_
    refine st3.trans ?_
    refine XS.pop X3.here hx rfl (D20 hby 3 rfl) rfl rfl ?_
    refine XS.aloadN X3.here hx rfl (D20 hby 4 rfl) rfl rfl ?_
    jvm_step X3.here [X3.here.top, hx, (D20 hby 5 rfl), X3.method', Bd.returns, Value.isRef, FieldType.isReference]
    first | (intro acts; rw [hr _ acts rfl rfl rfl]) | rw [hr _ _ rfl rfl rfl]
    exact Steps.refl _
  · show Q13 Z a1 t0 (cs ++ [p2]) c_ (cs.length + 1) h0 n0 _ T3.heap _
    exact ⟨rfl, N3, Qq⟩
abbrev own_G := Jvm.Free.SBG.GetCharsL.G
def own_num (x : Int64) (n : Nat) : List Int32 := (if x < 0 then [45] else []) ++ (List.range (Jvm.Free.SBG.digitsL n)).map fun t => Int32.ofNat (48 + n / 10 ^ (Jvm.Free.SBG.digitsL n - 1 - t) % 10)
theorem own_num_len (x : Int64) (n : Nat) : (own_num x n).length = Jvm.Free.SBG.digitsL n + Jvm.Free.SBG.GetCharsL.sgnL x := by
  unfold own_num Jvm.Free.SBG.GetCharsL.sgnL
  by_cases h : x < 0
  · simp [h, Nat.add_comm]
  · simp [h]
theorem own_num_le (x : Int64) (n : Nat) : 1 ≤ (own_num x n).length ∧ (own_num x n).length ≤ 21 := by
  rw [own_num_len]
  have := Jvm.Free.SBG.digitsL_pos n
  unfold Jvm.Free.SBG.GetCharsL.sgnL
  split <;> omega
theorem own_gcl (g : own_G) (h1 : Jvm.Free.SBG.Ones g.D1) (h2 : Jvm.Free.SBG.Tens g.D2) (hn : g.n ≤ 2 ^ 63) (cs : List Int32) (vd : List Value) (hk : g.idx = cs.length + (own_num g.x g.n).length) (hidx : g.idx ≤ g.A.slots.size) (H : ∀ k, k < g.A.slots.size → g.A.slots[k]? = some (vd.getD k (.int 0))) (hvd : vd.take cs.length = own_by cs) :
    (Jvm.Free.SBG.GetCharsL.outCell g).slots.toList.take g.idx = own_by (cs ++ own_num g.x g.n) := by
  rw [own_num_len] at hk
  obtain ⟨hS, hA, hB⟩ := Jvm.Free.SBG.outCellL_fwd g h1 h2 hn hk hidx
  have hz := Jvm.Free.SBG.outCellL_size g
  rw [own_by_app]
  apply List.ext_getElem?
  intro i
  by_cases c1 : i < cs.length
  · rw [List.getElem?_take_of_lt (by omega), Array.getElem?_toList, hB i c1, H i (by omega), List.getElem?_append_left (by rw [own_by_len]; exact c1), ← hvd, List.getElem?_take_of_lt c1, List.getD_eq_getElem?_getD]
    have hl : i < vd.length := by
      have := congrArg List.length hvd
      rw [List.length_take, own_by_len] at this
      omega
    rw [List.getElem?_eq_getElem hl]; rfl
  · rw [List.getElem?_append_right (by rw [own_by_len]; omega), own_by_len]
    by_cases c2 : i < g.idx
    · rw [List.getElem?_take_of_lt c2, Array.getElem?_toList]
      unfold own_num
      rw [own_by_app]
      by_cases hx : g.x < 0
      · have hs : Jvm.Free.SBG.GetCharsL.sgnL g.x = 1 := by simp [Jvm.Free.SBG.GetCharsL.sgnL, hx]
        rw [hs] at hA hk
        rw [if_pos hx]
        by_cases c3 : i = cs.length
        · subst c3
          rw [hS hx, Nat.sub_self]; rfl
        · have := hA (i - cs.length - 1) (by omega)
          rw [show cs.length + 1 + (i - cs.length - 1) = i by omega] at this
          rw [this, List.getElem?_append_right (by simp [own_by]; omega)]
          simp only [own_by, List.length_map, List.length_cons, List.length_nil, List.getElem?_map]
          rw [List.getElem?_range (by omega)]
          simp only [Option.map_some, StrChars.lo8]
          rw [Jvm.Free.SBG.dgNarrow _ (by have : g.n / 10 ^ (Jvm.Free.SBG.digitsL g.n - 1 - (i - cs.length - (0 + 1))) % 10 < 10 := Nat.mod_lt _ (by omega)
                                          omega)]
      · have hs : Jvm.Free.SBG.GetCharsL.sgnL g.x = 0 := by simp [Jvm.Free.SBG.GetCharsL.sgnL, hx]
        rw [hs] at hA hk
        rw [if_neg hx]
        have := hA (i - cs.length) (by omega)
        rw [show cs.length + 0 + (i - cs.length) = i by omega] at this
        rw [this]
        show _ = (own_by _)[_]?
        simp only [own_by, List.length_map, List.getElem?_map]
        rw [List.getElem?_range (by omega)]
        simp only [Option.map_some, StrChars.lo8]
        rw [Jvm.Free.SBG.dgNarrow _ (by have : g.n / 10 ^ (Jvm.Free.SBG.digitsL g.n - 1 - (i - cs.length)) % 10 < 10 := Nat.mod_lt _ (by omega)
                                        omega)]
    · rw [List.getElem?_take_eq_none (by omega), List.getElem?_eq_none]
      rw [own_by_len, own_num_len]; omega
theorem own_keepG {h h' : Heap} (g : own_G) (hn : g.n ≤ 2 ^ 63) (hroom : Jvm.Free.SBG.digitsL g.n + Jvm.Free.SBG.GetCharsL.sgnL g.x ≤ g.idx) (hby : ∀ i, i < g.A.slots.size → fits .byte (g.A.slots.getD i .null) = true) (hA : h[g.da]? = some g.A) (ho : h'[g.da]? = some (Jvm.Free.SBG.GetCharsL.outCell g)) (hz : h'.size = h.size) (hk : ∀ (y : Addr) (cy : Cell), y ≠ g.da → h[y]? = some cy → h'[y]? = some cy) : Keep h h' [g.da] := by
  obtain ⟨f1, f2, f3, f4, f5⟩ := Jvm.Free.SBG.GetCharsL.outCell_facts g hn hroom hby
  refine ⟨by rw [hz]; exact Nat.le_refl _, fun x c hc hx => hk x c (fun q => hx (by rw [q]; exact List.mem_singleton.mpr rfl)) hc, fun x c hc => ?_⟩
  by_cases q : x = g.da
  · subst q
    cases hA.symm.trans hc
    exact ⟨_, ho, f1, f2, f3⟩
  · exact ⟨c, hk x c q hc, rfl, rfl, rfl⟩
theorem own_arvG {Z : State} {h h' : Heap} (g : own_G) (c : Nat) (hn : g.n ≤ 2 ^ 63) (hroom : Jvm.Free.SBG.digitsL g.n + Jvm.Free.SBG.GetCharsL.sgnL g.x ≤ g.idx) (hby : ∀ i, i < g.A.slots.size → fits .byte (g.A.slots.getD i .null) = true) (Ar : Arr Z h g.da g.A .byte) (S : g.A.slots.size = (Int32.ofNat c).toNatClampNeg) (N : ¬ (Int32.ofNat c) < 0) (ho : h'[g.da]? = some (Jvm.Free.SBG.GetCharsL.outCell g)) : Arv Z h' g.da g.A.cls .byte (Int32.ofNat c) (Jvm.Free.SBG.GetCharsL.outCell g).slots.toList (.int 0) := by
  obtain ⟨f1, f2, f3, f4, f5⟩ := Jvm.Free.SBG.GetCharsL.outCell_facts g hn hroom hby
  obtain ⟨A1, ⟨A2, kA, A3, comp, A4⟩, A5⟩ := Ar
  refine ⟨_, ⟨ho, ⟨by rw [f2]; exact A2, kA, by rw [f1]; exact A3, comp, A4⟩, by rw [f2]; exact A5⟩, f1, by rw [f3]; exact S, N, fun k hk => ?_, fun i hi => ?_⟩
  · rw [List.getD_eq_getElem?_getD, Array.getElem?_toList, Array.getElem?_eq_getElem hk]; rfl
  · have := f4 i hi
    rw [List.getD_eq_getElem?_getD, Array.getElem?_toList, Array.getElem?_eq_getElem hi]
    rw [Array.getD_eq_getD_getElem?, Array.getElem?_eq_getElem hi] at this
    exact this
theorem own_gcP {Z U : State} {n0 : Nat} (g : own_G) (hal : Z.vm.Alike U.vm) (O : Old Z n0 U.heap) (Ar : Arr Z U.heap g.da g.A .byte) (gd : n0 ≤ g.da) (hz : g.A.slots.size < 2 ^ 31) (hi : g.idx ≤ g.A.slots.size) (hr : Jvm.Free.SBG.digitsL g.n + Jvm.Free.SBG.GetCharsL.sgnL g.x ≤ g.idx) (hn : g.n ≤ 2 ^ 63) (hx : (if g.x < 0 then g.x else -g.x) = Jvm.Free.SBG.negL g.n) (t1 : Jvm.Free.SBG.Tbl Z "DigitOnes" g.st g.d1 g.D1) (t2 : Jvm.Free.SBG.Tbl Z "DigitTens" g.st g.d2 g.D2) : Jvm.Free.SBG.GetCharsL.P g #[.long g.x, .int (Int32.ofNat g.idx), .ref g.da] U := by
  obtain ⟨cf, i, k, f, cS, p1, p2, p3, p4, p5, p6, p7, p8, -⟩ := id t1
  obtain ⟨_, _, _, _, _, _, _, _, _, _, _, _, r8, -⟩ := id t2
  have lt : ∀ {x : Addr} {c : Cell}, Z.heap[x]? = some c → x < Z.heap.size := fun q => (Array.getElem?_eq_some_iff.mp q).1
  exact ⟨rfl, Ar.1, State.isArrayOf_alike hal Ar.2.1, Ar.2.2, hz, hi, hr, hn, hx, t1.move hal (fun c q => O.2.2 _ _ q) (O.2.2 _ _ p8), t2.move hal (fun c q => O.2.2 _ _ q) (O.2.2 _ _ r8), (O.ne (lt p5) gd).symm, (O.ne (lt p8) gd).symm, (O.ne (lt r8) gd).symm⟩
def own_DG (Z : State) : Prop := ∃ (st d1 : Addr) (D1 : Cell) (d2 : Addr) (D2 : Cell), Jvm.Free.SBG.Tbl Z "DigitOnes" st d1 D1 ∧ Jvm.Free.SBG.Ones D1 ∧ Jvm.Free.SBG.Tbl Z "DigitTens" st d2 D2 ∧ Jvm.Free.SBG.Tens D2
theorem own_tabS {Z s : State} {a0 args : Array Value} (hZ : Z.Warmed39 s.vm) (hw : zH Z a0) : Jvm.Free.SBG.StrSizeL.tab.before args s = true := by
  simp only [Jvm.Free.SBG.StrSizeL.tab, Cond.before_and, Bool.and_eq_true]
  exact ⟨mvT hZ (zW hw 176 rfl), mvT hZ (zW hw 177 rfl), mvT hZ (zW hw 284 rfl)⟩
theorem own_tabG {Z s : State} {a0 args : Array Value} (hZ : Z.Warmed39 s.vm) (hw : zH Z a0) : Jvm.Free.SBG.GetCharsL.tab.before args s = true := by
  simp only [Jvm.Free.SBG.GetCharsL.tab, Cond.before_and, Bool.and_eq_true]
  exact ⟨mvT hZ (zW hw 180 rfl), mvT hZ (zW hw 182 rfl), mvT hZ (zW hw 285 rfl), mvT hZ (zW hw 181 rfl), mvT hZ (zW hw 286 rfl)⟩
def l31 : List (Nat × Instr × Nat) := [(0, .aload_n 0, 1), (1, .getfield 79, 3), (4, .istore_n 3, 1), (5, .iload_n 3, 1), (6, .lload_n 1, 1), (7, .invokestatic 254, 3), (10, .iadd, 1), (11, .istore 4, 2), (13, .aload_n 0, 1), (14, .iload 4, 2), (16, .invokevirtual 100, 3), (19, .aload_n 0, 1), (20, .invokevirtual 83, 3), (23, .ifCond .eq 17, 3), (26, .lload_n 1, 1), (27, .iload 4, 2), (29, .aload_n 0, 1), (30, .getfield 15, 3), (33, .invokestatic 259, 3), (36, .pop, 1), (37, .goto 15, 3), (52, .aload_n 0, 1), (53, .iload 4, 2), (55, .putfield 79, 3), (58, .aload_n 0, 1), (59, .areturn, 1)]
theorem D31 {c : Code} (h : c.code = jdk_68_method_33_code) : zQ c l31 := zD h (by decide +kernel)
theorem pd_31_27 : parseMethodDescriptor "(J)I" = some ⟨[.long], some .int⟩ := by decide +kernel
theorem pd_31_28 : parseMethodDescriptor "(JI[B)I" = some ⟨[.long, .int, (.array .byte)], some .int⟩ := by decide +kernel
theorem ef_31 (m : MethodId) (x0 : Addr) (x1 : Int64) : entryFrame m #[.ref x0, (.long x1)] 5 = mkF m 0 #[.val (.ref x0), .val (.long x1), .second, .unset, .unset] [] := by first | (simp [entryFrame, mkF, argsToLocals, Value.category]; done) | rfl
theorem r31u (l : Launch) (Z : State) (a0 : Array Value) (hw : zH Z a0) (ws : List Jvm.Cond) (a1 : Addr) (q2 : Int64) (t0 : Addr) (cs : List Int32) (c_ nn : Nat) (h0 : Heap) (n0 : Nat) (Z0 : n0 ≤ h0.size) (SB : own_SBv Z h0 a1 cs c_ t0) (g_a1 : n0 ≤ a1) (g_t0 : n0 ≤ t0) (CS : own_CS Z Z.heap) (O : Old Z n0 h0) (hn : nn ≤ 2 ^ 63) (hnx : (if q2 < 0 then q2 else -q2) = Jvm.Free.SBG.negL nn) (DG : own_DG Z) (hq : (cs.length + (own_num q2 nn).length) ≤ 2 * c_ + 2) (hc : c_ ≤ 70 ∨ (cs.length + (own_num q2 nn).length) ≤ c_) (hc9 : c_ < 1000) :
    zM l Z h0 ws y_25 jdk_68_method_33_code 5 (some (.object "java/lang/AbstractStringBuilder")) (zr 4 1 142 102) #[.ref a1, (.long q2)] (Q13 Z a1 t0 (cs ++ (own_num q2 nn)) c_ (cs.length + (own_num q2 nn).length) h0 n0) := by
  refine MetFree.of_bodySF (plainFor_of_name pn_38) hisR ?_
  intro p e s m args below meth c s₁ Bd hml0 hP hK
  obtain ⟨rfl, hZ, hh⟩ := hP
  have hx := Bd.exec
  obtain ⟨E_a1, F_coder_a1, F_count_a1, F_value_a1, kd, vd, B, hvd, hcs, htk⟩ := id SB
  have hby := Bd.bytes
  have hml : c.maxLocals = 5 := hml0
  have hown : s.vm.findClass "java/lang/AbstractStringBuilder" = some m.cls := findClass_of_methodNamed Bd.named
  have X0 : Stand p l e (zr 4 1 142 102) s m #[.ref a1, (.long q2)] below meth c s₁ [] 0 0 := Stand.of_body Bd
  have e0 : s₁.heap = h0 := by rw [← hh, Bd.state]; rfl
  have N0 := Fr.nil n0
  have pre0 := zP p e below s₁ (ef_31 m a1 q2)
  obtain ⟨T4, X4, e4, st4⟩ := getF X0 hx hZ hown (host := "") (Or.inl (zW hw 90 rfl)) Via.refl e0 F_count_a1 (g := (mkF m 1 #[.val (.ref a1), .val (.long q2), .second, .unset, .unset] [.ref a1])) rfl rfl (D31 hby 1 rfl)
  obtain ⟨v5, _, ⟨T5, L5, k5, n5⟩, -, X5, ⟨⟨e5, l5, y5, z5⟩, hv5⟩, st5⟩ := Jvm.LawKit.callS X4 hx (y := (⟨"java/lang/Long", "stringSize", "(J)I"⟩ : MethodName)) hown (zT hZ hw 173 rfl) (zT hZ hw 174 rfl) (zT hZ hw 175 rfl) (zT hZ hw 176 rfl) (by decide) (Jvm.Free.SBG.StrSizeL.pays (W := 1) (by decide) (by decide) (own_tabS hZ hw) (zT hZ hw 175 rfl)) (g := (mkF m 7 #[.val (.ref a1), .val (.long q2), .second, .val (.int (Int32.ofNat cs.length)), .unset] [(.long q2), (.int (Int32.ofNat cs.length))])) rfl (by rw [hml]; rfl) (argsL := [(.long q2)]) (rest := [(.int (Int32.ofNat cs.length))]) (lenOf pd_31_27 rfl) rfl (Nat.le_of_eq rfl) (D31 hby 5 rfl) (fun _ _ => ⟨Nat.zero_le _, Nat.zero_le _, q2, rfl⟩)
  dsimp only [Pt.U, Pt.locs, Pt.cells, Pt.slots] at X5 l5 y5 z5 st5 e5
  subst l5 y5 z5
  obtain rfl : v5 = some (.int (Int32.ofNat (own_num q2 nn).length)) := (hv5 q2 rfl).trans (by rw [Jvm.Free.SBG.strSizeOfL_eq hn hnx, own_num_len])
  have e5 : T5.heap = h0 := e5.trans e4
  have N5 := N0
  obtain ⟨cq6, q6, q6'⟩ := E_a1.cell
  obtain ⟨_, _, ⟨T6, L6, k6, n6⟩, -, X6, ⟨Lc6, hQ6, l6, y6, z6⟩, st6⟩ := X5.privateBack hx (y := y_4) hown (zT hZ hw 92 rfl) (zT hZ hw 93 rfl) (mvT hZ (own_selP (zW hw 95 rfl) (zW hw 94 rfl) (zW hw 93 rfl) (by decide))) (Cond.privateMethod_at (mvP hZ (zW hw 94 rfl) (args := #[]))) (zT hZ hw 96 rfl) (by decide) (backOf (W := 0) (r16u l Z a0 hw [] a1 ((Int32.ofNat cs.length) + (Int32.ofNat (own_num q2 nn).length)) t0 cs c_ (cs.length + (own_num q2 nn).length) h0 n0 Z0 (Int32.ofNat_add _ _).symm SB g_a1 hq hc hc9) hZ (zW hw 96 rfl) (zW hw 47 rfl) (by decide) (by decide)) (g := (mkF m 16 #[.val (.ref a1), .val (.long q2), .second, .val (.int (Int32.ofNat cs.length)), .val (.int ((Int32.ofNat cs.length) + (Int32.ofNat (own_num q2 nn).length)))] [(.int ((Int32.ofNat cs.length) + (Int32.ofNat (own_num q2 nn).length))), .ref a1])) rfl (by rw [hml]; rfl) (Steps.refl _) (a := a1) (by rw [e5]; exact q6) q6' (argsL := [(.int ((Int32.ofNat cs.length) + (Int32.ofNat (own_num q2 nn).length)))]) (rest := []) (lenOf pd_8_6 rfl) rfl (Nat.le_of_eq rfl) (D31 hby 10 rfl) (fun _ _ => ⟨rfl, e5, (by decide : 0 + 1 ≤ _), (by decide : 0 + 142 ≤ _)⟩)
  dsimp only [Pt.U, Pt.locs, Pt.cells, Pt.slots] at X6 l6 y6 z6 st6 hQ6
  subst l6 y6 z6
  obtain ⟨rfl, N6q, K6, c6, t6, hP6, SB6, ht6⟩ := hQ6
  have hc6 : (cs.length + (own_num q2 nn).length) ≤ c6 ∧ c6 < 1000 := by unfold own_P at hP6; omega
  obtain ⟨E6, Fc6, F6n, Fv6, kd6, vd6, B6, hvd6, hcs6, htk6⟩ := id SB6
  have O6 := O.keep K6 (allS g_a1 (allS g_t0 all0))
  have Z6 := Nat.le_trans Z0 K6.1
  have g_t6 := own_t_ge Z0 g_t0 ht6
  obtain ⟨zc, SC6, hz6⟩ := CS.ext O6.2
  have N6 := Fr.app N5 N6q
  obtain ⟨cq7, kq7, q7a, q7b, q7c⟩ := isOf hZ rfl E6
  obtain ⟨_, _, ⟨T7, L7, k7, n7⟩, -, X7, ⟨Lc7, hQ7, l7, y7, z7⟩, st7⟩ := X6.virtualBack hx (y := y_8) hown (zT hZ hw 126 rfl) (zT hZ hw 127 rfl) (notFace_of_selects (args := #[]) (zT hZ hw 129 rfl)) (zT hZ hw 129 rfl) (zT hZ hw 128 rfl) (by decide) (backOf (W := 0) (r22 l Z a0 hw [] a1 zc (0 : Int32) T6.heap n0 Z6 SC6 Fc6 hz6 rfl) hZ (zW hw 130 rfl) (zW hw 47 rfl) (by decide) (by decide)) q7a q7c (g := (mkF m 20 #[.val (.ref a1), .val (.long q2), .second, .val (.int (Int32.ofNat cs.length)), .val (.int ((Int32.ofNat cs.length) + (Int32.ofNat (own_num q2 nn).length)))] [.ref a1])) rfl (by rw [hml]; rfl) (Steps.refl _) (argsL := []) (rest := []) (lenOf pd_21_19 rfl) rfl (Nat.le_of_eq rfl) (D31 hby 12 rfl) (fun _ _ => ⟨rfl, rfl, (by decide : 1 + 0 ≤ _), (by decide : 142 + 0 ≤ _)⟩)
  dsimp only [Pt.U, Pt.locs, Pt.cells, Pt.slots] at X7 l7 y7 z7 st7 hQ7
  subst l7 y7 z7
  obtain ⟨rfl, N7q, e7⟩ := hQ7
  have N7 := Fr.app N6 N7q
  obtain ⟨T9, X9, e9, st9⟩ := getF X7 hx hZ hown (host := "") (Or.inl (zW hw 51 rfl)) Via.refl e7 Fv6 (g := (mkF m 30 #[.val (.ref a1), .val (.long q2), .second, .val (.int (Int32.ofNat cs.length)), .val (.int ((Int32.ofNat cs.length) + (Int32.ofNat (own_num q2 nn).length)))] [.ref a1, (.int ((Int32.ofNat cs.length) + (Int32.ofNat (own_num q2 nn).length))), (.long q2)])) rfl rfl (D31 hby 17 rfl)
  obtain ⟨st_, d1_, D1_, d2_, D2_, tb1, on1, tb2, te2⟩ := id DG
  obtain ⟨cl6, Ar6, qb6, S6c, N6c, Hb6, Gb6⟩ := id B6
  have x3 : (Int32.ofNat c6).toNatClampNeg = c6 := own_cl c6 (by omega)
  let gg : own_G := ⟨q2, nn, (cs.length + (own_num q2 nn).length), t6, cl6, st_, d1_, D1_, d2_, D2_⟩
  have hroom : Jvm.Free.SBG.digitsL gg.n + Jvm.Free.SBG.GetCharsL.sgnL gg.x ≤ gg.idx := by show _ ≤ (cs.length + (own_num q2 nn).length); rw [own_num_len]; exact Nat.le_add_left _ _
  have hby6 : ∀ i, i < gg.A.slots.size → fits .byte (gg.A.slots.getD i .null) = true := fun i hi => by
    rw [Array.getD_eq_getD_getElem?, Hb6 i hi]; exact Gb6 i hi
  obtain ⟨v10, _, ⟨T10, L10, k10, n10⟩, -, X10, ⟨hv10, ho10, y10, z10, hz10, hk10, Lc10, l10, hL10⟩, st10⟩ := Jvm.LawKit.callS X9 hx (y := (⟨"java/lang/Long", "getChars", "(JI[B)I"⟩ : MethodName)) hown (zT hZ hw 178 rfl) (zT hZ hw 179 rfl) (zT hZ hw 175 rfl) (zT hZ hw 180 rfl) (by decide) (Jvm.Free.SBG.GetCharsL.pays gg 0 (own_tabG hZ hw) (zT hZ hw 175 rfl) (by decide) (by decide)) (g := (mkF m 33 #[.val (.ref a1), .val (.long q2), .second, .val (.int (Int32.ofNat cs.length)), .val (.int ((Int32.ofNat cs.length) + (Int32.ofNat (own_num q2 nn).length)))] [.ref t6, (.int ((Int32.ofNat cs.length) + (Int32.ofNat (own_num q2 nn).length))), (.long q2)])) rfl (by rw [hml]; rfl) (argsL := [(.long q2), (.int ((Int32.ofNat cs.length) + (Int32.ofNat (own_num q2 nn).length))), .ref t6]) (rest := []) (lenOf pd_31_28 rfl) rfl (Nat.le_of_eq rfl) (D31 hby 18 rfl) (fun vm₁ h_ => ⟨by rw [← Int32.ofNat_add], (by decide : 1 ≤ 1), (by decide : 142 ≤ 142), by rw [← Int32.ofNat_add]; exact own_gcP (U := T9.setVm vm₁) (n0 := n0) gg (wtrans (U := T9.setVm vm₁) hZ h_).alike (by show Old Z n0 T9.heap; rw [e9]; exact O6) (by show Arr Z T9.heap t6 cl6 .byte; rw [e9]; exact Ar6) g_t6 (by show cl6.slots.size < _; omega) (by show (cs.length + (own_num q2 nn).length) ≤ cl6.slots.size; rw [S6c, x3]; exact hc6.1) hroom hn hnx tb1 tb2⟩)
  dsimp only [Pt.U, Pt.locs, Pt.cells, Pt.slots] at X10 l10 y10 z10 st10 ho10 hz10 hk10
  subst l10 y10 z10
  subst hv10
  have hz10 : T10.heap.size = T6.heap.size := by rw [← e9]; exact hz10
  have hk10 : ∀ (y : Addr) (cy : Cell), y ≠ gg.da → T6.heap[y]? = some cy → T10.heap[y]? = some cy := by rw [← e9]; exact hk10
  have K10 : Keep T6.heap T10.heap [t6] := own_keepG gg hn hroom hby6 Ar6.1 ho10 hz10 hk10
  have V10 : Arv Z T10.heap t6 cl6.cls .byte (Int32.ofNat c6) _ (.int 0) := own_arvG gg c6 hn hroom hby6 Ar6 S6c N6c ho10
  have N10q : Fr n0 Lc10 := fun y_ hy_ => by rw [hL10 y_ hy_]; exact g_t6
  have hn2 : a1 ≠ t6 := Exa.neArv E6 B6 (zW hw 38 rfl)
  have F10n := F6n.keep K10 (ninS hn2 nin0)
  have E10 := E6.keep K10
  have N10 := Fr.app N7 N10q
  obtain ⟨T11, h11, X11, e11, W11, st11⟩ := putF X10 hx hZ hown (host := "") (Or.inl (zW hw 90 rfl)) Via.refl rfl F10n E10 (Or.inl (zW hw 91 rfl)) (zW hw 38 rfl) (ty := .int) (by decide) rfl rfl (g := (mkF m 55 #[.val (.ref a1), .val (.long q2), .second, .val (.int (Int32.ofNat cs.length)), .val (.int ((Int32.ofNat cs.length) + (Int32.ofNat (own_num q2 nn).length)))] [(.int ((Int32.ofNat cs.length) + (Int32.ofNat (own_num q2 nn).length))), .ref a1])) rfl rfl (D31 hby 23 rfl)
  have Fw11 := F10n.same W11
  have K11 : Keep h0 h11 [a1, t0] := (K6.trans K10 (allS (own_t_in ht6) all0)).wr W11 (Or.inl (List.mem_of_getElem? (i := 0) rfl))
  have N11 := Fr.snoc X11 N10 g_a1
  obtain ⟨fs, hr, hrun, hended, hW, hsame⟩ := X11.leave (v := some (.ref a1)) (fun h => by rw [Bd.returns] at h; cases h)
  refine ⟨_, _, pre0 _ ?_, hrun, hended, _, _, rfl, ?_, ⟨_, rfl⟩, hW, hsame.mono (by decide) (by decide)⟩
  · refine XS.aloadN X0.here hx rfl (D31 hby 0 rfl) rfl rfl ?_
    refine st4 _ ?_
    refine XS.istoreN X4.here hx rfl (D31 hby 2 rfl) rfl (l' := #[.val (.ref a1), .val (.long q2), .second, .val (.int (Int32.ofNat cs.length)), .unset]) rfl ?_
    refine XS.iloadN X4.here hx rfl (D31 hby 3 rfl) rfl ?_
    refine XS.lloadN X4.here hx rfl (D31 hby 4 rfl) rfl ?_
    refine st5 _ ?_
    refine XS.iadd X5.here hx rfl (D31 hby 6 rfl) rfl ?_
    refine XS.istore X5.here hx rfl (D31 hby 7 rfl) rfl (l' := #[.val (.ref a1), .val (.long q2), .second, .val (.int (Int32.ofNat cs.length)), .val (.int ((Int32.ofNat cs.length) + (Int32.ofNat (own_num q2 nn).length)))]) rfl ?_
    refine XS.aloadN X5.here hx rfl (D31 hby 8 rfl) rfl rfl ?_
    refine XS.iload X5.here hx rfl (D31 hby 9 rfl) rfl ?_
    refine st6.trans ?_
    refine XS.aloadN X6.here hx rfl (D31 hby 11 rfl) rfl rfl ?_
    refine st7.trans ?_
    refine XS.ifNo X7.here hx rfl (D31 hby 13 rfl) rfl ((if0 _ _).trans (feq (by decide : ¬ ((1 : Int32) = (0 : Int32)))).1) ?_
    refine XS.lloadN X7.here hx rfl (D31 hby 14 rfl) rfl ?_
    refine XS.iload X7.here hx rfl (D31 hby 15 rfl) rfl ?_
    refine XS.aloadN X7.here hx rfl (D31 hby 16 rfl) rfl rfl ?_
    refine st9 _ ?_
    refine st10 _ ?_
    refine XS.pop X10.here hx rfl (D31 hby 19 rfl) rfl rfl ?_
    refine XS.goto X10.here hx rfl (pc0 := 37) (pc' := 52) rfl (D31 hby 20 rfl) (by decide) (by decide) ?_
    refine XS.aloadN X10.here hx rfl (D31 hby 21 rfl) rfl rfl ?_
    refine XS.iload X10.here hx rfl (D31 hby 22 rfl) rfl ?_
    refine st11 _ ?_
    refine XS.aloadN X11.here hx rfl (D31 hby 24 rfl) rfl rfl ?_
    jvm_step X11.here [X11.here.top, hx, (D31 hby 25 rfl), X11.method', Bd.returns, Value.isRef, FieldType.isReference]
    first | (intro acts; rw [hr _ acts rfl rfl rfl]) | rw [hr _ _ rfl rfl rfl]
    exact Steps.refl _
  · show Q13 Z a1 t0 (cs ++ (own_num q2 nn)) c_ (cs.length + (own_num q2 nn).length) h0 n0 _ T11.heap _
    rw [e11]
    have hl10 : (Jvm.Free.SBG.GetCharsL.outCell gg).slots.toList.length = c6 := by rw [Array.length_toList, Jvm.Free.SBG.outCellL_size]; show cl6.slots.size = c6; omega
    refine ⟨rfl, N11, K11, c6, t6, hP6, ⟨E10.wr W11, (Fc6.keep K10 (ninS hn2 nin0)).other W11 (Or.inr (slot_ne (Or.inl (zW hw 54 rfl)) (Or.inl (zW hw 91 rfl)) (by decide) (t := .byte) (t' := .int) (by decide) (by decide))), ?_, (Fv6.keep K10 (ninS hn2 nin0)).other W11 (Or.inr (slot_ne (Or.inl (zW hw 52 rfl)) (Or.inl (zW hw 91 rfl)) (by decide) (t := (.array .byte)) (t' := .int) (by decide) (by decide))), _, _, V10.other W11 hn2.symm, hl10, ?_, ?_⟩, ht6⟩
    · rw [List.length_append, Int32.ofNat_add]; exact Fw11
    · rw [List.length_append]; exact hc6.1
    · rw [List.length_append]
      exact own_gcl gg on1 te2 hn cs vd6 rfl (by show (cs.length + (own_num q2 nn).length) ≤ cl6.slots.size; omega) Hb6 htk6
def l30 : List (Nat × Instr × Nat) := [(0, .aload_n 0, 1), (1, .lload_n 1, 1), (2, .invokespecial 56, 3), (5, .pop, 1), (6, .aload_n 0, 1), (7, .areturn, 1)]
theorem D30 {c : Code} (h : c.code = jdk_67_method_16_code) : zQ c l30 := zD h (by decide +kernel)
theorem pd_30_26 : parseMethodDescriptor "(J)Ljava/lang/AbstractStringBuilder;" = some ⟨[.long], some (.object "java/lang/AbstractStringBuilder")⟩ := by decide +kernel
theorem ef_30 (m : MethodId) (x0 : Addr) (x1 : Int64) : entryFrame m #[.ref x0, (.long x1)] 3 = mkF m 0 #[.val (.ref x0), .val (.long x1), .second] [] := by first | (simp [entryFrame, mkF, argsToLocals, Value.category]; done) | rfl
theorem r30u (l : Launch) (Z : State) (a0 : Array Value) (hw : zH Z a0) (ws : List Jvm.Cond) (a1 : Addr) (q2 : Int64) (t0 : Addr) (cs : List Int32) (c_ nn : Nat) (h0 : Heap) (n0 : Nat) (Z0 : n0 ≤ h0.size) (SB : own_SBv Z h0 a1 cs c_ t0) (g_a1 : n0 ≤ a1) (g_t0 : n0 ≤ t0) (CS : own_CS Z Z.heap) (O : Old Z n0 h0) (hn : nn ≤ 2 ^ 63) (hnx : (if q2 < 0 then q2 else -q2) = Jvm.Free.SBG.negL nn) (DG : own_DG Z) (hq : (cs.length + (own_num q2 nn).length) ≤ 2 * c_ + 2) (hc : c_ ≤ 70 ∨ (cs.length + (own_num q2 nn).length) ≤ c_) (hc9 : c_ < 1000) :
    zM l Z h0 ws y_16 jdk_67_method_16_code 3 (some (.object "java/lang/StringBuilder")) (zr 5 1 142 118) #[.ref a1, (.long q2)] (Q13 Z a1 t0 (cs ++ (own_num q2 nn)) c_ (cs.length + (own_num q2 nn).length) h0 n0) := by
  refine MetFree.of_bodySF (plainFor_of_name pn_39) hisR ?_
  intro p e s m args below meth c s₁ Bd hml0 hP hK
  obtain ⟨rfl, hZ, hh⟩ := hP
  have hx := Bd.exec
  have E_a1 := SB.1
  have hby := Bd.bytes
  have hml : c.maxLocals = 3 := hml0
  have hown : s.vm.findClass "java/lang/StringBuilder" = some m.cls := findClass_of_methodNamed Bd.named
  have X0 : Stand p l e (zr 5 1 142 118) s m #[.ref a1, (.long q2)] below meth c s₁ [] 0 0 := Stand.of_body Bd
  have e0 : s₁.heap = h0 := by rw [← hh, Bd.state]; rfl
  have N0 := Fr.nil n0
  have pre0 := zP p e below s₁ (ef_30 m a1 q2)
  obtain ⟨_, _, ⟨T3, L3, k3, n3⟩, -, X3, ⟨Lc3, hQ3, l3, y3, z3⟩, st3⟩ := superBack X0 hx hZ (y := y_25) hown (zW hw 169 rfl) (own_same (y := y_25) (own_nf (notFace_of_selects (zW hw 95 rfl)) (zW hw 93 rfl) rfl) (zW hw 170 rfl) (by decide)) (zW hw 170 rfl) (zW hw 77 rfl) (by decide) (backOf (W := 0) (r31u l Z a0 hw [] a1 q2 t0 cs c_ nn h0 n0 Z0 SB g_a1 g_t0 CS O hn hnx DG hq hc hc9) hZ (zW hw 172 rfl) (zW hw 47 rfl) (by decide) (by decide)) e0 (Ins.self E_a1) (g := (mkF m 2 #[.val (.ref a1), .val (.long q2), .second] [(.long q2), .ref a1])) rfl (by rw [hml]; rfl) (zW hw 172 rfl) (argsL := [(.long q2)]) (rest := []) (lenOf pd_30_26 rfl) rfl (Nat.le_of_eq rfl) (D30 hby 2 rfl) (fun _ _ => ⟨rfl, e0, (by decide : 0 + 1 ≤ _), (by decide : 0 + 142 ≤ _)⟩)
  dsimp only [Pt.U, Pt.locs, Pt.cells, Pt.slots] at X3 l3 y3 z3 st3 hQ3
  subst l3 y3 z3
  obtain ⟨rfl, N3q, Qq⟩ := hQ3
  have N3 := Fr.app N0 N3q
  obtain ⟨fs, hr, hrun, hended, hW, hsame⟩ := X3.leave (v := some (.ref a1)) (fun h => by rw [Bd.returns] at h; cases h)
  refine ⟨_, _, pre0 _ ?_, hrun, hended, _, _, rfl, ?_, ⟨_, rfl⟩, hW, hsame.mono (by decide) (by decide)⟩
  · refine XS.aloadN X0.here hx rfl (D30 hby 0 rfl) rfl rfl ?_
    refine XS.lloadN X0.here hx rfl (D30 hby 1 rfl) rfl ?_
    refine st3.trans ?_
    refine XS.pop X3.here hx rfl (D30 hby 3 rfl) rfl rfl ?_
    refine XS.aloadN X3.here hx rfl (D30 hby 4 rfl) rfl rfl ?_
    jvm_step X3.here [X3.here.top, hx, (D30 hby 5 rfl), X3.method', Bd.returns, Value.isRef, FieldType.isReference]
    first | (intro acts; rw [hr _ acts rfl rfl rfl]) | rw [hr _ _ rfl rfl rfl]
    exact Steps.refl _
  · show Q13 Z a1 t0 (cs ++ (own_num q2 nn)) c_ (cs.length + (own_num q2 nn).length) h0 n0 _ T3.heap _
    exact ⟨rfl, N3, Qq⟩
def l43 : List (Nat × Instr × Nat) := [(0, .iload_n 1, 1), (1, .iload_n 0, 1), (2, .if_icmp .ge 35, 3), (37, .return_, 1)]
theorem D43 {c : Code} (h : c.code = jdk_65_method_131_code) : zQ c l43 := zD h (by decide +kernel)
theorem r43 (l : Launch) (Z : State) (a0 : Array Value) (hw : zH Z a0) (ws : List Jvm.Cond) (p1 : Int32) (p2 : Int32) (h0 : Heap) (n0 : Nat) (Z0 : n0 ≤ h0.size) (hc2 : ¬ (p2 < p1)) :
    zM l Z h0 ws y_35 jdk_65_method_131_code 2 none (zr 0 0 0 0) #[.int p1, .int p2] (QR (none) h0 n0) := by
  refine MetFree.of_bodySF (plainFor_of_name pn_27) hisR ?_
  intro p e s m args below meth c s₁ Bd hml0 hP hK
  obtain ⟨rfl, hZ, hh⟩ := hP
  have hx := Bd.exec
  have hby := Bd.bytes
  have hml : c.maxLocals = 2 := hml0
  have hown : s.vm.findClass "java/util/Arrays" = some m.cls := findClass_of_methodNamed Bd.named
  have X0 : Stand p l e (zr 0 0 0 0) s m #[.int p1, .int p2] below meth c s₁ [] 0 0 := Stand.of_body Bd
  have e0 : s₁.heap = h0 := by rw [← hh, Bd.state]; rfl
  have N0 := Fr.nil n0
  have pre0 := zP p e below s₁ (ef_28 m p1 p2)
  obtain ⟨fs, hr, hrun, hended, hW, hsame⟩ := X0.leave (v := none) (fun _ => rfl)
  refine ⟨_, _, pre0 _ ?_, hrun, hended, _, _, rfl, ?_, ⟨_, rfl⟩, hW, hsame.mono (by decide) (by decide)⟩
  · refine XS.iloadN X0.here hx rfl (D43 hby 0 rfl) rfl ?_
    refine XS.iloadN X0.here hx rfl (D43 hby 1 rfl) rfl ?_
    refine XS.icmpYes X0.here hx rfl (pc0 := 2) (pc' := 37) rfl (D43 hby 2 rfl) rfl (flt hc2).2.1 (by decide) (by decide) ?_
    exact X0.returnOut hx Bd.returns (D43 hby 3 rfl) hr
  · show QR (none) h0 n0 _ s₁.heap _
    rw [e0]
    exact ⟨rfl, N0, rfl⟩
theorem own_rngt (vs : List Value) (d : Value) (n : Nat) (h : n ≤ vs.length) : ((List.range n).map fun i => vs.getD (0 + i) d) = vs.take n := by
  apply List.ext_getElem
  · simp; omega
  · intro i h1 h2
    have h3 : i < vs.length := by simp at h2; omega
    simp [List.getD_eq_getElem?_getD, List.getElem?_eq_getElem h3]
def Q42 (Z : State) (n : Nat) (vs : List Value) (h0 : Heap) (n0 : Nat) (v : Option Value) (h : Heap) (L : List Loc) : Prop := v = some (.ref h0.size) ∧ Fr n0 L ∧ Keep h0 h [] ∧ ∃ k : ClassId, Arv Z h h0.size k .byte (Int32.ofNat n) vs (.int 0)
def Q37 (Z : State) (a1 : Addr) (cs : List Int32) (h0 : Heap) (n0 : Nat) (v : Option Value) (h : Heap) (L : List Loc) : Prop := v = none ∧ Fr n0 L ∧ Keep h0 h [a1] ∧ own_Str Z h a1 cs
def Q35 (Z : State) (cs : List Int32) (h0 : Heap) (n0 : Nat) (v : Option Value) (h : Heap) (L : List Loc) : Prop := v = some (.ref h0.size) ∧ Fr n0 L ∧ Keep h0 h [] ∧ own_Str Z h h0.size cs
def l42 : List (Nat × Instr × Nat) := [(0, .iload_n 1, 1), (1, .iload_n 2, 1), (2, .invokestatic 343, 3), (5, .iload_n 2, 1), (6, .iload_n 1, 1), (7, .isub, 1), (8, .istore_n 3, 1), (9, .iload_n 3, 1), (10, .newarray .byte, 2), (12, .astore 4, 2), (14, .aload_n 0, 1), (15, .iload_n 1, 1), (16, .aload 4, 2), (18, .iconst 0, 1), (19, .aload_n 0, 1), (20, .arraylength, 1), (21, .iload_n 1, 1), (22, .isub, 1), (23, .iload_n 3, 1), (24, .invokestatic 304, 3), (27, .invokestatic 150, 3), (30, .aload 4, 2), (32, .areturn, 1)]
theorem D42 {c : Code} (h : c.code = jdk_65_method_133_code) : zQ c l42 := zD h (by decide +kernel)
theorem pd_42_34 : parseMethodDescriptor "(II)V" = some ⟨[.int, .int], none⟩ := by decide +kernel
theorem ef_42 (m : MethodId) (x0 : Addr) (x1 : Int32) (x2 : Int32) : entryFrame m #[.ref x0, .int x1, .int x2] 5 = mkF m 0 #[.val (.ref x0), .val (.int x1), .val (.int x2), .unset, .unset] [] := by first | (simp [entryFrame, mkF, argsToLocals, Value.category]; done) | rfl
theorem r42 (l : Launch) (Z : State) (a0 : Array Value) (hw : zH Z a0) (ws : List Jvm.Cond) (a1 : Addr) (n_ c_ : Nat) (kd : ClassId) (vd : List Value) (h0 : Heap) (n0 : Nat) (Z0 : n0 ≤ h0.size) (B : Arv Z h0 a1 kd .byte (Int32.ofNat c_) vd (.int 0)) (hvd : vd.length = c_) (hn : n_ ≤ c_) (hc : c_ ≤ 142) :
    zM l Z h0 ws y_36 jdk_65_method_133_code 5 (some (.array .byte)) (zr 1 1 142 18) #[.ref a1, .int 0, (.int (Int32.ofNat n_))] (Q42 Z n_ (vd.take n_) h0 n0) := by
  refine MetFree.of_bodySF (plainFor_of_name pn_27) hisR ?_
  intro p e s m args below meth c s₁ Bd hml0 hP hK
  obtain ⟨rfl, hZ, hh⟩ := hP
  have hx := Bd.exec
  obtain ⟨cl_a1, Ar_a1, qb, S_a1, N_a1, Hb, Gb⟩ := id B
  have eD : ((Int32.ofNat n_) - (0 : Int32)) = (Int32.ofNat n_) := Int32.sub_zero _
  have eC : ((Int32.ofNat c_) - (0 : Int32)) = (Int32.ofNat c_) := Int32.sub_zero _
  have xD : ((Int32.ofNat n_) - (0 : Int32)).toNatClampNeg = n_ := by rw [eD]; exact own_cl n_ (by omega)
  have x3 : (Int32.ofNat c_).toNatClampNeg = c_ := own_cl c_ (by omega)
  have hnn : ¬ ((Int32.ofNat n_) - (0 : Int32)) < 0 := by rw [eD]; exact own_nn n_ (by omega)
  have hby := Bd.bytes
  have hml : c.maxLocals = 5 := hml0
  have hown : s.vm.findClass "java/util/Arrays" = some m.cls := findClass_of_methodNamed Bd.named
  have X0 : Stand p l e (zr 1 1 142 18) s m #[.ref a1, .int 0, (.int (Int32.ofNat n_))] below meth c s₁ [] 0 0 := Stand.of_body Bd
  have e0 : s₁.heap = h0 := by rw [← hh, Bd.state]; rfl
  have N0 := Fr.nil n0
  have pre0 := zP p e below s₁ (ef_42 m a1 (0 : Int32) (Int32.ofNat n_))
  obtain ⟨_, _, ⟨T4, L4, k4, n4⟩, -, X4, ⟨Lc4, hQ4, l4, y4, z4⟩, st4⟩ := Jvm.LawKit.callS X0 hx (y := y_35) hown (zT hZ hw 221 rfl) (zT hZ hw 222 rfl) (zT hZ hw 153 rfl) (zT hZ hw 223 rfl) (by decide) (backOf (W := 0) (r43 l Z a0 hw [] (0 : Int32) (Int32.ofNat n_) h0 n0 Z0 (own_nn n_ (by omega))) hZ (zW hw 223 rfl) (zW hw 153 rfl) (by decide) (by decide)) (g := (mkF m 2 #[.val (.ref a1), .val (.int 0), .val (.int (Int32.ofNat n_)), .unset, .unset] [(.int (Int32.ofNat n_)), .int 0])) rfl (by rw [hml]; rfl) (argsL := [.int 0, (.int (Int32.ofNat n_))]) (rest := []) (lenOf pd_42_34 rfl) rfl (Nat.le_of_eq rfl) (D42 hby 2 rfl) (fun _ _ => ⟨rfl, e0, (by decide : 0 + 0 ≤ _), (by decide : 0 + 0 ≤ _)⟩)
  dsimp only [Pt.U, Pt.locs, Pt.cells, Pt.slots] at X4 l4 y4 z4 st4 hQ4
  subst l4 y4 z4
  obtain ⟨rfl, N4q, e4⟩ := hQ4
  have N4 := Fr.app N0 N4q
  obtain ⟨T5, h5, k5, X5, e5, E5, A5, st5⟩ := newP X4 hx hZ (zW hw 19 rfl) e4 (g := (mkF m 10 #[.val (.ref a1), .val (.int 0), .val (.int (Int32.ofNat n_)), .val (.int ((Int32.ofNat n_) - (0 : Int32))), .unset] [(.int ((Int32.ofNat n_) - (0 : Int32)))])) rfl (D42 hby 8 rfl) rfl hnn (cap := 142) (by rw [xD]; omega) (by decide) (by decide) (by decide)
  obtain ⟨b5, g5⟩ : ∃ z, z = h0.size := ⟨_, rfl⟩
  rw [← g5] at A5 st5
  have V_b5 : Arv Z h5 b5 k5 .byte ((Int32.ofNat n_) - (0 : Int32)) ([] ++ List.replicate n_ (.int 0)) (.int 0) := (Arv.new A5 hnn).pad (pad_rep [] (.int 0) n_)
  have g_b5 : n0 ≤ b5 := Nat.le_trans Z0 (Nat.le_of_eq g5.symm)
  have sz_b5 : h0.size ≤ b5 := (Nat.le_trans (Keep.refl h0 []).1 (Nat.le_of_eq g5.symm))
  have K5 : Keep h0 h5 [] := (Keep.refl h0 []).ext E5
  obtain ⟨_, _, ⟨T6, L6, k6, n6⟩, -, X6, ⟨Lc6, hQ6, l6, y6, z6⟩, st6⟩ := Jvm.LawKit.callS X5 hx (y := y_9) hown (zT hZ hw 155 rfl) (zT hZ hw 156 rfl) (zT hZ hw 147 rfl) (zT hZ hw 157 rfl) (by decide) (backOf (W := 4) (r28 l Z a0 hw [] ((Int32.ofNat c_) - (0 : Int32)) ((Int32.ofNat n_) - (0 : Int32)) ((Int32.ofNat n_) - (0 : Int32)) h5 n0 (Nat.le_trans Z0 E5.1) (by rw [eC, eD, own_min_n _ _ (by omega) (by omega)]; congr 1; omega)) hZ (zW hw 157 rfl) (zW hw 147 rfl) (by decide) (by decide)) (g := (mkF m 24 #[.val (.ref a1), .val (.int 0), .val (.int (Int32.ofNat n_)), .val (.int ((Int32.ofNat n_) - (0 : Int32))), .val (.ref b5)] [(.int ((Int32.ofNat n_) - (0 : Int32))), (.int ((Int32.ofNat c_) - (0 : Int32))), .int 0, .ref b5, .int 0, .ref a1])) rfl (by rw [hml]; rfl) (argsL := [(.int ((Int32.ofNat c_) - (0 : Int32))), (.int ((Int32.ofNat n_) - (0 : Int32)))]) (rest := [.int 0, .ref b5, .int 0, .ref a1]) (lenOf pd_25_23 rfl) rfl (Nat.le_of_eq rfl) (D42 hby 19 rfl) (fun _ _ => ⟨rfl, e5, (by decide : 1 + 0 ≤ _), (by decide : 142 + 0 ≤ _)⟩)
  dsimp only [Pt.U, Pt.locs, Pt.cells, Pt.slots] at X6 l6 y6 z6 st6 hQ6
  subst l6 y6 z6
  obtain ⟨rfl, N6q, e6⟩ := hQ6
  have N6 := Fr.app N4 N6q
  obtain ⟨T7, h7, L7, X7, e7, N7, K7, V7, st7⟩ := cpA X6 hx hZ hown (zW hw 158 rfl) (zW hw 116 rfl) (zW hw 114 rfl) (zW hw 115 rfl) e6 (B.ext E5) V_b5 (Or.inl ⟨rfl, rfl⟩) (by decide) (by decide) hnn (by rw [xD, x3]; show 0 + n_ ≤ c_; omega) (by rw [xD]; show 0 + n_ ≤ n_; omega) rfl (by rw [xD]; simp) N6 g_b5 (g := (mkF m 27 #[.val (.ref a1), .val (.int 0), .val (.int (Int32.ofNat n_)), .val (.int ((Int32.ofNat n_) - (0 : Int32))), .val (.ref b5)] [(.int ((Int32.ofNat n_) - (0 : Int32))), .int 0, .ref b5, .int 0, .ref a1])) rfl (by rw [hml]; rfl) (rest := []) rfl (D42 hby 20 rfl) (by decide) (W := 0) (Nat.le_of_eq rfl) (by decide)
  obtain ⟨fs, hr, hrun, hended, hW, hsame⟩ := X7.leave (v := some (.ref b5)) (fun h => by rw [Bd.returns] at h; cases h)
  refine ⟨_, _, pre0 _ ?_, hrun, hended, _, _, rfl, ?_, ⟨_, rfl⟩, hW, hsame.mono (by decide) (by decide)⟩
  · refine XS.iloadN X0.here hx rfl (D42 hby 0 rfl) rfl ?_
    refine XS.iloadN X0.here hx rfl (D42 hby 1 rfl) rfl ?_
    refine st4 _ ?_
    refine XS.iloadN X4.here hx rfl (D42 hby 3 rfl) rfl ?_
    refine XS.iloadN X4.here hx rfl (D42 hby 4 rfl) rfl ?_
    refine XS.isub X4.here hx rfl (D42 hby 5 rfl) rfl ?_
    refine XS.istoreN X4.here hx rfl (D42 hby 6 rfl) rfl (l' := #[.val (.ref a1), .val (.int 0), .val (.int (Int32.ofNat n_)), .val (.int ((Int32.ofNat n_) - (0 : Int32))), .unset]) rfl ?_
    refine XS.iloadN X4.here hx rfl (D42 hby 7 rfl) rfl ?_
    refine st5 _ ?_
    refine XS.astore X5.here hx rfl (D42 hby 9 rfl) rfl rfl (l' := #[.val (.ref a1), .val (.int 0), .val (.int (Int32.ofNat n_)), .val (.int ((Int32.ofNat n_) - (0 : Int32))), .val (.ref b5)]) rfl ?_
    refine XS.aloadN X5.here hx rfl (D42 hby 10 rfl) rfl rfl ?_
    refine XS.iloadN X5.here hx rfl (D42 hby 11 rfl) rfl ?_
    refine XS.aload X5.here hx rfl (D42 hby 12 rfl) rfl rfl ?_
    refine XS.iconst X5.here hx rfl (D42 hby 13 rfl) ?_
    refine XS.aloadN X5.here hx rfl (D42 hby 14 rfl) rfl rfl ?_
    refine X5.arraylength hx (by rw [e5]; exact (Ar_a1.ext E5).1) (State.isArrayOf_alike hZ.alike Ar_a1.2.1) (g := (mkF m 20 #[.val (.ref a1), .val (.int 0), .val (.int (Int32.ofNat n_)), .val (.int ((Int32.ofNat n_) - (0 : Int32))), .val (.ref b5)] [.ref a1, .int 0, .ref b5, .int 0, .ref a1])) rfl rfl (D42 hby 15 rfl) _ ?_
    rw [len_of S_a1 N_a1]
    refine XS.iloadN X5.here hx rfl (D42 hby 16 rfl) rfl ?_
    refine XS.isub X5.here hx rfl (D42 hby 17 rfl) rfl ?_
    refine XS.iloadN X5.here hx rfl (D42 hby 18 rfl) rfl ?_
    refine st6 _ ?_
    refine st7 _ ?_
    refine XS.aload X7.here hx rfl (D42 hby 21 rfl) rfl rfl ?_
    jvm_step X7.here [X7.here.top, hx, (D42 hby 22 rfl), X7.method', Bd.returns, Value.isRef, FieldType.isReference]
    first | (intro acts; rw [hr _ acts rfl rfl rfl]) | rw [hr _ _ rfl rfl rfl]
    exact Steps.refl _
  · show Q42 Z n_ (vd.take n_) h0 n0 _ T7.heap _
    rw [e7]
    have e0_ : (0 : Int32).toNatClampNeg = 0 := by decide
    rw [xD] at V7
    simp only [e0_] at V7
    rw [own_rngt vd _ n_ (by omega)] at V7
    have V8 : Arv Z h7 b5 k5 .byte (Int32.ofNat n_) (vd.take n_) (.int 0) := by
      have eL : List.take 0 ([] ++ List.replicate n_ (Value.int 0)) ++ List.take n_ vd ++ List.drop (0 + n_) ([] ++ List.replicate n_ (Value.int 0)) = vd.take n_ := by simp
      rw [← eD]; rw [← eL]; exact V7
    exact ⟨by rw [g5], N7, K5.trans K7 (allS (Or.inr sz_b5) all0), k5, by rw [← g5]; exact V8⟩
def l41 : List (Nat × Instr × Nat) := [(0, .iload_n 1, 1), (1, .ifCond .ne 9, 3), (4, .iload_n 2, 1), (5, .aload_n 0, 1), (6, .arraylength, 1), (7, .if_icmp .eq 10, 3), (10, .aload_n 0, 1), (11, .iload_n 1, 1), (12, .iload_n 2, 1), (13, .invokestatic 339, 3), (16, .areturn, 1)]
theorem D41 {c : Code} (h : c.code = jdk_65_method_132_code) : zQ c l41 := zD h (by decide +kernel)
theorem pd_41_33 : parseMethodDescriptor "([BII)[B" = some ⟨[(.array .byte), .int, .int], some (.array .byte)⟩ := by decide +kernel
theorem ef_41 (m : MethodId) (x0 : Addr) (x1 : Int32) (x2 : Int32) : entryFrame m #[.ref x0, .int x1, .int x2] 3 = mkF m 0 #[.val (.ref x0), .val (.int x1), .val (.int x2)] [] := by first | (simp [entryFrame, mkF, argsToLocals, Value.category]; done) | rfl
theorem r41 (l : Launch) (Z : State) (a0 : Array Value) (hw : zH Z a0) (ws : List Jvm.Cond) (a1 : Addr) (n_ c_ : Nat) (kd : ClassId) (vd : List Value) (h0 : Heap) (n0 : Nat) (Z0 : n0 ≤ h0.size) (B : Arv Z h0 a1 kd .byte (Int32.ofNat c_) vd (.int 0)) (hvd : vd.length = c_) (hn : n_ < c_) (hc : c_ ≤ 142) :
    zM l Z h0 ws y_37 jdk_65_method_132_code 3 (some (.array .byte)) (zr 2 1 142 34) #[.ref a1, .int 0, (.int (Int32.ofNat n_))] (Q42 Z n_ (vd.take n_) h0 n0) := by
  refine MetFree.of_bodySF (plainFor_of_name pn_27) hisR ?_
  intro p e s m args below meth c s₁ Bd hml0 hP hK
  obtain ⟨rfl, hZ, hh⟩ := hP
  have hx := Bd.exec
  obtain ⟨cl_a1, Ar_a1, qb, S_a1, N_a1, Hb, Gb⟩ := id B
  have hc1 : (0 : Int32) = (0 : Int32) := rfl
  have hc7 : ¬ ((Int32.ofNat n_) = (Int32.ofNat c_)) := fun q_ => by have := (own_eq _ _ (by omega) (by omega)).mp q_; omega
  have hby := Bd.bytes
  have hml : c.maxLocals = 3 := hml0
  have hown : s.vm.findClass "java/util/Arrays" = some m.cls := findClass_of_methodNamed Bd.named
  have X0 : Stand p l e (zr 2 1 142 34) s m #[.ref a1, .int 0, (.int (Int32.ofNat n_))] below meth c s₁ [] 0 0 := Stand.of_body Bd
  have e0 : s₁.heap = h0 := by rw [← hh, Bd.state]; rfl
  have N0 := Fr.nil n0
  have pre0 := zP p e below s₁ (ef_41 m a1 (0 : Int32) (Int32.ofNat n_))
  obtain ⟨_, _, ⟨T4, L4, k4, n4⟩, -, X4, ⟨Lc4, hQ4, l4, y4, z4⟩, st4⟩ := Jvm.LawKit.callS X0 hx (y := y_36) hown (zT hZ hw 218 rfl) (zT hZ hw 219 rfl) (zT hZ hw 153 rfl) (zT hZ hw 220 rfl) (by decide) (backOf (W := 0) (r42 l Z a0 hw [] a1 n_ c_ kd vd h0 n0 Z0 B hvd (by omega) hc) hZ (zW hw 220 rfl) (zW hw 153 rfl) (by decide) (by decide)) (g := (mkF m 13 #[.val (.ref a1), .val (.int 0), .val (.int (Int32.ofNat n_))] [(.int (Int32.ofNat n_)), .int 0, .ref a1])) rfl (by rw [hml]; rfl) (argsL := [.ref a1, .int 0, (.int (Int32.ofNat n_))]) (rest := []) (lenOf pd_41_33 rfl) rfl (Nat.le_of_eq rfl) (D41 hby 9 rfl) (fun _ _ => ⟨rfl, e0, (by decide : 0 + 1 ≤ _), (by decide : 0 + 142 ≤ _)⟩)
  dsimp only [Pt.U, Pt.locs, Pt.cells, Pt.slots] at X4 l4 y4 z4 st4 hQ4
  subst l4 y4 z4
  obtain ⟨rfl, N4q, Qq⟩ := hQ4
  have N4 := Fr.app N0 N4q
  obtain ⟨fs, hr, hrun, hended, hW, hsame⟩ := X4.leave (v := some (.ref h0.size)) (fun h => by rw [Bd.returns] at h; cases h)
  refine ⟨_, _, pre0 _ ?_, hrun, hended, _, _, rfl, ?_, ⟨_, rfl⟩, hW, hsame.mono (by decide) (by decide)⟩
  · refine XS.iloadN X0.here hx rfl (D41 hby 0 rfl) rfl ?_
    refine XS.ifNo X0.here hx rfl (D41 hby 1 rfl) rfl ((if0 _ _).trans (teq hc1).2) ?_
    refine XS.iloadN X0.here hx rfl (D41 hby 2 rfl) rfl ?_
    refine XS.aloadN X0.here hx rfl (D41 hby 3 rfl) rfl rfl ?_
    refine X0.arraylength hx (by rw [e0]; exact Ar_a1.1) (State.isArrayOf_alike hZ.alike Ar_a1.2.1) (g := (mkF m 6 #[.val (.ref a1), .val (.int 0), .val (.int (Int32.ofNat n_))] [.ref a1, (.int (Int32.ofNat n_))])) rfl rfl (D41 hby 4 rfl) _ ?_
    rw [len_of S_a1 N_a1]
    refine XS.icmpNo X0.here hx rfl (D41 hby 5 rfl) rfl (feq hc7).1 ?_
    refine XS.aloadN X0.here hx rfl (D41 hby 6 rfl) rfl rfl ?_
    refine XS.iloadN X0.here hx rfl (D41 hby 7 rfl) rfl ?_
    refine XS.iloadN X0.here hx rfl (D41 hby 8 rfl) rfl ?_
    refine st4 _ ?_
    jvm_step X4.here [X4.here.top, hx, (D41 hby 10 rfl), X4.method', Bd.returns, Value.isRef, FieldType.isReference]
    first | (intro acts; rw [hr _ acts rfl rfl rfl]) | rw [hr _ _ rfl rfl rfl]
    exact Steps.refl _
  · show Q42 Z n_ (vd.take n_) h0 n0 _ T4.heap _
    exact ⟨rfl, N4, Qq⟩
def l37 : List (Nat × Instr × Nat) := [(0, .aload_n 0, 1), (1, .invokespecial 1, 3), (4, .aload_n 1, 1), (5, .invokevirtual 552, 3), (8, .astore_n 3, 1), (9, .aload_n 1, 1), (10, .invokevirtual 549, 3), (13, .istore 4, 2), (15, .aload_n 1, 1), (16, .invokevirtual 1047, 3), (19, .ifCond .eq 22, 3), (22, .aload_n 0, 1), (23, .iconst 0, 1), (24, .putfield 15, 3), (27, .aload_n 0, 1), (28, .aload_n 3, 1), (29, .iconst 0, 1), (30, .iload 4, 2), (32, .invokestatic 54, 3), (35, .putfield 9, 3), (38, .goto 59, 3), (97, .return_, 1)]
theorem D37 {c : Code} (h : c.code = jdk_42_method_150_code) : zQ c l37 := zD h (by decide +kernel)
theorem pd_37_32 : parseMethodDescriptor "()[B" = some ⟨[], some (.array .byte)⟩ := by decide +kernel
theorem ef_37 (m : MethodId) (x0 : Addr) (x1 : Addr) : entryFrame m #[.ref x0, .ref x1, .null] 5 = mkF m 0 #[.val (.ref x0), .val (.ref x1), .val .null, .unset, .unset] [] := by first | (simp [entryFrame, mkF, argsToLocals, Value.category]; done) | rfl
theorem r37 (l : Launch) (Z : State) (a0 : Array Value) (hw : zH Z a0) (ws : List Jvm.Cond) (a1 : Addr) (a2 : Addr) (tb : Addr) (cs : List Int32) (c_ : Nat) (u_coder_a1 : Value) (u_value_a1 : Value) (h0 : Heap) (n0 : Nat) (Z0 : n0 ≤ h0.size) (SB : own_SBv Z h0 a2 cs c_ tb) (E_a1 : Exa Z h0 a1 "java/lang/String") (F_coder_a1 : Fld Z h0 a1 "java/lang/String" "coder" "B" u_coder_a1) (g_a1 : n0 ≤ a1) (F_value_a1 : Fld Z h0 a1 "java/lang/String" "value" "[B" u_value_a1) (CS : own_CS Z h0) (hn : cs.length < c_) (hc : c_ ≤ 142) :
    zM l Z h0 ws y_38 jdk_42_method_150_code 5 none (zr 3 1 142 50) #[.ref a1, .ref a2, .null] (Q37 Z a1 cs h0 n0) := by
  refine MetFree.of_bodySF (plainFor_of_name pn_15) hisR ?_
  intro p e s m args below meth c s₁ Bd hml0 hP hK
  obtain ⟨rfl, hZ, hh⟩ := hP
  have hx := Bd.exec
  obtain ⟨E_a2, F_c2, F_n2, F_v2, kd, vd, B, hvd, hcs, htk⟩ := id SB
  obtain ⟨zc, SC, hz⟩ := id CS
  have hby := Bd.bytes
  have hml : c.maxLocals = 5 := hml0
  have hown : s.vm.findClass "java/lang/String" = some m.cls := findClass_of_methodNamed Bd.named
  have hnm := (name_of_methodNamed Bd.named Bd.method).1
  have X0 : Stand p l e (zr 3 1 142 50) s m #[.ref a1, .ref a2, .null] below meth c s₁ [] 0 0 := Stand.of_body Bd
  have e0 : s₁.heap = h0 := by rw [← hh, Bd.state]; rfl
  have N0 := Fr.nil n0
  have pre0 := zP p e below s₁ (ef_37 m a1 a2)
  obtain ⟨T3, X3, e3, st3⟩ := initO X0 hx hZ hown (zW hw 11 rfl) (zW hw 12 rfl) (zW hw 13 rfl) e0 (g := (mkF m 1 #[.val (.ref a1), .val (.ref a2), .val .null, .unset, .unset] [.ref a1])) rfl (by rw [hml]; rfl) rfl (D37 hby 1 rfl) (by decide) (W := 0) (Nat.le_of_eq rfl) (by decide)
  obtain ⟨cq4, kq4, q4a, q4b, q4c⟩ := isOf hZ e3 E_a2
  obtain ⟨_, _, ⟨T4, L4, k4, n4⟩, -, X4, ⟨Lc4, hQ4, l4, y4, z4⟩, st4⟩ := X3.virtualBack hx (y := y_21) hown (zT hZ hw 201 rfl) (zT hZ hw 202 rfl) (notFace_of_selects (args := #[]) (zT hZ hw 204 rfl)) (zT hZ hw 204 rfl) (zT hZ hw 203 rfl) (by decide) (backOf (W := 0) (r38 l Z a0 hw [] a2 tb h0 n0 Z0 F_v2) hZ (zW hw 205 rfl) (zW hw 47 rfl) (by decide) (by decide)) q4a q4c (g := (mkF m 5 #[.val (.ref a1), .val (.ref a2), .val .null, .unset, .unset] [.ref a2])) rfl (by rw [hml]; rfl) (Steps.refl _) (argsL := []) (rest := []) (lenOf pd_37_32 rfl) rfl (Nat.le_of_eq rfl) (D37 hby 3 rfl) (fun _ _ => ⟨rfl, e3, (by decide : 0 + 0 ≤ _), (by decide : 0 + 0 ≤ _)⟩)
  dsimp only [Pt.U, Pt.locs, Pt.cells, Pt.slots] at X4 l4 y4 z4 st4 hQ4
  subst l4 y4 z4
  obtain ⟨rfl, N4q, e4⟩ := hQ4
  have N4 := Fr.app N0 N4q
  obtain ⟨cq5, kq5, q5a, q5b, q5c⟩ := isOf hZ e4 E_a2
  obtain ⟨_, _, ⟨T5, L5, k5, n5⟩, -, X5, ⟨Lc5, hQ5, l5, y5, z5⟩, st5⟩ := X4.virtualBack hx (y := y_19) hown (zT hZ hw 206 rfl) (zT hZ hw 207 rfl) (own_nf (notFace_of_selects (args := #[]) (zT hZ hw 95 rfl)) (mvT hZ (zW hw 93 rfl) : (Cond.instanceMethod _).before #[] s = true) rfl) (zT hZ hw 209 rfl) (zT hZ hw 210 rfl) (by decide) (backOf (W := 0) (r39 l Z a0 hw [] a2 (Int32.ofNat cs.length) h0 n0 Z0 E_a2 F_n2) hZ (zW hw 211 rfl) (zW hw 39 rfl) (by decide) (by decide)) q5a q5c (g := (mkF m 10 #[.val (.ref a1), .val (.ref a2), .val .null, .val (.ref tb), .unset] [.ref a2])) rfl (by rw [hml]; rfl) (Steps.refl _) (argsL := []) (rest := []) (lenOf pd_39_11 rfl) rfl (Nat.le_of_eq rfl) (D37 hby 6 rfl) (fun _ _ => ⟨rfl, e4, (by decide : 0 + 0 ≤ _), (by decide : 0 + 0 ≤ _)⟩)
  dsimp only [Pt.U, Pt.locs, Pt.cells, Pt.slots] at X5 l5 y5 z5 st5 hQ5
  subst l5 y5 z5
  obtain ⟨rfl, N5q, e5⟩ := hQ5
  have N5 := Fr.app N4 N5q
  obtain ⟨cq6, kq6, q6a, q6b, q6c⟩ := isOf hZ e5 E_a2
  obtain ⟨_, _, ⟨T6, L6, k6, n6⟩, -, X6, ⟨Lc6, hQ6, l6, y6, z6⟩, st6⟩ := X5.virtualBack hx (y := y_8) hown (zT hZ hw 214 rfl) (zT hZ hw 127 rfl) (notFace_of_selects (args := #[]) (zT hZ hw 129 rfl)) (zT hZ hw 129 rfl) (zT hZ hw 128 rfl) (by decide) (backOf (W := 0) (r22 l Z a0 hw [] a2 zc (0 : Int32) h0 n0 Z0 SC F_c2 hz rfl) hZ (zW hw 130 rfl) (zW hw 47 rfl) (by decide) (by decide)) q6a q6c (g := (mkF m 16 #[.val (.ref a1), .val (.ref a2), .val .null, .val (.ref tb), .val (.int (Int32.ofNat cs.length))] [.ref a2])) rfl (by rw [hml]; rfl) (Steps.refl _) (argsL := []) (rest := []) (lenOf pd_21_19 rfl) rfl (Nat.le_of_eq rfl) (D37 hby 9 rfl) (fun _ _ => ⟨rfl, e5, (by decide : 0 + 0 ≤ _), (by decide : 0 + 0 ≤ _)⟩)
  dsimp only [Pt.U, Pt.locs, Pt.cells, Pt.slots] at X6 l6 y6 z6 st6 hQ6
  subst l6 y6 z6
  obtain ⟨rfl, N6q, e6⟩ := hQ6
  have N6 := Fr.app N5 N6q
  obtain ⟨T7, h7, X7, e7, W7, st7⟩ := putFN X6 hx hZ hown (zW hw 26 rfl) Via.refl e6 F_coder_a1 E_a1 (Or.inr ⟨(zW hw 27 rfl), rfl, hnm⟩) (zW hw 1 rfl) (ty := .byte) (v' := (.int 0)) (by decide) rfl (by decide) (g := (mkF m 24 #[.val (.ref a1), .val (.ref a2), .val .null, .val (.ref tb), .val (.int (Int32.ofNat cs.length))] [.int 0, .ref a1])) rfl rfl (D37 hby 13 rfl)
  have Fw7 := F_coder_a1.same W7
  have K7 : Keep h0 h7 [a1] := (Keep.refl h0 [a1]).wr W7 (Or.inl (List.mem_of_getElem? (i := 0) rfl))
  have N7 := Fr.snoc X7 N6 g_a1
  obtain ⟨_, _, ⟨T8, L8, k8, n8⟩, -, X8, ⟨Lc8, hQ8, l8, y8, z8⟩, st8⟩ := Jvm.LawKit.callS X7 hx (y := y_37) hown (zT hZ hw 215 rfl) (zT hZ hw 216 rfl) (zT hZ hw 153 rfl) (zT hZ hw 217 rfl) (by decide) (backOf (W := 1) (r41 l Z a0 hw [] tb cs.length c_ kd vd h7 n0 (Nat.le_trans Z0 K7.1) (B.other W7 (fun q => Exa.neArv E_a1 B (zW hw 1 rfl) q.symm)) hvd hn hc) hZ (zW hw 217 rfl) (zW hw 153 rfl) (by decide) (by decide)) (g := (mkF m 32 #[.val (.ref a1), .val (.ref a2), .val .null, .val (.ref tb), .val (.int (Int32.ofNat cs.length))] [(.int (Int32.ofNat cs.length)), .int 0, .ref tb, .ref a1])) rfl (by rw [hml]; rfl) (argsL := [.ref tb, .int 0, (.int (Int32.ofNat cs.length))]) (rest := [.ref a1]) (lenOf pd_41_33 rfl) rfl (Nat.le_of_eq rfl) (D37 hby 18 rfl) (fun _ _ => ⟨rfl, e7, (by decide : 0 + 1 ≤ _), (by decide : 0 + 142 ≤ _)⟩)
  dsimp only [Pt.U, Pt.locs, Pt.cells, Pt.slots] at X8 l8 y8 z8 st8 hQ8
  subst l8 y8 z8
  obtain ⟨rfl, N8q, K8, k8x, V8⟩ := hQ8
  have N8 := Fr.app N7 N8q
  obtain ⟨T9, h9, X9, e9, W9, st9⟩ := putF X8 hx hZ hown (host := "") (Or.inl (zW hw 28 rfl)) Via.refl rfl ((F_value_a1.other W7 (Or.inr (slot_ne (Or.inr (zW hw 29 rfl)) (Or.inr (zW hw 27 rfl)) (by decide) (t := (.array .byte)) (t' := .byte) (by decide) (by decide)))).keep K8 nin0) ((E_a1.wr W7).keep K8) (Or.inr ⟨(zW hw 29 rfl), rfl, hnm⟩) (zW hw 1 rfl) (ty := (.array .byte)) (by decide) rfl rfl (g := (mkF m 35 #[.val (.ref a1), .val (.ref a2), .val .null, .val (.ref tb), .val (.int (Int32.ofNat cs.length))] [.ref h7.size, .ref a1])) rfl rfl (D37 hby 19 rfl)
  have Fw9 := ((F_value_a1.other W7 (Or.inr (slot_ne (Or.inr (zW hw 29 rfl)) (Or.inr (zW hw 27 rfl)) (by decide) (t := (.array .byte)) (t' := .byte) (by decide) (by decide)))).keep K8 nin0).same W9
  have K9 : Keep h0 h9 [a1] := (K7.trans K8 all0).wr W9 (Or.inl (List.mem_of_getElem? (i := 0) rfl))
  have N9 := Fr.snoc X9 N8 g_a1
  obtain ⟨fs, hr, hrun, hended, hW, hsame⟩ := X9.leave (v := none) (fun _ => rfl)
  refine ⟨_, _, pre0 _ ?_, hrun, hended, _, _, rfl, ?_, ⟨_, rfl⟩, hW, hsame.mono (by decide) (by decide)⟩
  · refine XS.aloadN X0.here hx rfl (D37 hby 0 rfl) rfl rfl ?_
    refine st3 _ ?_
    refine XS.aloadN X3.here hx rfl (D37 hby 2 rfl) rfl rfl ?_
    refine st4.trans ?_
    refine XS.astoreN X4.here hx rfl (D37 hby 4 rfl) rfl rfl (l' := #[.val (.ref a1), .val (.ref a2), .val .null, .val (.ref tb), .unset]) rfl ?_
    refine XS.aloadN X4.here hx rfl (D37 hby 5 rfl) rfl rfl ?_
    refine st5.trans ?_
    refine XS.istore X5.here hx rfl (D37 hby 7 rfl) rfl (l' := #[.val (.ref a1), .val (.ref a2), .val .null, .val (.ref tb), .val (.int (Int32.ofNat cs.length))]) rfl ?_
    refine XS.aloadN X5.here hx rfl (D37 hby 8 rfl) rfl rfl ?_
    refine st6.trans ?_
    refine XS.ifNo X6.here hx rfl (D37 hby 10 rfl) rfl ((if0 _ _).trans (feq (by decide : ¬ ((1 : Int32) = (0 : Int32)))).1) ?_
    refine XS.aloadN X6.here hx rfl (D37 hby 11 rfl) rfl rfl ?_
    refine XS.iconst X6.here hx rfl (D37 hby 12 rfl) ?_
    refine st7 _ ?_
    refine XS.aloadN X7.here hx rfl (D37 hby 14 rfl) rfl rfl ?_
    refine XS.aloadN X7.here hx rfl (D37 hby 15 rfl) rfl rfl ?_
    refine XS.iconst X7.here hx rfl (D37 hby 16 rfl) ?_
    refine XS.iload X7.here hx rfl (D37 hby 17 rfl) rfl ?_
    refine st8 _ ?_
    refine st9 _ ?_
    refine XS.goto X9.here hx rfl (pc0 := 38) (pc' := 97) rfl (D37 hby 20 rfl) (by decide) (by decide) ?_
    exact X9.returnOut hx Bd.returns (D37 hby 21 rfl) hr
  · show Q37 Z a1 cs h0 n0 _ T9.heap _
    rw [e9]
    have hne : h7.size ≠ a1 := Nat.ne_of_gt (Nat.lt_of_lt_of_le E_a1.lt K7.1)
    rw [htk] at V8
    exact ⟨rfl, N9, K9, ((E_a1.wr W7).keep K8).wr W9, (Fw7.keep K8 nin0).other W9 (Or.inr (slot_ne (Or.inr (zW hw 27 rfl)) (Or.inr (zW hw 29 rfl)) (by decide) (t := .byte) (t' := (.array .byte)) (by decide) (by decide))), h7.size, k8x, Fw9, V8.other W9 hne⟩
def l36 : List (Nat × Instr × Nat) := [(0, .aload_n 0, 1), (1, .aload_n 1, 1), (2, .aconst_null, 1), (3, .invokespecial 489, 3), (6, .return_, 1)]
theorem D36 {c : Code} (h : c.code = jdk_42_method_53_code) : zQ c l36 := zD h (by decide +kernel)
theorem pd_36_31 : parseMethodDescriptor "(Ljava/lang/AbstractStringBuilder;Ljava/lang/Void;)V" = some ⟨[(.object "java/lang/AbstractStringBuilder"), (.object "java/lang/Void")], none⟩ := by decide +kernel
theorem r36 (l : Launch) (Z : State) (a0 : Array Value) (hw : zH Z a0) (ws : List Jvm.Cond) (a1 : Addr) (a2 : Addr) (tb : Addr) (cs : List Int32) (c_ : Nat) (u_coder_a1 : Value) (u_value_a1 : Value) (h0 : Heap) (n0 : Nat) (Z0 : n0 ≤ h0.size) (SB : own_SBv Z h0 a2 cs c_ tb) (E_a1 : Exa Z h0 a1 "java/lang/String") (F_coder_a1 : Fld Z h0 a1 "java/lang/String" "coder" "B" u_coder_a1) (g_a1 : n0 ≤ a1) (F_value_a1 : Fld Z h0 a1 "java/lang/String" "value" "[B" u_value_a1) (CS : own_CS Z h0) (hn : cs.length < c_) (hc : c_ ≤ 142) :
    zM l Z h0 ws y_39 jdk_42_method_53_code 2 none (zr 4 1 142 66) #[.ref a1, .ref a2] (Q37 Z a1 cs h0 n0) := by
  refine MetFree.of_bodySF (plainFor_of_name pn_15) hisR ?_
  intro p e s m args below meth c s₁ Bd hml0 hP hK
  obtain ⟨rfl, hZ, hh⟩ := hP
  have hx := Bd.exec
  have hby := Bd.bytes
  have hml : c.maxLocals = 2 := hml0
  have hown : s.vm.findClass "java/lang/String" = some m.cls := findClass_of_methodNamed Bd.named
  have X0 : Stand p l e (zr 4 1 142 66) s m #[.ref a1, .ref a2] below meth c s₁ [] 0 0 := Stand.of_body Bd
  have e0 : s₁.heap = h0 := by rw [← hh, Bd.state]; rfl
  have N0 := Fr.nil n0
  have pre0 := zP p e below s₁ (ef_18 m a1 a2)
  obtain ⟨_, _, ⟨T3, L3, k3, n3⟩, -, X3, ⟨Lc3, hQ3, l3, y3, z3⟩, st3⟩ := X0.specialBack hx (y := y_38) rfl hown (zT hZ hw 198 rfl) (zT hZ hw 199 rfl) (zT hZ hw 200 rfl) (by decide) (backOf (W := 0) (r37 l Z a0 hw [] a1 a2 tb cs c_ u_coder_a1 u_value_a1 h0 n0 Z0 SB E_a1 F_coder_a1 g_a1 F_value_a1 CS hn hc) hZ (zW hw 200 rfl) (zW hw 2 rfl) (by decide) (by decide)) (g := (mkF m 3 #[.val (.ref a1), .val (.ref a2)] [.null, .ref a2, .ref a1])) rfl (by rw [hml]; rfl) (Steps.refl _) (a := a1) (argsL := [.ref a2, .null]) (rest := []) (lenOf pd_36_31 rfl) rfl (Nat.le_of_eq rfl) (D36 hby 3 rfl) (fun _ _ => ⟨rfl, e0, (by decide : 0 + 1 ≤ _), (by decide : 0 + 142 ≤ _)⟩)
  dsimp only [Pt.U, Pt.locs, Pt.cells, Pt.slots] at X3 l3 y3 z3 st3 hQ3
  subst l3 y3 z3
  obtain ⟨rfl, N3q, Qq⟩ := hQ3
  have N3 := Fr.app N0 N3q
  obtain ⟨fs, hr, hrun, hended, hW, hsame⟩ := X3.leave (v := none) (fun _ => rfl)
  refine ⟨_, _, pre0 _ ?_, hrun, hended, _, _, rfl, ?_, ⟨_, rfl⟩, hW, hsame.mono (by decide) (by decide)⟩
  · refine XS.aloadN X0.here hx rfl (D36 hby 0 rfl) rfl rfl ?_
    refine XS.aloadN X0.here hx rfl (D36 hby 1 rfl) rfl rfl ?_
    refine XS.aconstNull X0.here hx rfl (D36 hby 2 rfl) ?_
    refine st3.trans ?_
    exact X3.returnOut hx Bd.returns (D36 hby 4 rfl) hr
  · show Q37 Z a1 cs h0 n0 _ T3.heap _
    exact ⟨rfl, N3, Qq⟩
def l35 : List (Nat × Instr × Nat) := [(0, .new 18, 3), (3, .dup, 1), (4, .aload_n 0, 1), (5, .invokespecial 137, 3), (8, .areturn, 1)]
theorem D35 {c : Code} (h : c.code = jdk_67_method_42_code) : zQ c l35 := zD h (by decide +kernel)
theorem pd_35_30 : parseMethodDescriptor "(Ljava/lang/StringBuilder;)V" = some ⟨[(.object "java/lang/StringBuilder")], none⟩ := by decide +kernel
theorem r35 (l : Launch) (Z : State) (a0 : Array Value) (hw : zH Z a0) (ws : List Jvm.Cond) (a1 : Addr) (tb : Addr) (cs : List Int32) (c_ : Nat) (h0 : Heap) (n0 : Nat) (Z0 : n0 ≤ h0.size) (SB : own_SBv Z h0 a1 cs c_ tb) (CS : own_CS Z h0) (hn : cs.length < c_) (hc : c_ ≤ 142) :
    zM l Z h0 ws y_26 jdk_67_method_42_code 1 (some (.object "java/lang/String")) (zr 5 2 146 80) #[.ref a1] (Q35 Z cs h0 n0) := by
  refine MetFree.of_bodySF (plainFor_of_name pn_39) hisR ?_
  intro p e s m args below meth c s₁ Bd hml0 hP hK
  obtain ⟨rfl, hZ, hh⟩ := hP
  have hx := Bd.exec
  have hby := Bd.bytes
  have hml : c.maxLocals = 1 := hml0
  have hown : s.vm.findClass "java/lang/StringBuilder" = some m.cls := findClass_of_methodNamed Bd.named
  have X0 : Stand p l e (zr 5 2 146 80) s m #[.ref a1] below meth c s₁ [] 0 0 := Stand.of_body Bd
  have e0 : s₁.heap = h0 := by rw [← hh, Bd.state]; rfl
  have N0 := Fr.nil n0
  have pre0 := zP p e below s₁ (ef_15 m a1)
  obtain ⟨T2, h2, X2, e2, E2, A2, D2, -, st2⟩ := newO X0 hx hZ hown (zW hw 194 rfl) (zW hw 1 rfl) (zW hw 2 rfl) e0 (g := (mkF m 0 #[.val (.ref a1)] [])) rfl (D35 hby 0 rfl) (by decide) (by decide)
  obtain ⟨b2, g2⟩ : ∃ z, z = h0.size := ⟨_, rfl⟩
  rw [← g2] at A2 D2 st2
  have F_coder_b2 : Fld Z h2 b2 "java/lang/String" "coder" "B" (.int 0) := D2 (Or.inr (zW hw 27 rfl)) (ty := .byte) (by decide)
  have F_value_b2 : Fld Z h2 b2 "java/lang/String" "value" "[B" .null := D2 (Or.inr (zW hw 29 rfl)) (ty := (.array .byte)) (by decide)
  have E_b2 := A2
  have g_b2 : n0 ≤ b2 := Nat.le_trans Z0 (Nat.le_of_eq g2.symm)
  have sz_b2 : h0.size ≤ b2 := (Nat.le_trans (Keep.refl h0 []).1 (Nat.le_of_eq g2.symm))
  have K2 : Keep h0 h2 [] := (Keep.refl h0 []).ext E2
  obtain ⟨_, _, ⟨T3, L3, k3, n3⟩, -, X3, ⟨Lc3, hQ3, l3, y3, z3⟩, st3⟩ := X2.specialBack hx (y := y_39) rfl hown (zT hZ hw 195 rfl) (zT hZ hw 196 rfl) (zT hZ hw 197 rfl) (by decide) (backOf (W := 1) (r36 l Z a0 hw [] b2 a1 tb cs c_ _ _ h2 n0 (Nat.le_trans Z0 E2.1) (SB.keep0 K2) E_b2 F_coder_b2 g_b2 F_value_b2 (CS.ext E2) hn hc) hZ (zW hw 197 rfl) (zW hw 2 rfl) (by decide) (by decide)) (g := (mkF m 5 #[.val (.ref a1)] [.ref a1, .ref b2, .ref b2])) rfl (by rw [hml]; rfl) (Steps.refl _) (a := b2) (argsL := [.ref a1]) (rest := [.ref b2]) (lenOf pd_35_30 rfl) rfl (Nat.le_of_eq rfl) (D35 hby 3 rfl) (fun _ _ => ⟨rfl, e2, (by decide : 1 + 1 ≤ _), (by decide : 4 + 142 ≤ _)⟩)
  dsimp only [Pt.U, Pt.locs, Pt.cells, Pt.slots] at X3 l3 y3 z3 st3 hQ3
  subst l3 y3 z3
  obtain ⟨rfl, N3q, K3, S3⟩ := hQ3
  have N3 := Fr.app N0 N3q
  obtain ⟨fs, hr, hrun, hended, hW, hsame⟩ := X3.leave (v := some (.ref b2)) (fun h => by rw [Bd.returns] at h; cases h)
  refine ⟨_, _, pre0 _ ?_, hrun, hended, _, _, rfl, ?_, ⟨_, rfl⟩, hW, hsame.mono (by decide) (by decide)⟩
  · refine st2 _ ?_
    refine XS.dup X2.here hx rfl (D35 hby 1 rfl) rfl rfl ?_
    refine XS.aloadN X2.here hx rfl (D35 hby 2 rfl) rfl rfl ?_
    refine st3.trans ?_
    jvm_step X3.here [X3.here.top, hx, (D35 hby 4 rfl), X3.method', Bd.returns, Value.isRef, FieldType.isReference]
    first | (intro acts; rw [hr _ acts rfl rfl rfl]) | rw [hr _ _ rfl rfl rfl]
    exact Steps.refl _
  · show Q35 Z cs h0 n0 _ T3.heap _
    subst g2
    exact ⟨rfl, N3, K2.trans K3 (allS (Or.inr sz_b2) all0), S3⟩
def l34 : List (Nat × Instr × Nat) := [(0, .aload_n 0, 1), (1, .getfield 10, 3), (4, .invokevirtual 83, 3), (7, .areturn, 1)]
theorem D34 {c : Code} (h : c.code = prog_28_method_7_code) : zQ c l34 := zD h (by decide +kernel)
theorem pn_34 : plainName "com/example/dealt/dealt/metrics/Exposition" = true := by first | (simp [plainName, overriddenIn]; done) | decide +kernel
theorem pd_34_29 : parseMethodDescriptor "()Ljava/lang/String;" = some ⟨[], some (.object "java/lang/String")⟩ := by decide +kernel
abbrev own_EL : List (String × Nat) := [("com/example/dealt/dealt/metrics/Exposition", 38), ("com/example/dealt/dealt/metrics/Exposition", 87), ("com/example/dealt/dealt/metrics/Exposition", 89), ("com/example/dealt/dealt/metrics/Exposition", 22)]
theorem own_tl38 : "counter".toList = ['c', 'o', 'u', 'n', 't', 'e', 'r'] := by decide +kernel
abbrev own_L38 : List Int32 := ([99, 111, 117, 110, 116, 101, 114] : List Int32)
theorem own_tx38 : (∀ c ∈ "counter".toList, c.toNat < 256) ∧ "counter".toList.map (fun c => Value.int (Jvm.Lit.byteI c.toNat.toUInt16)) = own_by own_L38 := by
  rw [own_tl38]
  exact ⟨by decide, by decide +kernel⟩
theorem own_tl87 : "# HELP ".toList = ['#', ' ', 'H', 'E', 'L', 'P', ' '] := by decide +kernel
abbrev own_L87 : List Int32 := ([35, 32, 72, 69, 76, 80, 32] : List Int32)
theorem own_tx87 : (∀ c ∈ "# HELP ".toList, c.toNat < 256) ∧ "# HELP ".toList.map (fun c => Value.int (Jvm.Lit.byteI c.toNat.toUInt16)) = own_by own_L87 := by
  rw [own_tl87]
  exact ⟨by decide, by decide +kernel⟩
theorem own_tl89 : "# TYPE ".toList = ['#', ' ', 'T', 'Y', 'P', 'E', ' '] := by decide +kernel
abbrev own_L89 : List Int32 := ([35, 32, 84, 89, 80, 69, 32] : List Int32)
theorem own_tx89 : (∀ c ∈ "# TYPE ".toList, c.toNat < 256) ∧ "# TYPE ".toList.map (fun c => Value.int (Jvm.Lit.byteI c.toNat.toUInt16)) = own_by own_L89 := by
  rw [own_tl89]
  exact ⟨by decide, by decide +kernel⟩
theorem own_tl22 : "".toList = ([] : List Char) := by decide +kernel
abbrev own_L22 : List Int32 := ([] : List Int32)
theorem own_tx22 : (∀ c ∈ "".toList, c.toNat < 256) ∧ "".toList.map (fun c => Value.int (Jvm.Lit.byteI c.toNat.toUInt16)) = own_by own_L22 := by
  rw [own_tl22]
  exact ⟨by decide, by decide +kernel⟩
theorem own_noW {s : State} : s.Since s.vm 0 := (State.WarmedH.refl s).since 0
theorem own_EL7 {Z : State} {a0 : Array Value} (hw : zH Z a0) : ∀ p ∈ own_EL, ∃ text : String, (Cond.stringLink p.1 p.2 text).before a0 Z = true ∧ (∀ c ∈ text.toList, c.toNat < 256) ∧ text.toList.length ≤ 7 := by
  intro p hp
  simp only [List.mem_cons, List.not_mem_nil, or_false] at hp
  rcases hp with rfl | rfl | rfl | rfl
  · exact ⟨_, (zW hw 62 rfl), own_tx38.1, by rw [own_tl38]; decide⟩
  · exact ⟨_, (zW hw 69 rfl), own_tx87.1, by rw [own_tl87]; decide⟩
  · exact ⟨_, (zW hw 135 rfl), own_tx89.1, by rw [own_tl89]; decide⟩
  · exact ⟨_, (zW hw 159 rfl), own_tx22.1, by rw [own_tl22]; decide⟩
theorem own_EW {Z : State} {a0 : Array Value} (hw : zH Z a0) : EW Z a0 own_EL := fun p hp => by
  obtain ⟨t, h1, h2, -⟩ := own_EL7 hw p hp
  exact ⟨t, h1, h2⟩
theorem own_safe {Z : State} {vm : Vm} {h : Heap} {t : Addr} {k : ClassId} {c : Nat} {vs : List Value} {d : Value} {a0 : Array Value} (hw : zH Z a0) (hZ : Z.Warmed39 vm) (F : Arv Z h t k .byte (Int32.ofNat c) vs d) (hc : 16 ≤ c) (hc9 : c < 1000) : Safe Z own_EL vm h t := fun B => by
  obtain ⟨p, hp, u, a, hb, q, hqa, F', hy⟩ := B
  obtain ⟨cl, Ar, -, S, -⟩ := F
  obtain ⟨text, w, ht, hlen⟩ := own_EL7 hw p hp
  obtain ⟨c', k', cf, i, h1, h2, h3, h4, h5, -⟩ := hb
  have w' : (Cond.stringLink p.1 p.2 text).before a0 (Wst Z vm h) = true := mvS (s := { Z with heap := h }) hZ w
  obtain ⟨k0, cf0, i0, units, hk, hcf, hp0, hu0, -, htext, -⟩ := Cond.stringLink_spec (s := Wst Z vm h) h1 w'
  cases h2.symm.trans hk
  cases h3.symm.trans hcf
  cases h4.symm.trans hp0
  cases h5.symm.trans hu0
  have hu : u.size ≤ 7 := by
    have := congrArg List.length (Jvm.ClassFile.units_of_text htext ht)
    simp at this
    omega
  rcases hy with rfl | rfl
  · cases (show h[q.sa]? = some q.sC from F'.ha).symm.trans Ar.1
    obtain ⟨-, ⟨-, kA, hkA, compA, hkindA⟩, -⟩ := Ar
    obtain ⟨kA', hkA', ekA⟩ := hZ.alike.2.2 _ _ hkA
    obtain ⟨cS, ⟨-, -, e⟩, ⟨kS, g1, g2, -⟩, -⟩ := F'
    subst e
    cases (show vm.classes[q.sC.cls]? = some kS from g1).symm.trans hkA'
    rw [ekA] at g2
    have := hkindA.symm.trans g2
    cases this
  · cases (show h[q.sd]? = some q.SA from F'.hd).symm.trans Ar.1
    obtain ⟨cS, -, -, -, e⟩ := F'
    have h8 := Jvm.stringBytes_size_le u
    rw [← e, S, own_cl c (by omega)] at h8
    omega
theorem own_Fu {Z : State} {h : Heap} {a : Addr} {C n d : String} {v w : Value} (F : Fld Z h a C n d v) (G : Fld Z h a C n d w) : v = w := Classical.byContradiction fun q => Fld.ne F G q rfl
def own_NE (Z : State) (h : Heap) (o t0 : Addr) : Prop := ∀ t, Fld Z h o "java/lang/String" "value" "[B" (.ref t) → t ≠ t0
def own_Sn (Z : State) (h : Heap) (o : Addr) (xs : List Int32) (t0 : Addr) : Prop := own_Str Z h o xs ∧ own_NE Z h o t0
theorem own_Sn.op {Z : State} {h h' : Heap} {o b t t' : Addr} {xs cs : List Int32} {c : Nat} {a0 : Array Value} (hw : zH Z a0) (T : own_Sn Z h o xs t) (K : Keep h h' [b, t]) (SB : own_SBv Z h b cs c t) (ht : t' = t ∨ h.size ≤ t') : own_Sn Z h' o xs t' := by
  obtain ⟨S, NE⟩ := T
  have S' := S.keep2 K SB (zW hw 38 rfl) (zW hw 1 rfl) NE
  refine ⟨S', fun x F => ?_⟩
  obtain ⟨E, -, tv, k, FV, V⟩ := S
  obtain ⟨EB, -, -, -, kd, vd, B, -⟩ := SB
  have h1 : o ≠ b := Exa.ne E EB (by decide)
  have h3 : o ≠ t := Exa.neArv E B (zW hw 1 rfl)
  have e := own_Fu F (FV.keep K (ninS h1 (ninS h3 nin0)))
  cases e
  rcases ht with rfl | ht
  · exact NE _ FV
  · exact Nat.ne_of_lt (Nat.lt_of_lt_of_le V.lt ht)
theorem own_Sn.ext {Z : State} {h h' : Heap} {o t : Addr} {xs : List Int32} (T : own_Sn Z h o xs t) (E : Ext h h') : own_Sn Z h' o xs t := by
  obtain ⟨S, NE⟩ := T
  refine ⟨S.keep0 ((Keep.refl h []).ext E), fun x F => ?_⟩
  obtain ⟨-, -, tv, k, FV, V⟩ := S
  cases own_Fu F (FV.ext E)
  exact NE _ FV
def own_J (Z : State) (h0 : Heap) (n0 : Nat) (b t0 : Addr) (h : Heap) (cs : List Int32) (c : Nat) (t : Addr) : Prop := own_SBv Z h b cs c t ∧ n0 ≤ t ∧ Keep h0 h [b, t0] ∧ (t = t0 ∨ h0.size ≤ t) ∧ Old Z n0 h ∧ n0 ≤ h.size
theorem own_J.start {Z : State} {h0 : Heap} {n0 : Nat} {b t0 : Addr} {cs : List Int32} {c : Nat} (SB : own_SBv Z h0 b cs c t0) (g : n0 ≤ t0) (O : Old Z n0 h0) (Z0 : n0 ≤ h0.size) : own_J Z h0 n0 b t0 h0 cs c t0 := ⟨SB, g, Keep.refl _ _, Or.inl rfl, O, Z0⟩
theorem own_J.ext {Z : State} {h0 h h' : Heap} {n0 : Nat} {b t0 t : Addr} {cs : List Int32} {c : Nat} (J : own_J Z h0 n0 b t0 h cs c t) (E : Ext h h') : own_J Z h0 n0 b t0 h' cs c t := by
  obtain ⟨SB, g, K, ht, O, z⟩ := J
  exact ⟨SB.keep0 ((Keep.refl h []).ext E), g, K.ext E, ht, O.ext E, Nat.le_trans z E.1⟩
theorem own_J.op {Z : State} {h0 h h' : Heap} {n0 : Nat} {b t0 t : Addr} {cs cs' : List Int32} {c q : Nat} (J : own_J Z h0 n0 b t0 h cs c t) (g_b : n0 ≤ b) (St : own_St Z h b t h' cs' c q) : ∃ (c' : Nat) (t' : Addr), own_P c q c' ∧ own_J Z h0 n0 b t0 h' cs' c' t' ∧ (t' = t ∨ h.size ≤ t') ∧ Keep h h' [b, t] := by
  obtain ⟨SB, g, K, ht, O, z⟩ := J
  obtain ⟨K', c', t', hP, SB', ht'⟩ := St
  refine ⟨c', t', hP, ⟨SB', ?_, K.trans K' (allS (Or.inl (List.mem_of_getElem? (i := 0) rfl)) (allS (own_t_in ht) all0)), ?_, O.keep K' (allS g_b (allS g all0)), Nat.le_trans z K'.1⟩, ht', K'⟩
  · exact own_t_ge z g ht'
  · rcases ht' with rfl | q
    · exact ht
    · exact Or.inr (Nat.le_trans K.1 q)
theorem own_CHop {Z : State} {vm0 vm : Vm} {h0 h h' : Heap} {b t : Addr} {cs : List Int32} {c : Nat} {a0 : Array Value} (hw : zH Z a0) (C : CHr Z own_EL vm0 h0 vm h) (hZ : Z.Warmed39 vm) (K : Keep h h' [b, t]) (SB : own_SBv Z h b cs c t) (hc : 16 ≤ c) (hc9 : c < 1000) : CHr Z own_EL vm0 h0 vm h' := by
  obtain ⟨EB, -, -, -, kd, vd, B, -⟩ := SB
  exact C.trans (CHr.keep K (allS (Safe.exa hZ.alike EB (by decide) (by decide)) (allS (own_safe hw hZ B hc hc9) all0)) C.1)
theorem own_pdS : parseMethodDescriptor "(Ljava/lang/String;)Ljava/lang/StringBuilder;" = some ⟨[.object "java/lang/String"], some (.object "java/lang/StringBuilder")⟩ := by decide +kernel
theorem own_pdC : parseMethodDescriptor "(C)Ljava/lang/StringBuilder;" = some ⟨[.char], some (.object "java/lang/StringBuilder")⟩ := by decide +kernel
theorem own_pdJ : parseMethodDescriptor "(J)Ljava/lang/StringBuilder;" = some ⟨[.long], some (.object "java/lang/StringBuilder")⟩ := by decide +kernel
theorem own_len2 {as bs : List Int32} {m n : Nat} (h1 : as.length = m) (h2 : bs.length = n) : (as ++ bs).length = m + n := by rw [List.length_append, h1, h2]
theorem own_lenA {as xs : List Int32} {m : Nat} (h : (as ++ xs).length = m) : as.length + xs.length = m := by rw [← h, List.length_append]
def QS (Z : State) (b t0 : Addr) (cs : List Int32) (P : Nat → Prop) (h0 : Heap) (n0 : Nat) (v : Option Value) (h : Heap) (L : List Loc) : Prop := v = none ∧ Fr n0 L ∧ Keep h0 h [b, t0] ∧ ∃ (c' : Nat) (t' : Addr), P c' ∧ own_SBv Z h b cs c' t' ∧ (t' = t0 ∨ h0.size ≤ t') ∧ n0 ≤ t'
def l29 : List (Nat × Instr × Nat) := [(0, .aload_n 0, 1), (1, .getfield 10, 3), (4, .aload_n 1, 1), (5, .invokevirtual 69, 3), (8, .aload_n 2, 1), (9, .invokevirtual 69, 3), (12, .bipush 32, 2), (14, .invokevirtual 79, 3), (17, .lload_n 3, 1), (18, .invokevirtual 91, 3), (21, .bipush 10, 2), (23, .invokevirtual 79, 3), (26, .pop, 1), (27, .return_, 1)]
theorem D29 {c : Code} (h : c.code = prog_28_method_9_code) : zQ c l29 := zD h (by decide +kernel)
theorem ef_29 (m : MethodId) (x0 : Addr) (x1 : Addr) (x2 : Addr) (x3 : Int64) : entryFrame m #[.ref x0, .ref x1, .ref x2, (.long x3)] 5 = mkF m 0 #[.val (.ref x0), .val (.ref x1), .val (.ref x2), .val (.long x3), .second] [] := by first | (simp [entryFrame, mkF, argsToLocals, Value.category]; done) | rfl
theorem r29_1 (l : Launch) (Z : State) (a0 : Array Value) (hw : zH Z a0) (ws : List Jvm.Cond) (a1 a2 a3 : Addr) (q4 : Int64) (b t0 : Addr) (cs nm : List Int32) (c_ nn : Nat) (h0 : Heap) (n0 : Nat) (Z0 : n0 ≤ h0.size) (FT : Fld Z h0 a1 "com/example/dealt/dealt/metrics/Exposition" "text" "Ljava/lang/StringBuilder;" (.ref b)) (SB : own_SBv Z h0 b cs c_ t0) (g_b : n0 ≤ b) (g_t0 : n0 ≤ t0) (CS : own_CS Z Z.heap) (O : Old Z n0 h0) (Snm : own_Sn Z h0 a2 nm t0) (h_nm : nm.length = 2) (Sem : own_Sn Z h0 a3 own_L22 t0) (hn : nn ≤ 2 ^ 63) (hnx : (if q4 < 0 then q4 else -q4) = Jvm.Free.SBG.negL nn) (DG : own_DG Z) (hc0 : c_ = 34) (hl0 : cs.length = 31) :
    zM l Z h0 ws y_17 prog_28_method_9_code 5 none (zr 6 1 142 132) #[.ref a1, .ref a2, .ref a3, (.long q4)] (QS Z b t0 (((((cs ++ nm) ++ own_L22) ++ [(32 : Int32)]) ++ (own_num q4 nn)) ++ [(10 : Int32)]) (fun c' => c' = 70) h0 n0) := by
  refine MetFree.of_bodySF (plainFor_of_name pn_34) hisR ?_
  intro p e s m args below meth c s₁ Bd hml0 hP hK
  obtain ⟨rfl, hZ, hh⟩ := hP
  have hx := Bd.exec
  have hby := Bd.bytes
  have hml : c.maxLocals = 5 := hml0
  have hown : s.vm.findClass "com/example/dealt/dealt/metrics/Exposition" = some m.cls := findClass_of_methodNamed Bd.named
  have X0 : Stand p l e (zr 6 1 142 132) s m #[.ref a1, .ref a2, .ref a3, (.long q4)] below meth c s₁ [] 0 0 := Stand.of_body Bd
  have e0 : s₁.heap = h0 := by rw [← hh, Bd.state]; rfl
  have N0 := Fr.nil n0
  have pre0 := zP p e below s₁ (ef_29 m a1 a2 a3 q4)
  have J0 := own_J.start SB g_t0 O Z0
  have hnl := own_num_le q4 nn
  obtain ⟨T11, X11, e11, st11⟩ := getF X0 hx hZ hown (host := "") (Or.inl (zW hw 55 rfl)) Via.refl e0 FT (g := (mkF m 1 #[.val (.ref a1), .val (.ref a2), .val (.ref a3), .val (.long q4), .second] [.ref a1])) rfl rfl (D29 hby 1 rfl)
  have hl12 := own_len2 hl0 (show nm.length = 2 from h_nm)
  have hln12 : (cs.length + nm.length) = _ := own_lenA (xs := nm) hl12
  obtain ⟨cq12, kq12, q12a, q12b, q12c⟩ := isOf hZ e11 J0.1.1
  obtain ⟨_, _, ⟨T12, L12, k12, n12⟩, -, X12, ⟨Lc12, hQ12, l12, y12, z12⟩, st12⟩ := X11.virtualBack hx (y := y_0) hown (zT hZ hw 70 rfl) (zT hZ hw 71 rfl) (notFace_of_selects (args := #[]) (zT hZ hw 73 rfl)) (zT hZ hw 73 rfl) (zT hZ hw 72 rfl) (by decide) (backOf (W := 0) (r12a l Z a0 hw [] b a2 t0 cs nm c_ h0 n0 J0.2.2.2.2.2 J0.1 Snm.1 g_b J0.2.1 CS J0.2.2.2.2.1 Snm.2 (by rw [hln12]; omega) (by omega)) hZ (zW hw 74 rfl) (zW hw 39 rfl) (by decide) (by decide)) q12a q12c (g := (mkF m 5 #[.val (.ref a1), .val (.ref a2), .val (.ref a3), .val (.long q4), .second] [.ref a2, .ref b])) rfl (by rw [hml]; rfl) (Steps.refl _) (argsL := [.ref a2]) (rest := []) (lenOf own_pdS rfl) rfl (Nat.le_of_eq rfl) (D29 hby 3 rfl) (fun _ _ => ⟨rfl, e11, (by show 0 + 0 ≤ 1; decide), (by show 0 + 0 ≤ 142; decide)⟩)
  dsimp only [Pt.U, Pt.locs, Pt.cells, Pt.slots] at X12 l12 y12 z12 st12 hQ12
  subst l12 y12 z12
  obtain ⟨rfl, Nq12, St12⟩ := hQ12
  have N12 := Fr.app N0 Nq12
  obtain ⟨c12, t12, hP12, J12, ht12, K12⟩ := J0.op g_b St12
  unfold own_P at hP12
  rw [hln12] at hP12
  have hcc12 : c12 = 34 := by omega
  clear hP12
  have Snm12 := own_Sn.op hw Snm K12 J0.1 ht12
  have Sem12 := own_Sn.op hw Sem K12 J0.1 ht12
  have hcs12 : (cs ++ nm).length ≤ c12 := by obtain ⟨-, -, -, -, kd_, vd_, B_, hv_, hq_, -⟩ := id J12.1; exact hq_
  rw [hl12] at hcs12
  have hl13 := own_len2 hl12 (show own_L22.length = 0 from rfl)
  have hln13 : ((cs ++ nm).length + own_L22.length) = _ := own_lenA (xs := own_L22) hl13
  obtain ⟨cq13, kq13, q13a, q13b, q13c⟩ := isOf hZ rfl J12.1.1
  obtain ⟨_, _, ⟨T13, L13, k13, n13⟩, -, X13, ⟨Lc13, hQ13, l13, y13, z13⟩, st13⟩ := X12.virtualBack hx (y := y_0) hown (zT hZ hw 70 rfl) (zT hZ hw 71 rfl) (notFace_of_selects (args := #[]) (zT hZ hw 73 rfl)) (zT hZ hw 73 rfl) (zT hZ hw 72 rfl) (by decide) (backOf (W := 0) (r12a l Z a0 hw [] b a3 t12 _ own_L22 c12 T12.heap n0 J12.2.2.2.2.2 J12.1 Sem12.1 g_b J12.2.1 CS J12.2.2.2.2.1 Sem12.2 (by rw [hln13]; omega) (by omega)) hZ (zW hw 74 rfl) (zW hw 39 rfl) (by decide) (by decide)) q13a q13c (g := (mkF m 9 #[.val (.ref a1), .val (.ref a2), .val (.ref a3), .val (.long q4), .second] [.ref a3, .ref b])) rfl (by rw [hml]; rfl) (Steps.refl _) (argsL := [.ref a3]) (rest := []) (lenOf own_pdS rfl) rfl (Nat.le_of_eq rfl) (D29 hby 5 rfl) (fun _ _ => ⟨rfl, rfl, (by show 0 + 0 ≤ 1; decide), (by show 0 + 0 ≤ 142; decide)⟩)
  dsimp only [Pt.U, Pt.locs, Pt.cells, Pt.slots] at X13 l13 y13 z13 st13 hQ13
  subst l13 y13 z13
  obtain ⟨rfl, Nq13, St13⟩ := hQ13
  have N13 := Fr.app N12 Nq13
  obtain ⟨c13, t13, hP13, J13, ht13, K13⟩ := J12.op g_b St13
  unfold own_P at hP13
  rw [hln13] at hP13
  have hcc13 : c13 = 34 := by omega
  clear hP13 hcc12
  have Snm13 := own_Sn.op hw Snm12 K13 J12.1 ht13
  have Sem13 := own_Sn.op hw Sem12 K13 J12.1 ht13
  clear hcs12
  have hl14 := own_len2 hl13 (show [(32 : Int32)].length = 1 from rfl)
  have hln14 : (((cs ++ nm) ++ own_L22).length + 1) = _ := own_lenA (xs := [(32 : Int32)]) hl14
  obtain ⟨cq14, kq14, q14a, q14b, q14c⟩ := isOf hZ rfl J13.1.1
  obtain ⟨_, _, ⟨T14, L14, k14, n14⟩, -, X14, ⟨Lc14, hQ14, l14, y14, z14⟩, st14⟩ := X13.virtualBack hx (y := y_1) hown (zT hZ hw 117 rfl) (zT hZ hw 118 rfl) (notFace_of_selects (args := #[]) (zT hZ hw 120 rfl)) (zT hZ hw 120 rfl) (zT hZ hw 119 rfl) (by decide) (backOf (W := 0) (r20a l Z a0 hw [] b (32 : Int32) t13 _ c13 T13.heap n0 J13.2.2.2.2.2 J13.1 g_b J13.2.1 CS J13.2.2.2.2.1 (by decide) (by rw [hln14]; omega) (by omega)) hZ (zW hw 121 rfl) (zW hw 39 rfl) (by decide) (by decide)) q14a q14c (g := (mkF m 14 #[.val (.ref a1), .val (.ref a2), .val (.ref a3), .val (.long q4), .second] [.int 32, .ref b])) rfl (by rw [hml]; rfl) (Steps.refl _) (argsL := [.int 32]) (rest := []) (lenOf own_pdC rfl) rfl (Nat.le_of_eq rfl) (D29 hby 7 rfl) (fun _ _ => ⟨rfl, rfl, (by show 0 + 0 ≤ 1; decide), (by show 0 + 0 ≤ 142; decide)⟩)
  dsimp only [Pt.U, Pt.locs, Pt.cells, Pt.slots] at X14 l14 y14 z14 st14 hQ14
  subst l14 y14 z14
  obtain ⟨rfl, Nq14, St14⟩ := hQ14
  have N14 := Fr.app N13 Nq14
  obtain ⟨c14, t14, hP14, J14, ht14, K14⟩ := J13.op g_b St14
  unfold own_P at hP14
  rw [hln14] at hP14
  have hcc14 : c14 = 34 := by omega
  clear hP14 hcc13
  have Snm14 := own_Sn.op hw Snm13 K14 J13.1 ht14
  have Sem14 := own_Sn.op hw Sem13 K14 J13.1 ht14
  have hl15 := own_len2 hl14 (rfl : (own_num q4 nn).length = (own_num q4 nn).length)
  have hln15 : ((((cs ++ nm) ++ own_L22) ++ [(32 : Int32)]).length + (own_num q4 nn).length) = _ := own_lenA (xs := (own_num q4 nn)) hl15
  obtain ⟨cq15, kq15, q15a, q15b, q15c⟩ := isOf hZ rfl J14.1.1
  obtain ⟨_, _, ⟨T15, L15, k15, n15⟩, -, X15, ⟨Lc15, hQ15, l15, y15, z15⟩, st15⟩ := X14.virtualBack hx (y := y_16) hown (zT hZ hw 164 rfl) (zT hZ hw 165 rfl) (notFace_of_selects (args := #[]) (zT hZ hw 167 rfl)) (zT hZ hw 167 rfl) (zT hZ hw 166 rfl) (by decide) (backOf (W := 0) (r30u l Z a0 hw [] b q4 t14 _ c14 nn T14.heap n0 J14.2.2.2.2.2 J14.1 g_b J14.2.1 CS J14.2.2.2.2.1 hn hnx DG (by rw [hln15]; omega) (by rw [hln15]; omega) (by omega)) hZ (zW hw 168 rfl) (zW hw 39 rfl) (by decide) (by decide)) q15a q15c (g := (mkF m 18 #[.val (.ref a1), .val (.ref a2), .val (.ref a3), .val (.long q4), .second] [(.long q4), .ref b])) rfl (by rw [hml]; rfl) (Steps.refl _) (argsL := [(.long q4)]) (rest := []) (lenOf own_pdJ rfl) rfl (Nat.le_of_eq rfl) (D29 hby 9 rfl) (fun _ _ => ⟨rfl, rfl, (by show 0 + 1 ≤ 1; decide), (by show 0 + 142 ≤ 142; decide)⟩)
  dsimp only [Pt.U, Pt.locs, Pt.cells, Pt.slots] at X15 l15 y15 z15 st15 hQ15
  subst l15 y15 z15
  obtain ⟨rfl, Nq15, St15⟩ := hQ15
  have N15 := Fr.app N14 Nq15
  obtain ⟨c15, t15, hP15, J15, ht15, K15⟩ := J14.op g_b St15
  unfold own_P at hP15
  rw [hln15] at hP15
  have hcc15 : c15 = 70 := by omega
  clear hP15 hcc14
  have Snm15 := own_Sn.op hw Snm14 K15 J14.1 ht15
  have Sem15 := own_Sn.op hw Sem14 K15 J14.1 ht15
  have hcs15 : ((((cs ++ nm) ++ own_L22) ++ [(32 : Int32)]) ++ (own_num q4 nn)).length ≤ c15 := by obtain ⟨-, -, -, -, kd_, vd_, B_, hv_, hq_, -⟩ := id J15.1; exact hq_
  rw [hl15] at hcs15
  have hl16 := own_len2 hl15 (show [(10 : Int32)].length = 1 from rfl)
  have hln16 : (((((cs ++ nm) ++ own_L22) ++ [(32 : Int32)]) ++ (own_num q4 nn)).length + 1) = _ := own_lenA (xs := [(10 : Int32)]) hl16
  obtain ⟨cq16, kq16, q16a, q16b, q16c⟩ := isOf hZ rfl J15.1.1
  obtain ⟨_, _, ⟨T16, L16, k16, n16⟩, -, X16, ⟨Lc16, hQ16, l16, y16, z16⟩, st16⟩ := X15.virtualBack hx (y := y_1) hown (zT hZ hw 117 rfl) (zT hZ hw 118 rfl) (notFace_of_selects (args := #[]) (zT hZ hw 120 rfl)) (zT hZ hw 120 rfl) (zT hZ hw 119 rfl) (by decide) (backOf (W := 0) (r20a l Z a0 hw [] b (10 : Int32) t15 _ c15 T15.heap n0 J15.2.2.2.2.2 J15.1 g_b J15.2.1 CS J15.2.2.2.2.1 (by decide) (by rw [hln16]; omega) (by omega)) hZ (zW hw 121 rfl) (zW hw 39 rfl) (by decide) (by decide)) q16a q16c (g := (mkF m 23 #[.val (.ref a1), .val (.ref a2), .val (.ref a3), .val (.long q4), .second] [.int 10, .ref b])) rfl (by rw [hml]; rfl) (Steps.refl _) (argsL := [.int 10]) (rest := []) (lenOf own_pdC rfl) rfl (Nat.le_of_eq rfl) (D29 hby 11 rfl) (fun _ _ => ⟨rfl, rfl, (by show 1 + 0 ≤ 1; decide), (by show 142 + 0 ≤ 142; decide)⟩)
  dsimp only [Pt.U, Pt.locs, Pt.cells, Pt.slots] at X16 l16 y16 z16 st16 hQ16
  subst l16 y16 z16
  obtain ⟨rfl, Nq16, St16⟩ := hQ16
  have N16 := Fr.app N15 Nq16
  obtain ⟨c16, t16, hP16, J16, ht16, K16⟩ := J15.op g_b St16
  unfold own_P at hP16
  rw [hln16] at hP16
  have hcc16 : c16 = 70 := by omega
  clear hP16 hcc15
  have Snm16 := own_Sn.op hw Snm15 K16 J15.1 ht16
  have Sem16 := own_Sn.op hw Sem15 K16 J15.1 ht16
  obtain ⟨fs, hr, hrun, hended, hW, hsame⟩ := X16.leave (v := none) (fun _ => rfl)
  refine ⟨_, _, pre0 _ ?_, hrun, hended, _, _, rfl, ?_, ⟨_, rfl⟩, hW, hsame.mono (by decide) (by decide)⟩
  · refine XS.aloadN X0.here hx rfl (D29 hby 0 rfl) rfl rfl ?_
    refine st11 _ ?_
    refine XS.aloadN X11.here hx rfl (D29 hby 2 rfl) rfl rfl ?_
    refine st12.trans ?_
    refine XS.aloadN X12.here hx rfl (D29 hby 4 rfl) rfl rfl ?_
    refine st13.trans ?_
    refine XS.bipush X13.here hx rfl (D29 hby 6 rfl) ?_
    refine st14.trans ?_
    refine XS.lloadN X14.here hx rfl (D29 hby 8 rfl) rfl ?_
    refine st15.trans ?_
    refine XS.bipush X15.here hx rfl (D29 hby 10 rfl) ?_
    refine st16.trans ?_
    refine XS.pop X16.here hx rfl (D29 hby 12 rfl) rfl rfl ?_
    exact X16.returnOut hx Bd.returns (D29 hby 13 rfl) hr
  · exact ⟨rfl, N16, J16.2.2.1, c16, t16, by show c16 = _; omega, J16.1, J16.2.2.2.1, J16.2.1⟩
theorem r29_2 (l : Launch) (Z : State) (a0 : Array Value) (hw : zH Z a0) (ws : List Jvm.Cond) (a1 a2 a3 : Addr) (q4 : Int64) (b t0 : Addr) (cs nm : List Int32) (c_ nn : Nat) (h0 : Heap) (n0 : Nat) (Z0 : n0 ≤ h0.size) (FT : Fld Z h0 a1 "com/example/dealt/dealt/metrics/Exposition" "text" "Ljava/lang/StringBuilder;" (.ref b)) (SB : own_SBv Z h0 b cs c_ t0) (g_b : n0 ≤ b) (g_t0 : n0 ≤ t0) (CS : own_CS Z Z.heap) (O : Old Z n0 h0) (Snm : own_Sn Z h0 a2 nm t0) (h_nm : nm.length = 2) (Sem : own_Sn Z h0 a3 own_L22 t0) (hn : nn ≤ 2 ^ 63) (hnx : (if q4 < 0 then q4 else -q4) = Jvm.Free.SBG.negL nn) (DG : own_DG Z) (hc0 : c_ = 70 ∨ c_ = 142) (hl0 : cs.length = 66 + (own_num q4 nn).length) :
    zM l Z h0 ws y_17 prog_28_method_9_code 5 none (zr 6 3 426 132) #[.ref a1, .ref a2, .ref a3, (.long q4)] (QS Z b t0 (((((cs ++ nm) ++ own_L22) ++ [(32 : Int32)]) ++ (own_num q4 nn)) ++ [(10 : Int32)]) (fun c' => c' = 142) h0 n0) := by
  refine MetFree.of_bodySF (plainFor_of_name pn_34) hisR ?_
  intro p e s m args below meth c s₁ Bd hml0 hP hK
  obtain ⟨rfl, hZ, hh⟩ := hP
  have hx := Bd.exec
  have hby := Bd.bytes
  have hml : c.maxLocals = 5 := hml0
  have hown : s.vm.findClass "com/example/dealt/dealt/metrics/Exposition" = some m.cls := findClass_of_methodNamed Bd.named
  have X0 : Stand p l e (zr 6 3 426 132) s m #[.ref a1, .ref a2, .ref a3, (.long q4)] below meth c s₁ [] 0 0 := Stand.of_body Bd
  have e0 : s₁.heap = h0 := by rw [← hh, Bd.state]; rfl
  have N0 := Fr.nil n0
  have pre0 := zP p e below s₁ (ef_29 m a1 a2 a3 q4)
  have J0 := own_J.start SB g_t0 O Z0
  have hnl := own_num_le q4 nn
  obtain ⟨T11, X11, e11, st11⟩ := getF X0 hx hZ hown (host := "") (Or.inl (zW hw 55 rfl)) Via.refl e0 FT (g := (mkF m 1 #[.val (.ref a1), .val (.ref a2), .val (.ref a3), .val (.long q4), .second] [.ref a1])) rfl rfl (D29 hby 1 rfl)
  have hl12 := own_len2 hl0 (show nm.length = 2 from h_nm)
  have hln12 : (cs.length + nm.length) = _ := own_lenA (xs := nm) hl12
  obtain ⟨cq12, kq12, q12a, q12b, q12c⟩ := isOf hZ e11 J0.1.1
  obtain ⟨_, _, ⟨T12, L12, k12, n12⟩, -, X12, ⟨Lc12, hQ12, l12, y12, z12⟩, st12⟩ := X11.virtualBack hx (y := y_0) hown (zT hZ hw 70 rfl) (zT hZ hw 71 rfl) (notFace_of_selects (args := #[]) (zT hZ hw 73 rfl)) (zT hZ hw 73 rfl) (zT hZ hw 72 rfl) (by decide) (backOf (W := 0) (r12u l Z a0 hw [] b a2 t0 cs nm c_ h0 n0 J0.2.2.2.2.2 J0.1 Snm.1 g_b J0.2.1 CS J0.2.2.2.2.1 Snm.2 (by rw [hln12]; omega) (by rw [hln12]; omega) (by omega)) hZ (zW hw 74 rfl) (zW hw 39 rfl) (by decide) (by decide)) q12a q12c (g := (mkF m 5 #[.val (.ref a1), .val (.ref a2), .val (.ref a3), .val (.long q4), .second] [.ref a2, .ref b])) rfl (by rw [hml]; rfl) (Steps.refl _) (argsL := [.ref a2]) (rest := []) (lenOf own_pdS rfl) rfl (Nat.le_of_eq rfl) (D29 hby 3 rfl) (fun _ _ => ⟨rfl, e11, (by show 0 + 1 ≤ 3; decide), (by show 0 + 142 ≤ 426; decide)⟩)
  dsimp only [Pt.U, Pt.locs, Pt.cells, Pt.slots] at X12 l12 y12 z12 st12 hQ12
  subst l12 y12 z12
  obtain ⟨rfl, Nq12, St12⟩ := hQ12
  have N12 := Fr.app N0 Nq12
  obtain ⟨c12, t12, hP12, J12, ht12, K12⟩ := J0.op g_b St12
  unfold own_P at hP12
  rw [hln12] at hP12
  have hcc12 : c12 = 70 ∨ c12 = 142 := by omega
  clear hP12
  have Snm12 := own_Sn.op hw Snm K12 J0.1 ht12
  have Sem12 := own_Sn.op hw Sem K12 J0.1 ht12
  have hcs12 : (cs ++ nm).length ≤ c12 := by obtain ⟨-, -, -, -, kd_, vd_, B_, hv_, hq_, -⟩ := id J12.1; exact hq_
  rw [hl12] at hcs12
  have hl13 := own_len2 hl12 (show own_L22.length = 0 from rfl)
  have hln13 : ((cs ++ nm).length + own_L22.length) = _ := own_lenA (xs := own_L22) hl13
  obtain ⟨cq13, kq13, q13a, q13b, q13c⟩ := isOf hZ rfl J12.1.1
  obtain ⟨_, _, ⟨T13, L13, k13, n13⟩, -, X13, ⟨Lc13, hQ13, l13, y13, z13⟩, st13⟩ := X12.virtualBack hx (y := y_0) hown (zT hZ hw 70 rfl) (zT hZ hw 71 rfl) (notFace_of_selects (args := #[]) (zT hZ hw 73 rfl)) (zT hZ hw 73 rfl) (zT hZ hw 72 rfl) (by decide) (backOf (W := 0) (r12a l Z a0 hw [] b a3 t12 _ own_L22 c12 T12.heap n0 J12.2.2.2.2.2 J12.1 Sem12.1 g_b J12.2.1 CS J12.2.2.2.2.1 Sem12.2 (by rw [hln13]; omega) (by omega)) hZ (zW hw 74 rfl) (zW hw 39 rfl) (by decide) (by decide)) q13a q13c (g := (mkF m 9 #[.val (.ref a1), .val (.ref a2), .val (.ref a3), .val (.long q4), .second] [.ref a3, .ref b])) rfl (by rw [hml]; rfl) (Steps.refl _) (argsL := [.ref a3]) (rest := []) (lenOf own_pdS rfl) rfl (Nat.le_of_eq rfl) (D29 hby 5 rfl) (fun _ _ => ⟨rfl, rfl, (by show 1 + 0 ≤ 3; decide), (by show 142 + 0 ≤ 426; decide)⟩)
  dsimp only [Pt.U, Pt.locs, Pt.cells, Pt.slots] at X13 l13 y13 z13 st13 hQ13
  subst l13 y13 z13
  obtain ⟨rfl, Nq13, St13⟩ := hQ13
  have N13 := Fr.app N12 Nq13
  obtain ⟨c13, t13, hP13, J13, ht13, K13⟩ := J12.op g_b St13
  unfold own_P at hP13
  rw [hln13] at hP13
  have hcc13 : c13 = 70 ∨ c13 = 142 := by omega
  clear hP13 hcc12
  have Snm13 := own_Sn.op hw Snm12 K13 J12.1 ht13
  have Sem13 := own_Sn.op hw Sem12 K13 J12.1 ht13
  clear hcs12
  have hl14 := own_len2 hl13 (show [(32 : Int32)].length = 1 from rfl)
  have hln14 : (((cs ++ nm) ++ own_L22).length + 1) = _ := own_lenA (xs := [(32 : Int32)]) hl14
  obtain ⟨cq14, kq14, q14a, q14b, q14c⟩ := isOf hZ rfl J13.1.1
  obtain ⟨_, _, ⟨T14, L14, k14, n14⟩, -, X14, ⟨Lc14, hQ14, l14, y14, z14⟩, st14⟩ := X13.virtualBack hx (y := y_1) hown (zT hZ hw 117 rfl) (zT hZ hw 118 rfl) (notFace_of_selects (args := #[]) (zT hZ hw 120 rfl)) (zT hZ hw 120 rfl) (zT hZ hw 119 rfl) (by decide) (backOf (W := 0) (r20u l Z a0 hw [] b (32 : Int32) t13 _ c13 T13.heap n0 J13.2.2.2.2.2 J13.1 g_b J13.2.1 CS J13.2.2.2.2.1 (by decide) (by rw [hln14]; omega) (by rw [hln14]; omega) (by omega)) hZ (zW hw 121 rfl) (zW hw 39 rfl) (by decide) (by decide)) q14a q14c (g := (mkF m 14 #[.val (.ref a1), .val (.ref a2), .val (.ref a3), .val (.long q4), .second] [.int 32, .ref b])) rfl (by rw [hml]; rfl) (Steps.refl _) (argsL := [.int 32]) (rest := []) (lenOf own_pdC rfl) rfl (Nat.le_of_eq rfl) (D29 hby 7 rfl) (fun _ _ => ⟨rfl, rfl, (by show 1 + 1 ≤ 3; decide), (by show 142 + 142 ≤ 426; decide)⟩)
  dsimp only [Pt.U, Pt.locs, Pt.cells, Pt.slots] at X14 l14 y14 z14 st14 hQ14
  subst l14 y14 z14
  obtain ⟨rfl, Nq14, St14⟩ := hQ14
  have N14 := Fr.app N13 Nq14
  obtain ⟨c14, t14, hP14, J14, ht14, K14⟩ := J13.op g_b St14
  unfold own_P at hP14
  rw [hln14] at hP14
  have hcc14 : c14 = 70 ∨ c14 = 142 := by omega
  clear hP14 hcc13
  have Snm14 := own_Sn.op hw Snm13 K14 J13.1 ht14
  have Sem14 := own_Sn.op hw Sem13 K14 J13.1 ht14
  have hl15 := own_len2 hl14 (rfl : (own_num q4 nn).length = (own_num q4 nn).length)
  have hln15 : ((((cs ++ nm) ++ own_L22) ++ [(32 : Int32)]).length + (own_num q4 nn).length) = _ := own_lenA (xs := (own_num q4 nn)) hl15
  obtain ⟨cq15, kq15, q15a, q15b, q15c⟩ := isOf hZ rfl J14.1.1
  obtain ⟨_, _, ⟨T15, L15, k15, n15⟩, -, X15, ⟨Lc15, hQ15, l15, y15, z15⟩, st15⟩ := X14.virtualBack hx (y := y_16) hown (zT hZ hw 164 rfl) (zT hZ hw 165 rfl) (notFace_of_selects (args := #[]) (zT hZ hw 167 rfl)) (zT hZ hw 167 rfl) (zT hZ hw 166 rfl) (by decide) (backOf (W := 0) (r30u l Z a0 hw [] b q4 t14 _ c14 nn T14.heap n0 J14.2.2.2.2.2 J14.1 g_b J14.2.1 CS J14.2.2.2.2.1 hn hnx DG (by rw [hln15]; omega) (by rw [hln15]; omega) (by omega)) hZ (zW hw 168 rfl) (zW hw 39 rfl) (by decide) (by decide)) q15a q15c (g := (mkF m 18 #[.val (.ref a1), .val (.ref a2), .val (.ref a3), .val (.long q4), .second] [(.long q4), .ref b])) rfl (by rw [hml]; rfl) (Steps.refl _) (argsL := [(.long q4)]) (rest := []) (lenOf own_pdJ rfl) rfl (Nat.le_of_eq rfl) (D29 hby 9 rfl) (fun _ _ => ⟨rfl, rfl, (by show 2 + 1 ≤ 3; decide), (by show 284 + 142 ≤ 426; decide)⟩)
  dsimp only [Pt.U, Pt.locs, Pt.cells, Pt.slots] at X15 l15 y15 z15 st15 hQ15
  subst l15 y15 z15
  obtain ⟨rfl, Nq15, St15⟩ := hQ15
  have N15 := Fr.app N14 Nq15
  obtain ⟨c15, t15, hP15, J15, ht15, K15⟩ := J14.op g_b St15
  unfold own_P at hP15
  rw [hln15] at hP15
  have hcc15 : c15 = 70 ∨ c15 = 142 := by omega
  clear hP15 hcc14
  have Snm15 := own_Sn.op hw Snm14 K15 J14.1 ht15
  have Sem15 := own_Sn.op hw Sem14 K15 J14.1 ht15
  have hcs15 : ((((cs ++ nm) ++ own_L22) ++ [(32 : Int32)]) ++ (own_num q4 nn)).length ≤ c15 := by obtain ⟨-, -, -, -, kd_, vd_, B_, hv_, hq_, -⟩ := id J15.1; exact hq_
  rw [hl15] at hcs15
  have hl16 := own_len2 hl15 (show [(10 : Int32)].length = 1 from rfl)
  have hln16 : (((((cs ++ nm) ++ own_L22) ++ [(32 : Int32)]) ++ (own_num q4 nn)).length + 1) = _ := own_lenA (xs := [(10 : Int32)]) hl16
  obtain ⟨cq16, kq16, q16a, q16b, q16c⟩ := isOf hZ rfl J15.1.1
  obtain ⟨_, _, ⟨T16, L16, k16, n16⟩, -, X16, ⟨Lc16, hQ16, l16, y16, z16⟩, st16⟩ := X15.virtualBack hx (y := y_1) hown (zT hZ hw 117 rfl) (zT hZ hw 118 rfl) (notFace_of_selects (args := #[]) (zT hZ hw 120 rfl)) (zT hZ hw 120 rfl) (zT hZ hw 119 rfl) (by decide) (backOf (W := 0) (r20a l Z a0 hw [] b (10 : Int32) t15 _ c15 T15.heap n0 J15.2.2.2.2.2 J15.1 g_b J15.2.1 CS J15.2.2.2.2.1 (by decide) (by rw [hln16]; omega) (by omega)) hZ (zW hw 121 rfl) (zW hw 39 rfl) (by decide) (by decide)) q16a q16c (g := (mkF m 23 #[.val (.ref a1), .val (.ref a2), .val (.ref a3), .val (.long q4), .second] [.int 10, .ref b])) rfl (by rw [hml]; rfl) (Steps.refl _) (argsL := [.int 10]) (rest := []) (lenOf own_pdC rfl) rfl (Nat.le_of_eq rfl) (D29 hby 11 rfl) (fun _ _ => ⟨rfl, rfl, (by show 3 + 0 ≤ 3; decide), (by show 426 + 0 ≤ 426; decide)⟩)
  dsimp only [Pt.U, Pt.locs, Pt.cells, Pt.slots] at X16 l16 y16 z16 st16 hQ16
  subst l16 y16 z16
  obtain ⟨rfl, Nq16, St16⟩ := hQ16
  have N16 := Fr.app N15 Nq16
  obtain ⟨c16, t16, hP16, J16, ht16, K16⟩ := J15.op g_b St16
  unfold own_P at hP16
  rw [hln16] at hP16
  have hcc16 : c16 = 142 := by omega
  clear hP16 hcc15
  have Snm16 := own_Sn.op hw Snm15 K16 J15.1 ht16
  have Sem16 := own_Sn.op hw Sem15 K16 J15.1 ht16
  obtain ⟨fs, hr, hrun, hended, hW, hsame⟩ := X16.leave (v := none) (fun _ => rfl)
  refine ⟨_, _, pre0 _ ?_, hrun, hended, _, _, rfl, ?_, ⟨_, rfl⟩, hW, hsame.mono (by decide) (by decide)⟩
  · refine XS.aloadN X0.here hx rfl (D29 hby 0 rfl) rfl rfl ?_
    refine st11 _ ?_
    refine XS.aloadN X11.here hx rfl (D29 hby 2 rfl) rfl rfl ?_
    refine st12.trans ?_
    refine XS.aloadN X12.here hx rfl (D29 hby 4 rfl) rfl rfl ?_
    refine st13.trans ?_
    refine XS.bipush X13.here hx rfl (D29 hby 6 rfl) ?_
    refine st14.trans ?_
    refine XS.lloadN X14.here hx rfl (D29 hby 8 rfl) rfl ?_
    refine st15.trans ?_
    refine XS.bipush X15.here hx rfl (D29 hby 10 rfl) ?_
    refine st16.trans ?_
    refine XS.pop X16.here hx rfl (D29 hby 12 rfl) rfl rfl ?_
    exact X16.returnOut hx Bd.returns (D29 hby 13 rfl) hr
  · exact ⟨rfl, N16, J16.2.2.1, c16, t16, by show c16 = _; omega, J16.1, J16.2.2.2.1, J16.2.1⟩
theorem own_J.sub {Z : State} {h0 h h' : Heap} {n0 : Nat} {b t0 t t' : Addr} {cs cs' : List Int32} {c c' : Nat} (J : own_J Z h0 n0 b t0 h cs c t) (g_b : n0 ≤ b) (K' : Keep h h' [b, t]) (SB' : own_SBv Z h' b cs' c' t') (ht' : t' = t ∨ h.size ≤ t') : own_J Z h0 n0 b t0 h' cs' c' t' := by
  obtain ⟨SB, g, K, ht, O, z⟩ := J
  refine ⟨SB', ?_, K.trans K' (allS (Or.inl (List.mem_of_getElem? (i := 0) rfl)) (allS (own_t_in ht) all0)), ?_, O.keep K' (allS g_b (allS g all0)), Nat.le_trans z K'.1⟩
  · exact own_t_ge z g ht'
  · rcases ht' with rfl | q
    · exact ht
    · exact Or.inr (Nat.le_trans K.1 q)
theorem own_selQ {Z : State} {a0 : Array Value} {C : String} {y0 y : MethodName} (hs : (Cond.selects C y0 y0).before a0 Z = true) (hi0 : (Cond.instanceMethod y0).before a0 Z = true) (hc : y.cls = y0.cls) (hp : (Cond.privateMethod y).before a0 Z = true) (hi : (Cond.instanceMethod y).before a0 Z = true) (hy : y.cls ≠ "java/lang/invoke/MethodHandle" ∧ y.cls ≠ "java/lang/invoke/VarHandle") : (Cond.selects y.cls y y).before a0 Z = true := by
  obtain ⟨mk, methM, hnamed, hmethM, -, -⟩ := Cond.instanceMethod_spec hi
  obtain ⟨kP, hk, hf⟩ := own_nf (notFace_of_selects hs) hi0 hc mk hnamed
  exact Jvm.Stand.selects_self_of_private (findClass_of_methodNamed hnamed) hk hf (Cond.privateMethod_at hp) hi hy
theorem own_pdH : parseMethodDescriptor "(Ljava/lang/String;Ljava/lang/String;Ljava/lang/String;)V" = some ⟨[.object "java/lang/String", .object "java/lang/String", .object "java/lang/String"], none⟩ := by decide +kernel
theorem own_pdM : parseMethodDescriptor "(Ljava/lang/String;Ljava/lang/String;J)V" = some ⟨[.object "java/lang/String", .object "java/lang/String", .long], none⟩ := by decide +kernel
def l11 : List (Nat × Instr × Nat) := [(0, .aload_n 0, 1), (1, .getfield 10, 3), (4, .ldc 87, 2), (6, .invokevirtual 69, 3), (9, .aload_n 1, 1), (10, .invokevirtual 69, 3), (13, .bipush 32, 2), (15, .invokevirtual 79, 3), (18, .aload_n 3, 1), (19, .invokevirtual 69, 3), (22, .bipush 10, 2), (24, .invokevirtual 79, 3), (27, .pop, 1), (28, .aload_n 0, 1), (29, .getfield 10, 3), (32, .ldc 89, 2), (34, .invokevirtual 69, 3), (37, .aload_n 1, 1), (38, .invokevirtual 69, 3), (41, .bipush 32, 2), (43, .invokevirtual 79, 3), (46, .aload_n 2, 1), (47, .invokevirtual 69, 3), (50, .bipush 10, 2), (52, .invokevirtual 79, 3), (55, .pop, 1), (56, .return_, 1)]
theorem D11 {c : Code} (h : c.code = prog_28_method_8_code) : zQ c l11 := zD h (by decide +kernel)
theorem ef_11 (m : MethodId) (x0 : Addr) (x1 : Addr) (x2 : Addr) (x3 : Addr) : entryFrame m #[.ref x0, .ref x1, .ref x2, .ref x3] 4 = mkF m 0 #[.val (.ref x0), .val (.ref x1), .val (.ref x2), .val (.ref x3)] [] := by first | (simp [entryFrame, mkF, argsToLocals, Value.category]; done) | rfl
def l10 : List (Nat × Instr × Nat) := [(0, .aload_n 0, 1), (1, .aload_n 1, 1), (2, .ldc 38, 2), (4, .aload_n 2, 1), (5, .invokevirtual 18, 3), (8, .aload_n 0, 1), (9, .aload_n 1, 1), (10, .ldc 22, 2), (12, .lload_n 3, 1), (13, .invokevirtual 24, 3), (16, .return_, 1)]
theorem D10 {c : Code} (h : c.code = prog_28_method_4_code) : zQ c l10 := zD h (by decide +kernel)
theorem r11_1 (l : Launch) (Z : State) (a0 : Array Value) (hw : zH Z a0) (hwS : ∀ d ∈ Bundle.stringAtoms, d.before a0 Z = true) (ws : List Jvm.Cond) (a1 a2 a3 a4 : Addr) (b t0 : Addr) (cs nm ty hp : List Int32) (c_ : Nat) (h0 : Heap) (n0 : Nat) (Z0 : n0 ≤ h0.size) (E_a1 : Exa Z h0 a1 "com/example/dealt/dealt/metrics/Exposition") (FT : Fld Z h0 a1 "com/example/dealt/dealt/metrics/Exposition" "text" "Ljava/lang/StringBuilder;" (.ref b)) (SB : own_SBv Z h0 b cs c_ t0) (g_b : n0 ≤ b) (g_t0 : n0 ≤ t0) (CS : own_CS Z Z.heap) (O : Old Z n0 h0) (Snm : own_Sn Z h0 a2 nm t0) (h_nm : nm.length = 2) (Sty : own_Sn Z h0 a3 ty t0) (h_ty : ty.length = 7) (Shp : own_Sn Z h0 a4 hp t0) (h_hp : hp.length = 2) (hc0 : c_ = 16) (hl0 : cs.length = 0) :
    MetFree l y_18 (head1 (Jvm.Cond.code y_18 prog_28_method_8_code 4 none :: ws) (zr 6 5 206 89)) (fun a U => a = #[.ref a1, .ref a2, .ref a3, .ref a4] ∧ Z.Warmed39 U.vm ∧ U.heap = h0 ∧ CHv Z own_EL U.vm h0) (fun _ _ _ _ _ => True) (fun _ U o U' => ∃ v L, o = .returned v ∧ QS Z b t0 ((((((((((cs ++ own_L87) ++ nm) ++ [(32 : Int32)]) ++ hp) ++ [(10 : Int32)]) ++ own_L89) ++ nm) ++ [(32 : Int32)]) ++ ty) ++ [(10 : Int32)]) (fun c' => c' = 34) h0 n0 v U'.heap L ∧ CHr Z own_EL U.vm U.heap U'.vm U'.heap ∧ ReturnedEndW U o U' L (zr 6 5 206 89).cells (zr 6 5 206 89).slots) := by
  refine MetFree.of_bodySF (plainFor_of_name pn_34) hisR ?_
  intro p e s m args below meth c s₁ Bd hml0 hP hK
  obtain ⟨rfl, hZ, hh, hC⟩ := hP
  have hx := Bd.exec
  have hby := Bd.bytes
  have hml : c.maxLocals = 4 := hml0
  have hown : s.vm.findClass "com/example/dealt/dealt/metrics/Exposition" = some m.cls := findClass_of_methodNamed Bd.named
  have X0 : Stand p l e (zr 6 5 206 89) s m #[.ref a1, .ref a2, .ref a3, .ref a4] below meth c s₁ [] 0 0 := Stand.of_body Bd
  have e0 : s₁.heap = h0 := by rw [← hh, Bd.state]; rfl
  have N0 := Fr.nil n0
  have pre0 := zP p e below s₁ (ef_11 m a1 a2 a3 a4)
  have hEL := own_EW hw
  have J0 := own_J.start SB g_t0 O Z0
  have C0 := CHr.refl hC
  have ha1 : a1 ∉ [b, t0] := by
    obtain ⟨EB, -, -, -, kd_, vd_, B_, -⟩ := id SB
    exact ninS (Exa.ne E_a1 EB (by decide)) (ninS (Exa.neArv E_a1 B_ (zW hw 31 rfl)) nin0)
  obtain ⟨T11, X11, e11, st11⟩ := getF X0 hx hZ hown (host := "") (Or.inl (zW hw 55 rfl)) Via.refl e0 FT (g := (mkF m 1 #[.val (.ref a1), .val (.ref a2), .val (.ref a3), .val (.ref a4)] [.ref a1])) rfl rfl (D11 hby 1 rfl)
  obtain ⟨a12, T12, h12, k12, bb12, kb12, X12, e12, E12, S12, hk12, hZ12, hown12, Ea12, Fc12, Fv12, Va12, la12, lb12, C12, L12, hs12, st12⟩ := ldcCH (s := s) (vm0 := s.vm) (EL := own_EL) X11 hx hZ hown (zW hw 69 rfl) hwS e11 (k0 := 0) own_noW (Nat.zero_le _) hEL (by decide) C0.1 (vs := own_by own_L87) (z := Int32.ofNat 7) own_tx87 (by decide) rfl (g := (mkF m 4 #[.val (.ref a1), .val (.ref a2), .val (.ref a3), .val (.ref a4)] [.ref b])) rfl (D11 hby 2 rfl) (n := 28) (by rw [own_tl87]; decide) (by decide) (by show 0 + 2 ≤ 5; decide) (by show 0 + 32 ≤ 206; decide)
  have J12 := J0.ext E12
  have CC12 := C0.trans C12
  have Sf12 : Safe Z own_EL T12.vm h12 t0 := by
    obtain ⟨-, -, -, -, kd_, vd_, B_, -⟩ := id J12.1
    exact own_safe hw hZ12 B_ (by omega) (by omega)
  have Sn12 : own_Sn Z h12 a12 own_L87 t0 := ⟨⟨Ea12, Fc12, bb12, kb12, Fv12, Va12⟩, fun x F => by cases own_Fu F Fv12; exact (hs12 _ Sf12).2.symm⟩
  have Snm12 := Snm.ext E12
  have Sty12 := Sty.ext E12
  have Shp12 := Shp.ext E12
  have hl13 := own_len2 hl0 (show own_L87.length = 7 from rfl)
  have hln13 : (cs.length + own_L87.length) = _ := own_lenA (xs := own_L87) hl13
  obtain ⟨cq13, kq13, q13a, q13b, q13c⟩ := isOf hZ12 e12 J12.1.1
  obtain ⟨_, _, ⟨T13, L13, k13, n13⟩, -, X13, ⟨Lc13, hQ13, l13, y13, z13⟩, st13⟩ := X12.virtualBack hx (y := y_0) hown12 (zT hZ12 hw 70 rfl) (zT hZ12 hw 71 rfl) (notFace_of_selects (args := #[]) (zT hZ12 hw 73 rfl)) (zT hZ12 hw 73 rfl) (zT hZ12 hw 72 rfl) (by decide) (backOf (W := 0) (r12a l Z a0 hw [] b a12 t0 cs own_L87 c_ h12 n0 J12.2.2.2.2.2 J12.1 Sn12.1 g_b J12.2.1 CS J12.2.2.2.2.1 Sn12.2 (by rw [hln13]; omega) (by omega)) hZ12 (zW hw 74 rfl) (zW hw 39 rfl) (by decide) (by decide)) q13a q13c (g := (mkF m 6 #[.val (.ref a1), .val (.ref a2), .val (.ref a3), .val (.ref a4)] [.ref a12, .ref b])) rfl (by rw [hml]; rfl) (Steps.refl _) (argsL := [.ref a12]) (rest := []) (lenOf own_pdS rfl) rfl (Nat.le_of_eq rfl) (D11 hby 3 rfl) (fun _ _ => ⟨rfl, e12, (by show 2 + 0 ≤ 5; decide), (by show 32 + 0 ≤ 206; decide)⟩)
  dsimp only [Pt.U, Pt.locs, Pt.cells, Pt.slots] at X13 l13 y13 z13 st13 hQ13
  subst l13 y13 z13
  obtain ⟨rfl, Nq13, St13⟩ := hQ13
  have N13 := Fr.app N0 Nq13
  obtain ⟨c13, t13, hP13, J13, ht13, K13⟩ := J12.op g_b St13
  unfold own_P at hP13
  rw [hln13] at hP13
  have hcc13 : c13 = 16 := by omega
  have CC13 := own_CHop hw CC12 hZ12 K13 J12.1 (by omega) (by omega)
  clear hP13
  have Snm13 := own_Sn.op hw Snm12 K13 J12.1 ht13
  have Sty13 := own_Sn.op hw Sty12 K13 J12.1 ht13
  have Shp13 := own_Sn.op hw Shp12 K13 J12.1 ht13
  have hl14 := own_len2 hl13 (show nm.length = 2 from h_nm)
  have hln14 : ((cs ++ own_L87).length + nm.length) = _ := own_lenA (xs := nm) hl14
  obtain ⟨cq14, kq14, q14a, q14b, q14c⟩ := isOf hZ12 rfl J13.1.1
  obtain ⟨_, _, ⟨T14, L14, k14, n14⟩, -, X14, ⟨Lc14, hQ14, l14, y14, z14⟩, st14⟩ := X13.virtualBack hx (y := y_0) hown12 (zT hZ12 hw 70 rfl) (zT hZ12 hw 71 rfl) (notFace_of_selects (args := #[]) (zT hZ12 hw 73 rfl)) (zT hZ12 hw 73 rfl) (zT hZ12 hw 72 rfl) (by decide) (backOf (W := 0) (r12a l Z a0 hw [] b a2 t13 _ nm c13 T13.heap n0 J13.2.2.2.2.2 J13.1 Snm13.1 g_b J13.2.1 CS J13.2.2.2.2.1 Snm13.2 (by rw [hln14]; omega) (by omega)) hZ12 (zW hw 74 rfl) (zW hw 39 rfl) (by decide) (by decide)) q14a q14c (g := (mkF m 10 #[.val (.ref a1), .val (.ref a2), .val (.ref a3), .val (.ref a4)] [.ref a2, .ref b])) rfl (by rw [hml]; rfl) (Steps.refl _) (argsL := [.ref a2]) (rest := []) (lenOf own_pdS rfl) rfl (Nat.le_of_eq rfl) (D11 hby 5 rfl) (fun _ _ => ⟨rfl, rfl, (by show 2 + 0 ≤ 5; decide), (by show 32 + 0 ≤ 206; decide)⟩)
  dsimp only [Pt.U, Pt.locs, Pt.cells, Pt.slots] at X14 l14 y14 z14 st14 hQ14
  subst l14 y14 z14
  obtain ⟨rfl, Nq14, St14⟩ := hQ14
  have N14 := Fr.app N13 Nq14
  obtain ⟨c14, t14, hP14, J14, ht14, K14⟩ := J13.op g_b St14
  unfold own_P at hP14
  rw [hln14] at hP14
  have hcc14 : c14 = 16 := by omega
  have CC14 := own_CHop hw CC13 hZ12 K14 J13.1 (by omega) (by omega)
  clear hP14 hcc13
  have Snm14 := own_Sn.op hw Snm13 K14 J13.1 ht14
  have Sty14 := own_Sn.op hw Sty13 K14 J13.1 ht14
  have Shp14 := own_Sn.op hw Shp13 K14 J13.1 ht14
  have hl15 := own_len2 hl14 (show [(32 : Int32)].length = 1 from rfl)
  have hln15 : (((cs ++ own_L87) ++ nm).length + 1) = _ := own_lenA (xs := [(32 : Int32)]) hl15
  obtain ⟨cq15, kq15, q15a, q15b, q15c⟩ := isOf hZ12 rfl J14.1.1
  obtain ⟨_, _, ⟨T15, L15, k15, n15⟩, -, X15, ⟨Lc15, hQ15, l15, y15, z15⟩, st15⟩ := X14.virtualBack hx (y := y_1) hown12 (zT hZ12 hw 117 rfl) (zT hZ12 hw 118 rfl) (notFace_of_selects (args := #[]) (zT hZ12 hw 120 rfl)) (zT hZ12 hw 120 rfl) (zT hZ12 hw 119 rfl) (by decide) (backOf (W := 0) (r20a l Z a0 hw [] b (32 : Int32) t14 _ c14 T14.heap n0 J14.2.2.2.2.2 J14.1 g_b J14.2.1 CS J14.2.2.2.2.1 (by decide) (by rw [hln15]; omega) (by omega)) hZ12 (zW hw 121 rfl) (zW hw 39 rfl) (by decide) (by decide)) q15a q15c (g := (mkF m 15 #[.val (.ref a1), .val (.ref a2), .val (.ref a3), .val (.ref a4)] [.int 32, .ref b])) rfl (by rw [hml]; rfl) (Steps.refl _) (argsL := [.int 32]) (rest := []) (lenOf own_pdC rfl) rfl (Nat.le_of_eq rfl) (D11 hby 7 rfl) (fun _ _ => ⟨rfl, rfl, (by show 2 + 0 ≤ 5; decide), (by show 32 + 0 ≤ 206; decide)⟩)
  dsimp only [Pt.U, Pt.locs, Pt.cells, Pt.slots] at X15 l15 y15 z15 st15 hQ15
  subst l15 y15 z15
  obtain ⟨rfl, Nq15, St15⟩ := hQ15
  have N15 := Fr.app N14 Nq15
  obtain ⟨c15, t15, hP15, J15, ht15, K15⟩ := J14.op g_b St15
  unfold own_P at hP15
  rw [hln15] at hP15
  have hcc15 : c15 = 16 := by omega
  have CC15 := own_CHop hw CC14 hZ12 K15 J14.1 (by omega) (by omega)
  clear hP15 hcc14
  have Snm15 := own_Sn.op hw Snm14 K15 J14.1 ht15
  have Sty15 := own_Sn.op hw Sty14 K15 J14.1 ht15
  have Shp15 := own_Sn.op hw Shp14 K15 J14.1 ht15
  have hl16 := own_len2 hl15 (show hp.length = 2 from h_hp)
  have hln16 : ((((cs ++ own_L87) ++ nm) ++ [(32 : Int32)]).length + hp.length) = _ := own_lenA (xs := hp) hl16
  obtain ⟨cq16, kq16, q16a, q16b, q16c⟩ := isOf hZ12 rfl J15.1.1
  obtain ⟨_, _, ⟨T16, L16, k16, n16⟩, -, X16, ⟨Lc16, hQ16, l16, y16, z16⟩, st16⟩ := X15.virtualBack hx (y := y_0) hown12 (zT hZ12 hw 70 rfl) (zT hZ12 hw 71 rfl) (notFace_of_selects (args := #[]) (zT hZ12 hw 73 rfl)) (zT hZ12 hw 73 rfl) (zT hZ12 hw 72 rfl) (by decide) (backOf (W := 0) (r12a l Z a0 hw [] b a4 t15 _ hp c15 T15.heap n0 J15.2.2.2.2.2 J15.1 Shp15.1 g_b J15.2.1 CS J15.2.2.2.2.1 Shp15.2 (by rw [hln16]; omega) (by omega)) hZ12 (zW hw 74 rfl) (zW hw 39 rfl) (by decide) (by decide)) q16a q16c (g := (mkF m 19 #[.val (.ref a1), .val (.ref a2), .val (.ref a3), .val (.ref a4)] [.ref a4, .ref b])) rfl (by rw [hml]; rfl) (Steps.refl _) (argsL := [.ref a4]) (rest := []) (lenOf own_pdS rfl) rfl (Nat.le_of_eq rfl) (D11 hby 9 rfl) (fun _ _ => ⟨rfl, rfl, (by show 2 + 0 ≤ 5; decide), (by show 32 + 0 ≤ 206; decide)⟩)
  dsimp only [Pt.U, Pt.locs, Pt.cells, Pt.slots] at X16 l16 y16 z16 st16 hQ16
  subst l16 y16 z16
  obtain ⟨rfl, Nq16, St16⟩ := hQ16
  have N16 := Fr.app N15 Nq16
  obtain ⟨c16, t16, hP16, J16, ht16, K16⟩ := J15.op g_b St16
  unfold own_P at hP16
  rw [hln16] at hP16
  have hcc16 : c16 = 16 := by omega
  have CC16 := own_CHop hw CC15 hZ12 K16 J15.1 (by omega) (by omega)
  clear hP16 hcc15
  have Snm16 := own_Sn.op hw Snm15 K16 J15.1 ht16
  have Sty16 := own_Sn.op hw Sty15 K16 J15.1 ht16
  have Shp16 := own_Sn.op hw Shp15 K16 J15.1 ht16
  have hl17 := own_len2 hl16 (show [(10 : Int32)].length = 1 from rfl)
  have hln17 : (((((cs ++ own_L87) ++ nm) ++ [(32 : Int32)]) ++ hp).length + 1) = _ := own_lenA (xs := [(10 : Int32)]) hl17
  obtain ⟨cq17, kq17, q17a, q17b, q17c⟩ := isOf hZ12 rfl J16.1.1
  obtain ⟨_, _, ⟨T17, L17, k17, n17⟩, -, X17, ⟨Lc17, hQ17, l17, y17, z17⟩, st17⟩ := X16.virtualBack hx (y := y_1) hown12 (zT hZ12 hw 117 rfl) (zT hZ12 hw 118 rfl) (notFace_of_selects (args := #[]) (zT hZ12 hw 120 rfl)) (zT hZ12 hw 120 rfl) (zT hZ12 hw 119 rfl) (by decide) (backOf (W := 0) (r20a l Z a0 hw [] b (10 : Int32) t16 _ c16 T16.heap n0 J16.2.2.2.2.2 J16.1 g_b J16.2.1 CS J16.2.2.2.2.1 (by decide) (by rw [hln17]; omega) (by omega)) hZ12 (zW hw 121 rfl) (zW hw 39 rfl) (by decide) (by decide)) q17a q17c (g := (mkF m 24 #[.val (.ref a1), .val (.ref a2), .val (.ref a3), .val (.ref a4)] [.int 10, .ref b])) rfl (by rw [hml]; rfl) (Steps.refl _) (argsL := [.int 10]) (rest := []) (lenOf own_pdC rfl) rfl (Nat.le_of_eq rfl) (D11 hby 11 rfl) (fun _ _ => ⟨rfl, rfl, (by show 2 + 0 ≤ 5; decide), (by show 32 + 0 ≤ 206; decide)⟩)
  dsimp only [Pt.U, Pt.locs, Pt.cells, Pt.slots] at X17 l17 y17 z17 st17 hQ17
  subst l17 y17 z17
  obtain ⟨rfl, Nq17, St17⟩ := hQ17
  have N17 := Fr.app N16 Nq17
  obtain ⟨c17, t17, hP17, J17, ht17, K17⟩ := J16.op g_b St17
  unfold own_P at hP17
  rw [hln17] at hP17
  have hcc17 : c17 = 16 := by omega
  have CC17 := own_CHop hw CC16 hZ12 K17 J16.1 (by omega) (by omega)
  clear hP17 hcc16
  have Snm17 := own_Sn.op hw Snm16 K17 J16.1 ht17
  have Sty17 := own_Sn.op hw Sty16 K17 J16.1 ht17
  have Shp17 := own_Sn.op hw Shp16 K17 J16.1 ht17
  obtain ⟨T18, X18, e18, st18⟩ := getF X17 hx hZ12 hown12 (host := "") (Or.inl (zW hw 55 rfl)) Via.refl rfl (FT.keep J17.2.2.1 ha1) (g := (mkF m 29 #[.val (.ref a1), .val (.ref a2), .val (.ref a3), .val (.ref a4)] [.ref a1])) rfl rfl (D11 hby 14 rfl)
  obtain ⟨a19, T19, h19, k19, bb19, kb19, X19, e19, E19, S19, hk19, hZ19, hown19, Ea19, Fc19, Fv19, Va19, la19, lb19, C19, L19, hs19, st19⟩ := ldcCH (s := s) (vm0 := T12.vm) (EL := own_EL) X18 hx hZ12 hown12 (zW hw 135 rfl) hwS e18 S12 (Nat.le_trans (Nat.le_trans (Nat.le_trans (Nat.le_trans (Nat.le_trans hk12 K13.1) K14.1) K15.1) K16.1) K17.1) hEL (by decide) CC17.1 (vs := own_by own_L89) (z := Int32.ofNat 7) own_tx89 (by decide) rfl (g := (mkF m 32 #[.val (.ref a1), .val (.ref a2), .val (.ref a3), .val (.ref a4)] [.ref b])) rfl (D11 hby 15 rfl) (n := 28) (by rw [own_tl89]; decide) (by decide) (by show 2 + 2 ≤ 5; decide) (by show 32 + 32 ≤ 206; decide)
  have J19 := J17.ext E19
  have CC19 := CC17.trans C19
  have Sf19 : Safe Z own_EL T19.vm h19 t17 := by
    obtain ⟨-, -, -, -, kd_, vd_, B_, -⟩ := id J19.1
    exact own_safe hw hZ19 B_ (by omega) (by omega)
  have Sn19 : own_Sn Z h19 a19 own_L89 t17 := ⟨⟨Ea19, Fc19, bb19, kb19, Fv19, Va19⟩, fun x F => by cases own_Fu F Fv19; exact (hs19 _ Sf19).2.symm⟩
  have Snm19 := Snm17.ext E19
  have Sty19 := Sty17.ext E19
  have Shp19 := Shp17.ext E19
  have hl20 := own_len2 hl17 (show own_L89.length = 7 from rfl)
  have hln20 : ((((((cs ++ own_L87) ++ nm) ++ [(32 : Int32)]) ++ hp) ++ [(10 : Int32)]).length + own_L89.length) = _ := own_lenA (xs := own_L89) hl20
  obtain ⟨cq20, kq20, q20a, q20b, q20c⟩ := isOf hZ19 e19 J19.1.1
  obtain ⟨_, _, ⟨T20, L20, k20, n20⟩, -, X20, ⟨Lc20, hQ20, l20, y20, z20⟩, st20⟩ := X19.virtualBack hx (y := y_0) hown19 (zT hZ19 hw 70 rfl) (zT hZ19 hw 71 rfl) (notFace_of_selects (args := #[]) (zT hZ19 hw 73 rfl)) (zT hZ19 hw 73 rfl) (zT hZ19 hw 72 rfl) (by decide) (backOf (W := 0) (r12u l Z a0 hw [] b a19 t17 _ own_L89 c17 h19 n0 J19.2.2.2.2.2 J19.1 Sn19.1 g_b J19.2.1 CS J19.2.2.2.2.1 Sn19.2 (by rw [hln20]; omega) (by rw [hln20]; omega) (by omega)) hZ19 (zW hw 74 rfl) (zW hw 39 rfl) (by decide) (by decide)) q20a q20c (g := (mkF m 34 #[.val (.ref a1), .val (.ref a2), .val (.ref a3), .val (.ref a4)] [.ref a19, .ref b])) rfl (by rw [hml]; rfl) (Steps.refl _) (argsL := [.ref a19]) (rest := []) (lenOf own_pdS rfl) rfl (Nat.le_of_eq rfl) (D11 hby 16 rfl) (fun _ _ => ⟨rfl, e19, (by show 4 + 1 ≤ 5; decide), (by show 64 + 142 ≤ 206; decide)⟩)
  dsimp only [Pt.U, Pt.locs, Pt.cells, Pt.slots] at X20 l20 y20 z20 st20 hQ20
  subst l20 y20 z20
  obtain ⟨rfl, Nq20, St20⟩ := hQ20
  have N20 := Fr.app N17 Nq20
  obtain ⟨c20, t20, hP20, J20, ht20, K20⟩ := J19.op g_b St20
  unfold own_P at hP20
  rw [hln20] at hP20
  have hcc20 : c20 = 34 := by omega
  have CC20 := own_CHop hw CC19 hZ19 K20 J19.1 (by omega) (by omega)
  clear hP20 hcc17
  have Snm20 := own_Sn.op hw Snm19 K20 J19.1 ht20
  have Sty20 := own_Sn.op hw Sty19 K20 J19.1 ht20
  have Shp20 := own_Sn.op hw Shp19 K20 J19.1 ht20
  have hl21 := own_len2 hl20 (show nm.length = 2 from h_nm)
  have hln21 : (((((((cs ++ own_L87) ++ nm) ++ [(32 : Int32)]) ++ hp) ++ [(10 : Int32)]) ++ own_L89).length + nm.length) = _ := own_lenA (xs := nm) hl21
  obtain ⟨cq21, kq21, q21a, q21b, q21c⟩ := isOf hZ19 rfl J20.1.1
  obtain ⟨_, _, ⟨T21, L21, k21, n21⟩, -, X21, ⟨Lc21, hQ21, l21, y21, z21⟩, st21⟩ := X20.virtualBack hx (y := y_0) hown19 (zT hZ19 hw 70 rfl) (zT hZ19 hw 71 rfl) (notFace_of_selects (args := #[]) (zT hZ19 hw 73 rfl)) (zT hZ19 hw 73 rfl) (zT hZ19 hw 72 rfl) (by decide) (backOf (W := 0) (r12a l Z a0 hw [] b a2 t20 _ nm c20 T20.heap n0 J20.2.2.2.2.2 J20.1 Snm20.1 g_b J20.2.1 CS J20.2.2.2.2.1 Snm20.2 (by rw [hln21]; omega) (by omega)) hZ19 (zW hw 74 rfl) (zW hw 39 rfl) (by decide) (by decide)) q21a q21c (g := (mkF m 38 #[.val (.ref a1), .val (.ref a2), .val (.ref a3), .val (.ref a4)] [.ref a2, .ref b])) rfl (by rw [hml]; rfl) (Steps.refl _) (argsL := [.ref a2]) (rest := []) (lenOf own_pdS rfl) rfl (Nat.le_of_eq rfl) (D11 hby 18 rfl) (fun _ _ => ⟨rfl, rfl, (by show 5 + 0 ≤ 5; decide), (by show 206 + 0 ≤ 206; decide)⟩)
  dsimp only [Pt.U, Pt.locs, Pt.cells, Pt.slots] at X21 l21 y21 z21 st21 hQ21
  subst l21 y21 z21
  obtain ⟨rfl, Nq21, St21⟩ := hQ21
  have N21 := Fr.app N20 Nq21
  obtain ⟨c21, t21, hP21, J21, ht21, K21⟩ := J20.op g_b St21
  unfold own_P at hP21
  rw [hln21] at hP21
  have hcc21 : c21 = 34 := by omega
  have CC21 := own_CHop hw CC20 hZ19 K21 J20.1 (by omega) (by omega)
  clear hP21 hcc20
  have Snm21 := own_Sn.op hw Snm20 K21 J20.1 ht21
  have Sty21 := own_Sn.op hw Sty20 K21 J20.1 ht21
  have Shp21 := own_Sn.op hw Shp20 K21 J20.1 ht21
  have hl22 := own_len2 hl21 (show [(32 : Int32)].length = 1 from rfl)
  have hln22 : ((((((((cs ++ own_L87) ++ nm) ++ [(32 : Int32)]) ++ hp) ++ [(10 : Int32)]) ++ own_L89) ++ nm).length + 1) = _ := own_lenA (xs := [(32 : Int32)]) hl22
  obtain ⟨cq22, kq22, q22a, q22b, q22c⟩ := isOf hZ19 rfl J21.1.1
  obtain ⟨_, _, ⟨T22, L22, k22, n22⟩, -, X22, ⟨Lc22, hQ22, l22, y22, z22⟩, st22⟩ := X21.virtualBack hx (y := y_1) hown19 (zT hZ19 hw 117 rfl) (zT hZ19 hw 118 rfl) (notFace_of_selects (args := #[]) (zT hZ19 hw 120 rfl)) (zT hZ19 hw 120 rfl) (zT hZ19 hw 119 rfl) (by decide) (backOf (W := 0) (r20a l Z a0 hw [] b (32 : Int32) t21 _ c21 T21.heap n0 J21.2.2.2.2.2 J21.1 g_b J21.2.1 CS J21.2.2.2.2.1 (by decide) (by rw [hln22]; omega) (by omega)) hZ19 (zW hw 121 rfl) (zW hw 39 rfl) (by decide) (by decide)) q22a q22c (g := (mkF m 43 #[.val (.ref a1), .val (.ref a2), .val (.ref a3), .val (.ref a4)] [.int 32, .ref b])) rfl (by rw [hml]; rfl) (Steps.refl _) (argsL := [.int 32]) (rest := []) (lenOf own_pdC rfl) rfl (Nat.le_of_eq rfl) (D11 hby 20 rfl) (fun _ _ => ⟨rfl, rfl, (by show 5 + 0 ≤ 5; decide), (by show 206 + 0 ≤ 206; decide)⟩)
  dsimp only [Pt.U, Pt.locs, Pt.cells, Pt.slots] at X22 l22 y22 z22 st22 hQ22
  subst l22 y22 z22
  obtain ⟨rfl, Nq22, St22⟩ := hQ22
  have N22 := Fr.app N21 Nq22
  obtain ⟨c22, t22, hP22, J22, ht22, K22⟩ := J21.op g_b St22
  unfold own_P at hP22
  rw [hln22] at hP22
  have hcc22 : c22 = 34 := by omega
  have CC22 := own_CHop hw CC21 hZ19 K22 J21.1 (by omega) (by omega)
  clear hP22 hcc21
  have Snm22 := own_Sn.op hw Snm21 K22 J21.1 ht22
  have Sty22 := own_Sn.op hw Sty21 K22 J21.1 ht22
  have Shp22 := own_Sn.op hw Shp21 K22 J21.1 ht22
  have hl23 := own_len2 hl22 (show ty.length = 7 from h_ty)
  have hln23 : (((((((((cs ++ own_L87) ++ nm) ++ [(32 : Int32)]) ++ hp) ++ [(10 : Int32)]) ++ own_L89) ++ nm) ++ [(32 : Int32)]).length + ty.length) = _ := own_lenA (xs := ty) hl23
  obtain ⟨cq23, kq23, q23a, q23b, q23c⟩ := isOf hZ19 rfl J22.1.1
  obtain ⟨_, _, ⟨T23, L23, k23, n23⟩, -, X23, ⟨Lc23, hQ23, l23, y23, z23⟩, st23⟩ := X22.virtualBack hx (y := y_0) hown19 (zT hZ19 hw 70 rfl) (zT hZ19 hw 71 rfl) (notFace_of_selects (args := #[]) (zT hZ19 hw 73 rfl)) (zT hZ19 hw 73 rfl) (zT hZ19 hw 72 rfl) (by decide) (backOf (W := 0) (r12a l Z a0 hw [] b a3 t22 _ ty c22 T22.heap n0 J22.2.2.2.2.2 J22.1 Sty22.1 g_b J22.2.1 CS J22.2.2.2.2.1 Sty22.2 (by rw [hln23]; omega) (by omega)) hZ19 (zW hw 74 rfl) (zW hw 39 rfl) (by decide) (by decide)) q23a q23c (g := (mkF m 47 #[.val (.ref a1), .val (.ref a2), .val (.ref a3), .val (.ref a4)] [.ref a3, .ref b])) rfl (by rw [hml]; rfl) (Steps.refl _) (argsL := [.ref a3]) (rest := []) (lenOf own_pdS rfl) rfl (Nat.le_of_eq rfl) (D11 hby 22 rfl) (fun _ _ => ⟨rfl, rfl, (by show 5 + 0 ≤ 5; decide), (by show 206 + 0 ≤ 206; decide)⟩)
  dsimp only [Pt.U, Pt.locs, Pt.cells, Pt.slots] at X23 l23 y23 z23 st23 hQ23
  subst l23 y23 z23
  obtain ⟨rfl, Nq23, St23⟩ := hQ23
  have N23 := Fr.app N22 Nq23
  obtain ⟨c23, t23, hP23, J23, ht23, K23⟩ := J22.op g_b St23
  unfold own_P at hP23
  rw [hln23] at hP23
  have hcc23 : c23 = 34 := by omega
  have CC23 := own_CHop hw CC22 hZ19 K23 J22.1 (by omega) (by omega)
  clear hP23 hcc22
  have Snm23 := own_Sn.op hw Snm22 K23 J22.1 ht23
  have Sty23 := own_Sn.op hw Sty22 K23 J22.1 ht23
  have Shp23 := own_Sn.op hw Shp22 K23 J22.1 ht23
  have hl24 := own_len2 hl23 (show [(10 : Int32)].length = 1 from rfl)
  have hln24 : ((((((((((cs ++ own_L87) ++ nm) ++ [(32 : Int32)]) ++ hp) ++ [(10 : Int32)]) ++ own_L89) ++ nm) ++ [(32 : Int32)]) ++ ty).length + 1) = _ := own_lenA (xs := [(10 : Int32)]) hl24
  obtain ⟨cq24, kq24, q24a, q24b, q24c⟩ := isOf hZ19 rfl J23.1.1
  obtain ⟨_, _, ⟨T24, L24, k24, n24⟩, -, X24, ⟨Lc24, hQ24, l24, y24, z24⟩, st24⟩ := X23.virtualBack hx (y := y_1) hown19 (zT hZ19 hw 117 rfl) (zT hZ19 hw 118 rfl) (notFace_of_selects (args := #[]) (zT hZ19 hw 120 rfl)) (zT hZ19 hw 120 rfl) (zT hZ19 hw 119 rfl) (by decide) (backOf (W := 0) (r20a l Z a0 hw [] b (10 : Int32) t23 _ c23 T23.heap n0 J23.2.2.2.2.2 J23.1 g_b J23.2.1 CS J23.2.2.2.2.1 (by decide) (by rw [hln24]; omega) (by omega)) hZ19 (zW hw 121 rfl) (zW hw 39 rfl) (by decide) (by decide)) q24a q24c (g := (mkF m 52 #[.val (.ref a1), .val (.ref a2), .val (.ref a3), .val (.ref a4)] [.int 10, .ref b])) rfl (by rw [hml]; rfl) (Steps.refl _) (argsL := [.int 10]) (rest := []) (lenOf own_pdC rfl) rfl (Nat.le_of_eq rfl) (D11 hby 24 rfl) (fun _ _ => ⟨rfl, rfl, (by show 5 + 0 ≤ 5; decide), (by show 206 + 0 ≤ 206; decide)⟩)
  dsimp only [Pt.U, Pt.locs, Pt.cells, Pt.slots] at X24 l24 y24 z24 st24 hQ24
  subst l24 y24 z24
  obtain ⟨rfl, Nq24, St24⟩ := hQ24
  have N24 := Fr.app N23 Nq24
  obtain ⟨c24, t24, hP24, J24, ht24, K24⟩ := J23.op g_b St24
  unfold own_P at hP24
  rw [hln24] at hP24
  have hcc24 : c24 = 34 := by omega
  have CC24 := own_CHop hw CC23 hZ19 K24 J23.1 (by omega) (by omega)
  clear hP24 hcc23
  have Snm24 := own_Sn.op hw Snm23 K24 J23.1 ht24
  have Sty24 := own_Sn.op hw Sty23 K24 J23.1 ht24
  have Shp24 := own_Sn.op hw Shp23 K24 J23.1 ht24
  have CT := CC24.trans (CHv.at X24 hZ19 hEL CC24.1)
  obtain ⟨fs, hr, hrun, hended, hRW⟩ := X24.leaveW S19 (Nat.le_trans (Nat.le_trans (Nat.le_trans (Nat.le_trans (Nat.le_trans hk19 K20.1) K21.1) K22.1) K23.1) K24.1) (v := none) (fun _ => rfl)
  refine ⟨_, _, pre0 _ ?_, hrun, hended, _, _, rfl, ?_, ?_, ⟨hRW.1, hRW.2.1, hRW.2.2.1, hRW.2.2.2.mono (by decide) (by decide)⟩⟩
  · refine XS.aloadN X0.here hx rfl (D11 hby 0 rfl) rfl rfl ?_
    refine st11 _ ?_
    refine st12 _ ?_
    refine st13.trans ?_
    refine XS.aloadN X13.here hx rfl (D11 hby 4 rfl) rfl rfl ?_
    refine st14.trans ?_
    refine XS.bipush X14.here hx rfl (D11 hby 6 rfl) ?_
    refine st15.trans ?_
    refine XS.aloadN X15.here hx rfl (D11 hby 8 rfl) rfl rfl ?_
    refine st16.trans ?_
    refine XS.bipush X16.here hx rfl (D11 hby 10 rfl) ?_
    refine st17.trans ?_
    refine XS.pop X17.here hx rfl (D11 hby 12 rfl) rfl rfl ?_
    refine XS.aloadN X17.here hx rfl (D11 hby 13 rfl) rfl rfl ?_
    refine st18 _ ?_
    refine st19 _ ?_
    refine st20.trans ?_
    refine XS.aloadN X20.here hx rfl (D11 hby 17 rfl) rfl rfl ?_
    refine st21.trans ?_
    refine XS.bipush X21.here hx rfl (D11 hby 19 rfl) ?_
    refine st22.trans ?_
    refine XS.aloadN X22.here hx rfl (D11 hby 21 rfl) rfl rfl ?_
    refine st23.trans ?_
    refine XS.bipush X23.here hx rfl (D11 hby 23 rfl) ?_
    refine st24.trans ?_
    refine XS.pop X24.here hx rfl (D11 hby 25 rfl) rfl rfl ?_
    exact X24.returnOut hx Bd.returns (D11 hby 26 rfl) hr
  · exact ⟨rfl, N24, J24.2.2.1, c24, t24, by show _; omega, J24.1, J24.2.2.2.1, J24.2.1⟩
  · show CHr Z own_EL s.vm s.heap T24.vm T24.heap
    rw [hh]
    exact CT
theorem r11_2 (l : Launch) (Z : State) (a0 : Array Value) (hw : zH Z a0) (hwS : ∀ d ∈ Bundle.stringAtoms, d.before a0 Z = true) (ws : List Jvm.Cond) (a1 a2 a3 a4 : Addr) (b t0 : Addr) (cs nm ty hp : List Int32) (c_ : Nat) (h0 : Heap) (n0 : Nat) (Z0 : n0 ≤ h0.size) (E_a1 : Exa Z h0 a1 "com/example/dealt/dealt/metrics/Exposition") (FT : Fld Z h0 a1 "com/example/dealt/dealt/metrics/Exposition" "text" "Ljava/lang/StringBuilder;" (.ref b)) (SB : own_SBv Z h0 b cs c_ t0) (g_b : n0 ≤ b) (g_t0 : n0 ≤ t0) (CS : own_CS Z Z.heap) (O : Old Z n0 h0) (Snm : own_Sn Z h0 a2 nm t0) (h_nm : nm.length = 2) (Sty : own_Sn Z h0 a3 ty t0) (h_ty : ty.length = 7) (Shp : own_Sn Z h0 a4 hp t0) (h_hp : hp.length = 2) (kk_ : Nat) (hkk : kk_ ≤ 21) (hc0 : c_ = 70) (hl0 : cs.length = 35 + kk_) :
    MetFree l y_18 (head1 (Jvm.Cond.code y_18 prog_28_method_8_code 4 none :: ws) (zr 6 9 774 89)) (fun a U => a = #[.ref a1, .ref a2, .ref a3, .ref a4] ∧ Z.Warmed39 U.vm ∧ U.heap = h0 ∧ CHv Z own_EL U.vm h0) (fun _ _ _ _ _ => True) (fun _ U o U' => ∃ v L, o = .returned v ∧ QS Z b t0 ((((((((((cs ++ own_L87) ++ nm) ++ [(32 : Int32)]) ++ hp) ++ [(10 : Int32)]) ++ own_L89) ++ nm) ++ [(32 : Int32)]) ++ ty) ++ [(10 : Int32)]) (fun c' => c' = 70 ∨ c' = 142) h0 n0 v U'.heap L ∧ CHr Z own_EL U.vm U.heap U'.vm U'.heap ∧ ReturnedEndW U o U' L (zr 6 9 774 89).cells (zr 6 9 774 89).slots) := by
  refine MetFree.of_bodySF (plainFor_of_name pn_34) hisR ?_
  intro p e s m args below meth c s₁ Bd hml0 hP hK
  obtain ⟨rfl, hZ, hh, hC⟩ := hP
  have hx := Bd.exec
  have hby := Bd.bytes
  have hml : c.maxLocals = 4 := hml0
  have hown : s.vm.findClass "com/example/dealt/dealt/metrics/Exposition" = some m.cls := findClass_of_methodNamed Bd.named
  have X0 : Stand p l e (zr 6 9 774 89) s m #[.ref a1, .ref a2, .ref a3, .ref a4] below meth c s₁ [] 0 0 := Stand.of_body Bd
  have e0 : s₁.heap = h0 := by rw [← hh, Bd.state]; rfl
  have N0 := Fr.nil n0
  have pre0 := zP p e below s₁ (ef_11 m a1 a2 a3 a4)
  have hEL := own_EW hw
  have J0 := own_J.start SB g_t0 O Z0
  have C0 := CHr.refl hC
  have ha1 : a1 ∉ [b, t0] := by
    obtain ⟨EB, -, -, -, kd_, vd_, B_, -⟩ := id SB
    exact ninS (Exa.ne E_a1 EB (by decide)) (ninS (Exa.neArv E_a1 B_ (zW hw 31 rfl)) nin0)
  obtain ⟨T11, X11, e11, st11⟩ := getF X0 hx hZ hown (host := "") (Or.inl (zW hw 55 rfl)) Via.refl e0 FT (g := (mkF m 1 #[.val (.ref a1), .val (.ref a2), .val (.ref a3), .val (.ref a4)] [.ref a1])) rfl rfl (D11 hby 1 rfl)
  obtain ⟨a12, T12, h12, k12, bb12, kb12, X12, e12, E12, S12, hk12, hZ12, hown12, Ea12, Fc12, Fv12, Va12, la12, lb12, C12, L12, hs12, st12⟩ := ldcCH (s := s) (vm0 := s.vm) (EL := own_EL) X11 hx hZ hown (zW hw 69 rfl) hwS e11 (k0 := 0) own_noW (Nat.zero_le _) hEL (by decide) C0.1 (vs := own_by own_L87) (z := Int32.ofNat 7) own_tx87 (by decide) rfl (g := (mkF m 4 #[.val (.ref a1), .val (.ref a2), .val (.ref a3), .val (.ref a4)] [.ref b])) rfl (D11 hby 2 rfl) (n := 28) (by rw [own_tl87]; decide) (by decide) (by show 0 + 2 ≤ 9; decide) (by show 0 + 32 ≤ 774; decide)
  have J12 := J0.ext E12
  have CC12 := C0.trans C12
  have Sf12 : Safe Z own_EL T12.vm h12 t0 := by
    obtain ⟨-, -, -, -, kd_, vd_, B_, -⟩ := id J12.1
    exact own_safe hw hZ12 B_ (by omega) (by omega)
  have Sn12 : own_Sn Z h12 a12 own_L87 t0 := ⟨⟨Ea12, Fc12, bb12, kb12, Fv12, Va12⟩, fun x F => by cases own_Fu F Fv12; exact (hs12 _ Sf12).2.symm⟩
  have Snm12 := Snm.ext E12
  have Sty12 := Sty.ext E12
  have Shp12 := Shp.ext E12
  have hl13 := own_len2 hl0 (show own_L87.length = 7 from rfl)
  have hln13 : (cs.length + own_L87.length) = _ := own_lenA (xs := own_L87) hl13
  obtain ⟨cq13, kq13, q13a, q13b, q13c⟩ := isOf hZ12 e12 J12.1.1
  obtain ⟨_, _, ⟨T13, L13, k13, n13⟩, -, X13, ⟨Lc13, hQ13, l13, y13, z13⟩, st13⟩ := X12.virtualBack hx (y := y_0) hown12 (zT hZ12 hw 70 rfl) (zT hZ12 hw 71 rfl) (notFace_of_selects (args := #[]) (zT hZ12 hw 73 rfl)) (zT hZ12 hw 73 rfl) (zT hZ12 hw 72 rfl) (by decide) (backOf (W := 0) (r12a l Z a0 hw [] b a12 t0 cs own_L87 c_ h12 n0 J12.2.2.2.2.2 J12.1 Sn12.1 g_b J12.2.1 CS J12.2.2.2.2.1 Sn12.2 (by rw [hln13]; omega) (by omega)) hZ12 (zW hw 74 rfl) (zW hw 39 rfl) (by decide) (by decide)) q13a q13c (g := (mkF m 6 #[.val (.ref a1), .val (.ref a2), .val (.ref a3), .val (.ref a4)] [.ref a12, .ref b])) rfl (by rw [hml]; rfl) (Steps.refl _) (argsL := [.ref a12]) (rest := []) (lenOf own_pdS rfl) rfl (Nat.le_of_eq rfl) (D11 hby 3 rfl) (fun _ _ => ⟨rfl, e12, (by show 2 + 0 ≤ 9; decide), (by show 32 + 0 ≤ 774; decide)⟩)
  dsimp only [Pt.U, Pt.locs, Pt.cells, Pt.slots] at X13 l13 y13 z13 st13 hQ13
  subst l13 y13 z13
  obtain ⟨rfl, Nq13, St13⟩ := hQ13
  have N13 := Fr.app N0 Nq13
  obtain ⟨c13, t13, hP13, J13, ht13, K13⟩ := J12.op g_b St13
  unfold own_P at hP13
  rw [hln13] at hP13
  have hcc13 : c13 = 70 := by omega
  have CC13 := own_CHop hw CC12 hZ12 K13 J12.1 (by omega) (by omega)
  clear hP13
  have Snm13 := own_Sn.op hw Snm12 K13 J12.1 ht13
  have Sty13 := own_Sn.op hw Sty12 K13 J12.1 ht13
  have Shp13 := own_Sn.op hw Shp12 K13 J12.1 ht13
  have hl14 := own_len2 hl13 (show nm.length = 2 from h_nm)
  have hln14 : ((cs ++ own_L87).length + nm.length) = _ := own_lenA (xs := nm) hl14
  obtain ⟨cq14, kq14, q14a, q14b, q14c⟩ := isOf hZ12 rfl J13.1.1
  obtain ⟨_, _, ⟨T14, L14, k14, n14⟩, -, X14, ⟨Lc14, hQ14, l14, y14, z14⟩, st14⟩ := X13.virtualBack hx (y := y_0) hown12 (zT hZ12 hw 70 rfl) (zT hZ12 hw 71 rfl) (notFace_of_selects (args := #[]) (zT hZ12 hw 73 rfl)) (zT hZ12 hw 73 rfl) (zT hZ12 hw 72 rfl) (by decide) (backOf (W := 0) (r12a l Z a0 hw [] b a2 t13 _ nm c13 T13.heap n0 J13.2.2.2.2.2 J13.1 Snm13.1 g_b J13.2.1 CS J13.2.2.2.2.1 Snm13.2 (by rw [hln14]; omega) (by omega)) hZ12 (zW hw 74 rfl) (zW hw 39 rfl) (by decide) (by decide)) q14a q14c (g := (mkF m 10 #[.val (.ref a1), .val (.ref a2), .val (.ref a3), .val (.ref a4)] [.ref a2, .ref b])) rfl (by rw [hml]; rfl) (Steps.refl _) (argsL := [.ref a2]) (rest := []) (lenOf own_pdS rfl) rfl (Nat.le_of_eq rfl) (D11 hby 5 rfl) (fun _ _ => ⟨rfl, rfl, (by show 2 + 0 ≤ 9; decide), (by show 32 + 0 ≤ 774; decide)⟩)
  dsimp only [Pt.U, Pt.locs, Pt.cells, Pt.slots] at X14 l14 y14 z14 st14 hQ14
  subst l14 y14 z14
  obtain ⟨rfl, Nq14, St14⟩ := hQ14
  have N14 := Fr.app N13 Nq14
  obtain ⟨c14, t14, hP14, J14, ht14, K14⟩ := J13.op g_b St14
  unfold own_P at hP14
  rw [hln14] at hP14
  have hcc14 : c14 = 70 := by omega
  have CC14 := own_CHop hw CC13 hZ12 K14 J13.1 (by omega) (by omega)
  clear hP14 hcc13
  have Snm14 := own_Sn.op hw Snm13 K14 J13.1 ht14
  have Sty14 := own_Sn.op hw Sty13 K14 J13.1 ht14
  have Shp14 := own_Sn.op hw Shp13 K14 J13.1 ht14
  have hl15 := own_len2 hl14 (show [(32 : Int32)].length = 1 from rfl)
  have hln15 : (((cs ++ own_L87) ++ nm).length + 1) = _ := own_lenA (xs := [(32 : Int32)]) hl15
  obtain ⟨cq15, kq15, q15a, q15b, q15c⟩ := isOf hZ12 rfl J14.1.1
  obtain ⟨_, _, ⟨T15, L15, k15, n15⟩, -, X15, ⟨Lc15, hQ15, l15, y15, z15⟩, st15⟩ := X14.virtualBack hx (y := y_1) hown12 (zT hZ12 hw 117 rfl) (zT hZ12 hw 118 rfl) (notFace_of_selects (args := #[]) (zT hZ12 hw 120 rfl)) (zT hZ12 hw 120 rfl) (zT hZ12 hw 119 rfl) (by decide) (backOf (W := 0) (r20a l Z a0 hw [] b (32 : Int32) t14 _ c14 T14.heap n0 J14.2.2.2.2.2 J14.1 g_b J14.2.1 CS J14.2.2.2.2.1 (by decide) (by rw [hln15]; omega) (by omega)) hZ12 (zW hw 121 rfl) (zW hw 39 rfl) (by decide) (by decide)) q15a q15c (g := (mkF m 15 #[.val (.ref a1), .val (.ref a2), .val (.ref a3), .val (.ref a4)] [.int 32, .ref b])) rfl (by rw [hml]; rfl) (Steps.refl _) (argsL := [.int 32]) (rest := []) (lenOf own_pdC rfl) rfl (Nat.le_of_eq rfl) (D11 hby 7 rfl) (fun _ _ => ⟨rfl, rfl, (by show 2 + 0 ≤ 9; decide), (by show 32 + 0 ≤ 774; decide)⟩)
  dsimp only [Pt.U, Pt.locs, Pt.cells, Pt.slots] at X15 l15 y15 z15 st15 hQ15
  subst l15 y15 z15
  obtain ⟨rfl, Nq15, St15⟩ := hQ15
  have N15 := Fr.app N14 Nq15
  obtain ⟨c15, t15, hP15, J15, ht15, K15⟩ := J14.op g_b St15
  unfold own_P at hP15
  rw [hln15] at hP15
  have hcc15 : c15 = 70 := by omega
  have CC15 := own_CHop hw CC14 hZ12 K15 J14.1 (by omega) (by omega)
  clear hP15 hcc14
  have Snm15 := own_Sn.op hw Snm14 K15 J14.1 ht15
  have Sty15 := own_Sn.op hw Sty14 K15 J14.1 ht15
  have Shp15 := own_Sn.op hw Shp14 K15 J14.1 ht15
  have hl16 := own_len2 hl15 (show hp.length = 2 from h_hp)
  have hln16 : ((((cs ++ own_L87) ++ nm) ++ [(32 : Int32)]).length + hp.length) = _ := own_lenA (xs := hp) hl16
  obtain ⟨cq16, kq16, q16a, q16b, q16c⟩ := isOf hZ12 rfl J15.1.1
  obtain ⟨_, _, ⟨T16, L16, k16, n16⟩, -, X16, ⟨Lc16, hQ16, l16, y16, z16⟩, st16⟩ := X15.virtualBack hx (y := y_0) hown12 (zT hZ12 hw 70 rfl) (zT hZ12 hw 71 rfl) (notFace_of_selects (args := #[]) (zT hZ12 hw 73 rfl)) (zT hZ12 hw 73 rfl) (zT hZ12 hw 72 rfl) (by decide) (backOf (W := 0) (r12a l Z a0 hw [] b a4 t15 _ hp c15 T15.heap n0 J15.2.2.2.2.2 J15.1 Shp15.1 g_b J15.2.1 CS J15.2.2.2.2.1 Shp15.2 (by rw [hln16]; omega) (by omega)) hZ12 (zW hw 74 rfl) (zW hw 39 rfl) (by decide) (by decide)) q16a q16c (g := (mkF m 19 #[.val (.ref a1), .val (.ref a2), .val (.ref a3), .val (.ref a4)] [.ref a4, .ref b])) rfl (by rw [hml]; rfl) (Steps.refl _) (argsL := [.ref a4]) (rest := []) (lenOf own_pdS rfl) rfl (Nat.le_of_eq rfl) (D11 hby 9 rfl) (fun _ _ => ⟨rfl, rfl, (by show 2 + 0 ≤ 9; decide), (by show 32 + 0 ≤ 774; decide)⟩)
  dsimp only [Pt.U, Pt.locs, Pt.cells, Pt.slots] at X16 l16 y16 z16 st16 hQ16
  subst l16 y16 z16
  obtain ⟨rfl, Nq16, St16⟩ := hQ16
  have N16 := Fr.app N15 Nq16
  obtain ⟨c16, t16, hP16, J16, ht16, K16⟩ := J15.op g_b St16
  unfold own_P at hP16
  rw [hln16] at hP16
  have hcc16 : c16 = 70 := by omega
  have CC16 := own_CHop hw CC15 hZ12 K16 J15.1 (by omega) (by omega)
  clear hP16 hcc15
  have Snm16 := own_Sn.op hw Snm15 K16 J15.1 ht16
  have Sty16 := own_Sn.op hw Sty15 K16 J15.1 ht16
  have Shp16 := own_Sn.op hw Shp15 K16 J15.1 ht16
  have hl17 := own_len2 hl16 (show [(10 : Int32)].length = 1 from rfl)
  have hln17 : (((((cs ++ own_L87) ++ nm) ++ [(32 : Int32)]) ++ hp).length + 1) = _ := own_lenA (xs := [(10 : Int32)]) hl17
  obtain ⟨cq17, kq17, q17a, q17b, q17c⟩ := isOf hZ12 rfl J16.1.1
  obtain ⟨_, _, ⟨T17, L17, k17, n17⟩, -, X17, ⟨Lc17, hQ17, l17, y17, z17⟩, st17⟩ := X16.virtualBack hx (y := y_1) hown12 (zT hZ12 hw 117 rfl) (zT hZ12 hw 118 rfl) (notFace_of_selects (args := #[]) (zT hZ12 hw 120 rfl)) (zT hZ12 hw 120 rfl) (zT hZ12 hw 119 rfl) (by decide) (backOf (W := 0) (r20a l Z a0 hw [] b (10 : Int32) t16 _ c16 T16.heap n0 J16.2.2.2.2.2 J16.1 g_b J16.2.1 CS J16.2.2.2.2.1 (by decide) (by rw [hln17]; omega) (by omega)) hZ12 (zW hw 121 rfl) (zW hw 39 rfl) (by decide) (by decide)) q17a q17c (g := (mkF m 24 #[.val (.ref a1), .val (.ref a2), .val (.ref a3), .val (.ref a4)] [.int 10, .ref b])) rfl (by rw [hml]; rfl) (Steps.refl _) (argsL := [.int 10]) (rest := []) (lenOf own_pdC rfl) rfl (Nat.le_of_eq rfl) (D11 hby 11 rfl) (fun _ _ => ⟨rfl, rfl, (by show 2 + 0 ≤ 9; decide), (by show 32 + 0 ≤ 774; decide)⟩)
  dsimp only [Pt.U, Pt.locs, Pt.cells, Pt.slots] at X17 l17 y17 z17 st17 hQ17
  subst l17 y17 z17
  obtain ⟨rfl, Nq17, St17⟩ := hQ17
  have N17 := Fr.app N16 Nq17
  obtain ⟨c17, t17, hP17, J17, ht17, K17⟩ := J16.op g_b St17
  unfold own_P at hP17
  rw [hln17] at hP17
  have hcc17 : c17 = 70 := by omega
  have CC17 := own_CHop hw CC16 hZ12 K17 J16.1 (by omega) (by omega)
  clear hP17 hcc16
  have Snm17 := own_Sn.op hw Snm16 K17 J16.1 ht17
  have Sty17 := own_Sn.op hw Sty16 K17 J16.1 ht17
  have Shp17 := own_Sn.op hw Shp16 K17 J16.1 ht17
  obtain ⟨T18, X18, e18, st18⟩ := getF X17 hx hZ12 hown12 (host := "") (Or.inl (zW hw 55 rfl)) Via.refl rfl (FT.keep J17.2.2.1 ha1) (g := (mkF m 29 #[.val (.ref a1), .val (.ref a2), .val (.ref a3), .val (.ref a4)] [.ref a1])) rfl rfl (D11 hby 14 rfl)
  obtain ⟨a19, T19, h19, k19, bb19, kb19, X19, e19, E19, S19, hk19, hZ19, hown19, Ea19, Fc19, Fv19, Va19, la19, lb19, C19, L19, hs19, st19⟩ := ldcCH (s := s) (vm0 := T12.vm) (EL := own_EL) X18 hx hZ12 hown12 (zW hw 135 rfl) hwS e18 S12 (Nat.le_trans (Nat.le_trans (Nat.le_trans (Nat.le_trans (Nat.le_trans hk12 K13.1) K14.1) K15.1) K16.1) K17.1) hEL (by decide) CC17.1 (vs := own_by own_L89) (z := Int32.ofNat 7) own_tx89 (by decide) rfl (g := (mkF m 32 #[.val (.ref a1), .val (.ref a2), .val (.ref a3), .val (.ref a4)] [.ref b])) rfl (D11 hby 15 rfl) (n := 28) (by rw [own_tl89]; decide) (by decide) (by show 2 + 2 ≤ 9; decide) (by show 32 + 32 ≤ 774; decide)
  have J19 := J17.ext E19
  have CC19 := CC17.trans C19
  have Sf19 : Safe Z own_EL T19.vm h19 t17 := by
    obtain ⟨-, -, -, -, kd_, vd_, B_, -⟩ := id J19.1
    exact own_safe hw hZ19 B_ (by omega) (by omega)
  have Sn19 : own_Sn Z h19 a19 own_L89 t17 := ⟨⟨Ea19, Fc19, bb19, kb19, Fv19, Va19⟩, fun x F => by cases own_Fu F Fv19; exact (hs19 _ Sf19).2.symm⟩
  have Snm19 := Snm17.ext E19
  have Sty19 := Sty17.ext E19
  have Shp19 := Shp17.ext E19
  have hl20 := own_len2 hl17 (show own_L89.length = 7 from rfl)
  have hln20 : ((((((cs ++ own_L87) ++ nm) ++ [(32 : Int32)]) ++ hp) ++ [(10 : Int32)]).length + own_L89.length) = _ := own_lenA (xs := own_L89) hl20
  obtain ⟨cq20, kq20, q20a, q20b, q20c⟩ := isOf hZ19 e19 J19.1.1
  obtain ⟨_, _, ⟨T20, L20, k20, n20⟩, -, X20, ⟨Lc20, hQ20, l20, y20, z20⟩, st20⟩ := X19.virtualBack hx (y := y_0) hown19 (zT hZ19 hw 70 rfl) (zT hZ19 hw 71 rfl) (notFace_of_selects (args := #[]) (zT hZ19 hw 73 rfl)) (zT hZ19 hw 73 rfl) (zT hZ19 hw 72 rfl) (by decide) (backOf (W := 0) (r12u l Z a0 hw [] b a19 t17 _ own_L89 c17 h19 n0 J19.2.2.2.2.2 J19.1 Sn19.1 g_b J19.2.1 CS J19.2.2.2.2.1 Sn19.2 (by rw [hln20]; omega) (by rw [hln20]; omega) (by omega)) hZ19 (zW hw 74 rfl) (zW hw 39 rfl) (by decide) (by decide)) q20a q20c (g := (mkF m 34 #[.val (.ref a1), .val (.ref a2), .val (.ref a3), .val (.ref a4)] [.ref a19, .ref b])) rfl (by rw [hml]; rfl) (Steps.refl _) (argsL := [.ref a19]) (rest := []) (lenOf own_pdS rfl) rfl (Nat.le_of_eq rfl) (D11 hby 16 rfl) (fun _ _ => ⟨rfl, e19, (by show 4 + 1 ≤ 9; decide), (by show 64 + 142 ≤ 774; decide)⟩)
  dsimp only [Pt.U, Pt.locs, Pt.cells, Pt.slots] at X20 l20 y20 z20 st20 hQ20
  subst l20 y20 z20
  obtain ⟨rfl, Nq20, St20⟩ := hQ20
  have N20 := Fr.app N17 Nq20
  obtain ⟨c20, t20, hP20, J20, ht20, K20⟩ := J19.op g_b St20
  unfold own_P at hP20
  rw [hln20] at hP20
  have hcc20 : c20 = 70 ∨ c20 = 142 := by omega
  have CC20 := own_CHop hw CC19 hZ19 K20 J19.1 (by omega) (by omega)
  clear hP20 hcc17
  have Snm20 := own_Sn.op hw Snm19 K20 J19.1 ht20
  have Sty20 := own_Sn.op hw Sty19 K20 J19.1 ht20
  have Shp20 := own_Sn.op hw Shp19 K20 J19.1 ht20
  have hl21 := own_len2 hl20 (show nm.length = 2 from h_nm)
  have hln21 : (((((((cs ++ own_L87) ++ nm) ++ [(32 : Int32)]) ++ hp) ++ [(10 : Int32)]) ++ own_L89).length + nm.length) = _ := own_lenA (xs := nm) hl21
  obtain ⟨cq21, kq21, q21a, q21b, q21c⟩ := isOf hZ19 rfl J20.1.1
  obtain ⟨_, _, ⟨T21, L21, k21, n21⟩, -, X21, ⟨Lc21, hQ21, l21, y21, z21⟩, st21⟩ := X20.virtualBack hx (y := y_0) hown19 (zT hZ19 hw 70 rfl) (zT hZ19 hw 71 rfl) (notFace_of_selects (args := #[]) (zT hZ19 hw 73 rfl)) (zT hZ19 hw 73 rfl) (zT hZ19 hw 72 rfl) (by decide) (backOf (W := 0) (r12u l Z a0 hw [] b a2 t20 _ nm c20 T20.heap n0 J20.2.2.2.2.2 J20.1 Snm20.1 g_b J20.2.1 CS J20.2.2.2.2.1 Snm20.2 (by rw [hln21]; omega) (by rw [hln21]; omega) (by omega)) hZ19 (zW hw 74 rfl) (zW hw 39 rfl) (by decide) (by decide)) q21a q21c (g := (mkF m 38 #[.val (.ref a1), .val (.ref a2), .val (.ref a3), .val (.ref a4)] [.ref a2, .ref b])) rfl (by rw [hml]; rfl) (Steps.refl _) (argsL := [.ref a2]) (rest := []) (lenOf own_pdS rfl) rfl (Nat.le_of_eq rfl) (D11 hby 18 rfl) (fun _ _ => ⟨rfl, rfl, (by show 5 + 1 ≤ 9; decide), (by show 206 + 142 ≤ 774; decide)⟩)
  dsimp only [Pt.U, Pt.locs, Pt.cells, Pt.slots] at X21 l21 y21 z21 st21 hQ21
  subst l21 y21 z21
  obtain ⟨rfl, Nq21, St21⟩ := hQ21
  have N21 := Fr.app N20 Nq21
  obtain ⟨c21, t21, hP21, J21, ht21, K21⟩ := J20.op g_b St21
  unfold own_P at hP21
  rw [hln21] at hP21
  have hcc21 : c21 = 70 ∨ c21 = 142 := by omega
  have CC21 := own_CHop hw CC20 hZ19 K21 J20.1 (by omega) (by omega)
  clear hP21 hcc20
  have Snm21 := own_Sn.op hw Snm20 K21 J20.1 ht21
  have Sty21 := own_Sn.op hw Sty20 K21 J20.1 ht21
  have Shp21 := own_Sn.op hw Shp20 K21 J20.1 ht21
  have hl22 := own_len2 hl21 (show [(32 : Int32)].length = 1 from rfl)
  have hln22 : ((((((((cs ++ own_L87) ++ nm) ++ [(32 : Int32)]) ++ hp) ++ [(10 : Int32)]) ++ own_L89) ++ nm).length + 1) = _ := own_lenA (xs := [(32 : Int32)]) hl22
  obtain ⟨cq22, kq22, q22a, q22b, q22c⟩ := isOf hZ19 rfl J21.1.1
  obtain ⟨_, _, ⟨T22, L22, k22, n22⟩, -, X22, ⟨Lc22, hQ22, l22, y22, z22⟩, st22⟩ := X21.virtualBack hx (y := y_1) hown19 (zT hZ19 hw 117 rfl) (zT hZ19 hw 118 rfl) (notFace_of_selects (args := #[]) (zT hZ19 hw 120 rfl)) (zT hZ19 hw 120 rfl) (zT hZ19 hw 119 rfl) (by decide) (backOf (W := 0) (r20u l Z a0 hw [] b (32 : Int32) t21 _ c21 T21.heap n0 J21.2.2.2.2.2 J21.1 g_b J21.2.1 CS J21.2.2.2.2.1 (by decide) (by rw [hln22]; omega) (by rw [hln22]; omega) (by omega)) hZ19 (zW hw 121 rfl) (zW hw 39 rfl) (by decide) (by decide)) q22a q22c (g := (mkF m 43 #[.val (.ref a1), .val (.ref a2), .val (.ref a3), .val (.ref a4)] [.int 32, .ref b])) rfl (by rw [hml]; rfl) (Steps.refl _) (argsL := [.int 32]) (rest := []) (lenOf own_pdC rfl) rfl (Nat.le_of_eq rfl) (D11 hby 20 rfl) (fun _ _ => ⟨rfl, rfl, (by show 6 + 1 ≤ 9; decide), (by show 348 + 142 ≤ 774; decide)⟩)
  dsimp only [Pt.U, Pt.locs, Pt.cells, Pt.slots] at X22 l22 y22 z22 st22 hQ22
  subst l22 y22 z22
  obtain ⟨rfl, Nq22, St22⟩ := hQ22
  have N22 := Fr.app N21 Nq22
  obtain ⟨c22, t22, hP22, J22, ht22, K22⟩ := J21.op g_b St22
  unfold own_P at hP22
  rw [hln22] at hP22
  have hcc22 : c22 = 70 ∨ c22 = 142 := by omega
  have CC22 := own_CHop hw CC21 hZ19 K22 J21.1 (by omega) (by omega)
  clear hP22 hcc21
  have Snm22 := own_Sn.op hw Snm21 K22 J21.1 ht22
  have Sty22 := own_Sn.op hw Sty21 K22 J21.1 ht22
  have Shp22 := own_Sn.op hw Shp21 K22 J21.1 ht22
  have hl23 := own_len2 hl22 (show ty.length = 7 from h_ty)
  have hln23 : (((((((((cs ++ own_L87) ++ nm) ++ [(32 : Int32)]) ++ hp) ++ [(10 : Int32)]) ++ own_L89) ++ nm) ++ [(32 : Int32)]).length + ty.length) = _ := own_lenA (xs := ty) hl23
  obtain ⟨cq23, kq23, q23a, q23b, q23c⟩ := isOf hZ19 rfl J22.1.1
  obtain ⟨_, _, ⟨T23, L23, k23, n23⟩, -, X23, ⟨Lc23, hQ23, l23, y23, z23⟩, st23⟩ := X22.virtualBack hx (y := y_0) hown19 (zT hZ19 hw 70 rfl) (zT hZ19 hw 71 rfl) (notFace_of_selects (args := #[]) (zT hZ19 hw 73 rfl)) (zT hZ19 hw 73 rfl) (zT hZ19 hw 72 rfl) (by decide) (backOf (W := 0) (r12u l Z a0 hw [] b a3 t22 _ ty c22 T22.heap n0 J22.2.2.2.2.2 J22.1 Sty22.1 g_b J22.2.1 CS J22.2.2.2.2.1 Sty22.2 (by rw [hln23]; omega) (by rw [hln23]; omega) (by omega)) hZ19 (zW hw 74 rfl) (zW hw 39 rfl) (by decide) (by decide)) q23a q23c (g := (mkF m 47 #[.val (.ref a1), .val (.ref a2), .val (.ref a3), .val (.ref a4)] [.ref a3, .ref b])) rfl (by rw [hml]; rfl) (Steps.refl _) (argsL := [.ref a3]) (rest := []) (lenOf own_pdS rfl) rfl (Nat.le_of_eq rfl) (D11 hby 22 rfl) (fun _ _ => ⟨rfl, rfl, (by show 7 + 1 ≤ 9; decide), (by show 490 + 142 ≤ 774; decide)⟩)
  dsimp only [Pt.U, Pt.locs, Pt.cells, Pt.slots] at X23 l23 y23 z23 st23 hQ23
  subst l23 y23 z23
  obtain ⟨rfl, Nq23, St23⟩ := hQ23
  have N23 := Fr.app N22 Nq23
  obtain ⟨c23, t23, hP23, J23, ht23, K23⟩ := J22.op g_b St23
  unfold own_P at hP23
  rw [hln23] at hP23
  have hcc23 : c23 = 70 ∨ c23 = 142 := by omega
  have CC23 := own_CHop hw CC22 hZ19 K23 J22.1 (by omega) (by omega)
  clear hP23 hcc22
  have Snm23 := own_Sn.op hw Snm22 K23 J22.1 ht23
  have Sty23 := own_Sn.op hw Sty22 K23 J22.1 ht23
  have Shp23 := own_Sn.op hw Shp22 K23 J22.1 ht23
  have hl24 := own_len2 hl23 (show [(10 : Int32)].length = 1 from rfl)
  have hln24 : ((((((((((cs ++ own_L87) ++ nm) ++ [(32 : Int32)]) ++ hp) ++ [(10 : Int32)]) ++ own_L89) ++ nm) ++ [(32 : Int32)]) ++ ty).length + 1) = _ := own_lenA (xs := [(10 : Int32)]) hl24
  obtain ⟨cq24, kq24, q24a, q24b, q24c⟩ := isOf hZ19 rfl J23.1.1
  obtain ⟨_, _, ⟨T24, L24, k24, n24⟩, -, X24, ⟨Lc24, hQ24, l24, y24, z24⟩, st24⟩ := X23.virtualBack hx (y := y_1) hown19 (zT hZ19 hw 117 rfl) (zT hZ19 hw 118 rfl) (notFace_of_selects (args := #[]) (zT hZ19 hw 120 rfl)) (zT hZ19 hw 120 rfl) (zT hZ19 hw 119 rfl) (by decide) (backOf (W := 0) (r20u l Z a0 hw [] b (10 : Int32) t23 _ c23 T23.heap n0 J23.2.2.2.2.2 J23.1 g_b J23.2.1 CS J23.2.2.2.2.1 (by decide) (by rw [hln24]; omega) (by rw [hln24]; omega) (by omega)) hZ19 (zW hw 121 rfl) (zW hw 39 rfl) (by decide) (by decide)) q24a q24c (g := (mkF m 52 #[.val (.ref a1), .val (.ref a2), .val (.ref a3), .val (.ref a4)] [.int 10, .ref b])) rfl (by rw [hml]; rfl) (Steps.refl _) (argsL := [.int 10]) (rest := []) (lenOf own_pdC rfl) rfl (Nat.le_of_eq rfl) (D11 hby 24 rfl) (fun _ _ => ⟨rfl, rfl, (by show 8 + 1 ≤ 9; decide), (by show 632 + 142 ≤ 774; decide)⟩)
  dsimp only [Pt.U, Pt.locs, Pt.cells, Pt.slots] at X24 l24 y24 z24 st24 hQ24
  subst l24 y24 z24
  obtain ⟨rfl, Nq24, St24⟩ := hQ24
  have N24 := Fr.app N23 Nq24
  obtain ⟨c24, t24, hP24, J24, ht24, K24⟩ := J23.op g_b St24
  unfold own_P at hP24
  rw [hln24] at hP24
  have hcc24 : c24 = 70 ∨ c24 = 142 := by omega
  have CC24 := own_CHop hw CC23 hZ19 K24 J23.1 (by omega) (by omega)
  clear hP24 hcc23
  have Snm24 := own_Sn.op hw Snm23 K24 J23.1 ht24
  have Sty24 := own_Sn.op hw Sty23 K24 J23.1 ht24
  have Shp24 := own_Sn.op hw Shp23 K24 J23.1 ht24
  have CT := CC24.trans (CHv.at X24 hZ19 hEL CC24.1)
  obtain ⟨fs, hr, hrun, hended, hRW⟩ := X24.leaveW S19 (Nat.le_trans (Nat.le_trans (Nat.le_trans (Nat.le_trans (Nat.le_trans hk19 K20.1) K21.1) K22.1) K23.1) K24.1) (v := none) (fun _ => rfl)
  refine ⟨_, _, pre0 _ ?_, hrun, hended, _, _, rfl, ?_, ?_, ⟨hRW.1, hRW.2.1, hRW.2.2.1, hRW.2.2.2.mono (by decide) (by decide)⟩⟩
  · refine XS.aloadN X0.here hx rfl (D11 hby 0 rfl) rfl rfl ?_
    refine st11 _ ?_
    refine st12 _ ?_
    refine st13.trans ?_
    refine XS.aloadN X13.here hx rfl (D11 hby 4 rfl) rfl rfl ?_
    refine st14.trans ?_
    refine XS.bipush X14.here hx rfl (D11 hby 6 rfl) ?_
    refine st15.trans ?_
    refine XS.aloadN X15.here hx rfl (D11 hby 8 rfl) rfl rfl ?_
    refine st16.trans ?_
    refine XS.bipush X16.here hx rfl (D11 hby 10 rfl) ?_
    refine st17.trans ?_
    refine XS.pop X17.here hx rfl (D11 hby 12 rfl) rfl rfl ?_
    refine XS.aloadN X17.here hx rfl (D11 hby 13 rfl) rfl rfl ?_
    refine st18 _ ?_
    refine st19 _ ?_
    refine st20.trans ?_
    refine XS.aloadN X20.here hx rfl (D11 hby 17 rfl) rfl rfl ?_
    refine st21.trans ?_
    refine XS.bipush X21.here hx rfl (D11 hby 19 rfl) ?_
    refine st22.trans ?_
    refine XS.aloadN X22.here hx rfl (D11 hby 21 rfl) rfl rfl ?_
    refine st23.trans ?_
    refine XS.bipush X23.here hx rfl (D11 hby 23 rfl) ?_
    refine st24.trans ?_
    refine XS.pop X24.here hx rfl (D11 hby 25 rfl) rfl rfl ?_
    exact X24.returnOut hx Bd.returns (D11 hby 26 rfl) hr
  · exact ⟨rfl, N24, J24.2.2.1, c24, t24, by show _; omega, J24.1, J24.2.2.2.1, J24.2.1⟩
  · show CHr Z own_EL s.vm s.heap T24.vm T24.heap
    rw [hh]
    exact CT
def own_blk (nm hp : List Int32) (x : Int64) (nn : Nat) : List Int32 := own_L87 ++ (nm ++ ([(32 : Int32)] ++ (hp ++ ([(10 : Int32)] ++ (own_L89 ++ (nm ++ ([(32 : Int32)] ++ (own_L38 ++ ([(10 : Int32)] ++ (nm ++ (own_L22 ++ ([(32 : Int32)] ++ (own_num x nn ++ [(10 : Int32)])))))))))))))
theorem r10_1 (l : Launch) (Z : State) (a0 : Array Value) (hw : zH Z a0) (hwS : ∀ d ∈ Bundle.stringAtoms, d.before a0 Z = true) (ws : List Jvm.Cond) (a1 a2 a3 : Addr) (q4 : Int64) (b t0 : Addr) (cs nm hp : List Int32) (c_ nn : Nat) (h0 : Heap) (n0 : Nat) (Z0 : n0 ≤ h0.size) (E_a1 : Exa Z h0 a1 "com/example/dealt/dealt/metrics/Exposition") (FT : Fld Z h0 a1 "com/example/dealt/dealt/metrics/Exposition" "text" "Ljava/lang/StringBuilder;" (.ref b)) (SB : own_SBv Z h0 b cs c_ t0) (g_b : n0 ≤ b) (g_t0 : n0 ≤ t0) (CS : own_CS Z Z.heap) (O : Old Z n0 h0) (Snm : own_Sn Z h0 a2 nm t0) (h_nm : nm.length = 2) (Shp : own_Sn Z h0 a3 hp t0) (h_hp : hp.length = 2) (hn : nn ≤ 2 ^ 63) (hnx : (if q4 < 0 then q4 else -q4) = Jvm.Free.SBG.negL nn) (DG : own_DG Z) (hc0 : c_ = 16) (hl0 : cs.length = 0) :
    MetFree l y_13 (head1 (Jvm.Cond.code y_13 prog_28_method_4_code 5 none :: ws) (zr 7 10 384 148)) (fun a U => a = #[.ref a1, .ref a2, .ref a3, (.long q4)] ∧ Z.Warmed39 U.vm ∧ U.heap = h0 ∧ CHv Z own_EL U.vm h0) (fun _ _ _ _ _ => True) (fun _ U o U' => ∃ v L, o = .returned v ∧ QS Z b t0 (cs ++ own_blk nm hp q4 nn) (fun c' => c' = 70) h0 n0 v U'.heap L ∧ CHr Z own_EL U.vm U.heap U'.vm U'.heap ∧ ReturnedEndW U o U' L (zr 7 10 384 148).cells (zr 7 10 384 148).slots) := by
  refine MetFree.of_bodySF (plainFor_of_name pn_34) hisR ?_
  intro p e s m args below meth c s₁ Bd hml0 hP hK
  obtain ⟨rfl, hZ, hh, hC⟩ := hP
  have hx := Bd.exec
  have hby := Bd.bytes
  have hml : c.maxLocals = 5 := hml0
  have hown : s.vm.findClass "com/example/dealt/dealt/metrics/Exposition" = some m.cls := findClass_of_methodNamed Bd.named
  have X0 : Stand p l e (zr 7 10 384 148) s m #[.ref a1, .ref a2, .ref a3, (.long q4)] below meth c s₁ [] 0 0 := Stand.of_body Bd
  have e0 : s₁.heap = h0 := by rw [← hh, Bd.state]; rfl
  have N0 := Fr.nil n0
  have pre0 := zP p e below s₁ (ef_29 m a1 a2 a3 q4)
  have hEL := own_EW hw
  have hnl := own_num_le q4 nn
  have J0 := own_J.start SB g_t0 O Z0
  have C0 := CHr.refl hC
  have ha1 : a1 ∉ [b, t0] := by
    obtain ⟨EB, -, -, -, kd_, vd_, B_, -⟩ := id SB
    exact ninS (Exa.ne E_a1 EB (by decide)) (ninS (Exa.neArv E_a1 B_ (zW hw 31 rfl)) nin0)
  obtain ⟨a11, T11, h11, k11, bb11, kb11, X11, e11, E11, S11, hk11, hZ11, hown11, Ea11, Fc11, Fv11, Va11, la11, lb11, C11, L11, hs11, st11⟩ := ldcCH (s := s) (vm0 := s.vm) (EL := own_EL) X0 hx hZ hown (zW hw 62 rfl) hwS e0 (k0 := 0) own_noW (Nat.zero_le _) hEL (by decide) C0.1 (vs := own_by own_L38) (z := Int32.ofNat 7) own_tx38 (by decide) rfl (g := (mkF m 2 #[.val (.ref a1), .val (.ref a2), .val (.ref a3), .val (.long q4), .second] [.ref a2, .ref a1])) rfl (D10 hby 2 rfl) (n := 28) (by rw [own_tl38]; decide) (by decide) (by show 0 + 2 ≤ 10; decide) (by show 0 + 32 ≤ 384; decide)
  have J11 := J0.ext E11
  have CC11 := C0.trans C11
  have Sf11 : Safe Z own_EL T11.vm h11 t0 := by
    obtain ⟨-, -, -, -, kd_, vd_, B_, -⟩ := id J11.1
    exact own_safe hw hZ11 B_ (by omega) (by omega)
  have Sn11 : own_Sn Z h11 a11 own_L38 t0 := ⟨⟨Ea11, Fc11, bb11, kb11, Fv11, Va11⟩, fun x F => by cases own_Fu F Fv11; exact (hs11 _ Sf11).2.symm⟩
  have Snm11 := Snm.ext E11
  have Shp11 := Shp.ext E11
  have E11' := E_a1.ext E11
  obtain ⟨cq20, q20, q20'⟩ := E11'.cell
  obtain ⟨_, _, ⟨T20, L20, k20, n20⟩, -, X20, S20', hz20, ⟨Lc20, hQ20, l20, y20, z20, C20'⟩, st20⟩ := X11.privateBackS (s := s.setVm T11.vm) hx (y := y_18) hown11 (zT hZ11 hw 65 rfl) (zT hZ11 hw 66 rfl) (mvT hZ11 (own_selQ (zW hw 60 rfl) (zW hw 59 rfl) rfl (zW hw 67 rfl) (zW hw 66 rfl) (by decide))) (Cond.privateMethod_at (mvP hZ11 (zW hw 67 rfl) (args := #[]))) (zT hZ11 hw 68 rfl) (by decide) (backOfSH (s := s) (vm0 := T11.vm) (W := 0) (r11_1 l Z a0 hw hwS [] a1 a2 a11 a3 b t0 cs nm own_L38 hp c_ h11 n0 J11.2.2.2.2.2 E11' (FT.ext E11) J11.1 g_b g_t0 CS J11.2.2.2.2.1 Snm11 h_nm Sn11 rfl Shp11 h_hp hc0 hl0) hZ11 (zW hw 68 rfl) (zW hw 32 rfl) (by decide) (by decide) hEL CC11.1) (g := (mkF m 5 #[.val (.ref a1), .val (.ref a2), .val (.ref a3), .val (.long q4), .second] [.ref a3, .ref a11, .ref a2, .ref a1])) rfl (by rw [hml]; rfl) (Steps.refl _) (a := a1) (by rw [e11]; exact q20) q20' (argsL := [.ref a2, .ref a11, .ref a3]) (rest := []) (lenOf own_pdH rfl) rfl (Nat.le_of_eq rfl) (D10 hby 4 rfl) (fun _ _ => ⟨rfl, e11, (by show 2 + 5 ≤ 10; decide), (by show 32 + 206 ≤ 384; decide)⟩)
  dsimp only [Pt.U, Pt.locs, Pt.cells, Pt.slots] at X20 S20' hz20 C20' l20 y20 z20 st20 hQ20
  subst l20 y20 z20
  obtain ⟨rfl, Nq20, K20, c20, t20, hcc20, SB20, ht20, g20⟩ := hQ20
  have N20 := Fr.app N0 Nq20
  have hcc20 : c20 = 34 := hcc20
  have J20 := J11.sub g_b K20 SB20 ht20
  have hZ20 : Z.Warmed39 (s.setVm T20.vm).vm := State.Warmed39.trans hZ11 S20'.1
  have hown20 : (s.setVm T20.vm).vm.findClass "com/example/dealt/dealt/metrics/Exposition" = some m.cls := by show (T20.vm).findClass _ = _; rw [S20'.1.alike.findClass]; exact hown11
  have S20 := S11.trans S20' (Nat.le_trans hk11 K20.1)
  have CC20 := CC11.trans C20'
  have Snm20 := own_Sn.op hw Snm11 K20 J11.1 ht20
  have Shp20 := own_Sn.op hw Shp11 K20 J11.1 ht20
  obtain ⟨a21, T21, h21, k21, bb21, kb21, X21, e21, E21, S21, hk21, hZ21, hown21, Ea21, Fc21, Fv21, Va21, la21, lb21, C21, L21, hs21, st21⟩ := ldcCH (s := s) (vm0 := T20.vm) (EL := own_EL) X20 hx hZ20 hown20 (zW hw 159 rfl) hwS rfl S20 (Nat.le_refl _) hEL (by decide) CC20.1 (vs := own_by own_L22) (z := Int32.ofNat 0) own_tx22 (by decide) rfl (g := (mkF m 10 #[.val (.ref a1), .val (.ref a2), .val (.ref a3), .val (.long q4), .second] [.ref a2, .ref a1])) rfl (D10 hby 7 rfl) (n := 0) (by rw [own_tl22]; decide) (by decide) (by show 7 + 2 ≤ 10; decide) (by show 238 + 4 ≤ 384; decide)
  have J21 := J20.ext E21
  have CC21 := CC20.trans C21
  have Sf21 : Safe Z own_EL T21.vm h21 t20 := by
    obtain ⟨-, -, -, -, kd_, vd_, B_, -⟩ := id J21.1
    exact own_safe hw hZ21 B_ (by omega) (by omega)
  have Sn21 : own_Sn Z h21 a21 own_L22 t20 := ⟨⟨Ea21, Fc21, bb21, kb21, Fv21, Va21⟩, fun x F => by cases own_Fu F Fv21; exact (hs21 _ Sf21).2.symm⟩
  have Snm21 := Snm20.ext E21
  have Shp21 := Shp20.ext E21
  have E21' := (E_a1.keep J20.2.2.1).ext E21
  have FT21 := (FT.keep J20.2.2.1 ha1).ext E21
  have hl20 : ((((((((((cs ++ own_L87) ++ nm) ++ [(32 : Int32)]) ++ hp) ++ [(10 : Int32)]) ++ own_L89) ++ nm) ++ [(32 : Int32)]) ++ own_L38) ++ [(10 : Int32)]).length = 31 := by simp only [List.length_append, hl0, h_nm, h_hp, List.length_cons, List.length_nil]
  obtain ⟨cq22, q22, q22'⟩ := E21'.cell
  obtain ⟨_, _, ⟨T22, L22, k22, n22⟩, -, X22, ⟨Lc22, hQ22, l22, y22, z22⟩, st22⟩ := X21.privateBack hx (y := y_17) hown21 (zT hZ21 hw 160 rfl) (zT hZ21 hw 161 rfl) (mvT hZ21 (own_selQ (zW hw 60 rfl) (zW hw 59 rfl) rfl (zW hw 162 rfl) (zW hw 161 rfl) (by decide))) (Cond.privateMethod_at (mvP hZ21 (zW hw 162 rfl) (args := #[]))) (zT hZ21 hw 163 rfl) (by decide) (backOf (W := 0) (r29_1 l Z a0 hw [] a1 a2 a21 q4 b t20 ((((((((((cs ++ own_L87) ++ nm) ++ [(32 : Int32)]) ++ hp) ++ [(10 : Int32)]) ++ own_L89) ++ nm) ++ [(32 : Int32)]) ++ own_L38) ++ [(10 : Int32)]) nm c20 nn h21 n0 J21.2.2.2.2.2 FT21 J21.1 g_b J21.2.1 CS J21.2.2.2.2.1 Snm21 h_nm Sn21 hn hnx DG hcc20 hl20) hZ21 (zW hw 163 rfl) (zW hw 32 rfl) (by decide) (by decide)) (g := (mkF m 13 #[.val (.ref a1), .val (.ref a2), .val (.ref a3), .val (.long q4), .second] [(.long q4), .ref a21, .ref a2, .ref a1])) rfl (by rw [hml]; rfl) (Steps.refl _) (a := a1) (by rw [e21]; exact q22) q22' (argsL := [.ref a2, .ref a21, (.long q4)]) (rest := []) (lenOf own_pdM rfl) rfl (Nat.le_of_eq rfl) (D10 hby 9 rfl) (fun _ _ => ⟨rfl, e21, (by show 9 + 1 ≤ 10; decide), (by show 242 + 142 ≤ 384; decide)⟩)
  dsimp only [Pt.U, Pt.locs, Pt.cells, Pt.slots] at X22 l22 y22 z22 st22 hQ22
  subst l22 y22 z22
  obtain ⟨rfl, Nq22, K22, c22, t22, hcc22, SB22, ht22, g22⟩ := hQ22
  have N22 := Fr.app N20 Nq22
  have J22 := J21.sub g_b K22 SB22 ht22
  have CC22 := own_CHop hw CC21 hZ21 K22 J21.1 (by omega) (by omega)
  have CT := CC22.trans (CHv.at X22 hZ21 hEL CC22.1)
  obtain ⟨fs, hr, hrun, hended, hRW⟩ := X22.leaveW S21 (Nat.le_trans hk21 K22.1) (v := none) (fun _ => rfl)
  have eqB : ((((((((((((((((cs ++ own_L87) ++ nm) ++ [(32 : Int32)]) ++ hp) ++ [(10 : Int32)]) ++ own_L89) ++ nm) ++ [(32 : Int32)]) ++ own_L38) ++ [(10 : Int32)]) ++ nm) ++ own_L22) ++ [(32 : Int32)]) ++ (own_num q4 nn)) ++ [(10 : Int32)])) = cs ++ own_blk nm hp q4 nn := by simp only [own_blk, List.append_assoc]
  refine ⟨_, _, pre0 _ ?_, hrun, hended, _, _, rfl, ?_, ?_, ⟨hRW.1, hRW.2.1, hRW.2.2.1, hRW.2.2.2.mono (by decide) (by decide)⟩⟩
  · refine XS.aloadN X0.here hx rfl (D10 hby 0 rfl) rfl rfl ?_
    refine XS.aloadN X0.here hx rfl (D10 hby 1 rfl) rfl rfl ?_
    refine st11 _ ?_
    refine XS.aloadN X11.here hx rfl (D10 hby 3 rfl) rfl rfl ?_
    refine st20.trans ?_
    refine XS.aloadN X20.here hx rfl (D10 hby 5 rfl) rfl rfl ?_
    refine XS.aloadN X20.here hx rfl (D10 hby 6 rfl) rfl rfl ?_
    refine st21 _ ?_
    refine XS.lloadN X21.here hx rfl (D10 hby 8 rfl) rfl ?_
    refine st22.trans ?_
    exact X22.returnOut hx Bd.returns (D10 hby 10 rfl) hr
  · exact ⟨rfl, N22, J22.2.2.1, c22, t22, hcc22, by rw [← eqB]; exact J22.1, J22.2.2.2.1, J22.2.1⟩
  · show CHr Z own_EL s.vm s.heap T22.vm T22.heap
    rw [hh]
    exact CT
theorem r10_2 (l : Launch) (Z : State) (a0 : Array Value) (hw : zH Z a0) (hwS : ∀ d ∈ Bundle.stringAtoms, d.before a0 Z = true) (ws : List Jvm.Cond) (a1 a2 a3 : Addr) (q4 : Int64) (b t0 : Addr) (cs nm hp : List Int32) (c_ nn : Nat) (h0 : Heap) (n0 : Nat) (Z0 : n0 ≤ h0.size) (E_a1 : Exa Z h0 a1 "com/example/dealt/dealt/metrics/Exposition") (FT : Fld Z h0 a1 "com/example/dealt/dealt/metrics/Exposition" "text" "Ljava/lang/StringBuilder;" (.ref b)) (SB : own_SBv Z h0 b cs c_ t0) (g_b : n0 ≤ b) (g_t0 : n0 ≤ t0) (CS : own_CS Z Z.heap) (O : Old Z n0 h0) (Snm : own_Sn Z h0 a2 nm t0) (h_nm : nm.length = 2) (Shp : own_Sn Z h0 a3 hp t0) (h_hp : hp.length = 2) (hn : nn ≤ 2 ^ 63) (hnx : (if q4 < 0 then q4 else -q4) = Jvm.Free.SBG.negL nn) (DG : own_DG Z) (hc0 : c_ = 70) (hl0 : cs.length = 35 + (own_num q4 nn).length) :
    MetFree l y_13 (head1 (Jvm.Cond.code y_13 prog_28_method_4_code 5 none :: ws) (zr 7 16 1236 148)) (fun a U => a = #[.ref a1, .ref a2, .ref a3, (.long q4)] ∧ Z.Warmed39 U.vm ∧ U.heap = h0 ∧ CHv Z own_EL U.vm h0) (fun _ _ _ _ _ => True) (fun _ U o U' => ∃ v L, o = .returned v ∧ QS Z b t0 (cs ++ own_blk nm hp q4 nn) (fun c' => c' = 142) h0 n0 v U'.heap L ∧ CHr Z own_EL U.vm U.heap U'.vm U'.heap ∧ ReturnedEndW U o U' L (zr 7 16 1236 148).cells (zr 7 16 1236 148).slots) := by
  refine MetFree.of_bodySF (plainFor_of_name pn_34) hisR ?_
  intro p e s m args below meth c s₁ Bd hml0 hP hK
  obtain ⟨rfl, hZ, hh, hC⟩ := hP
  have hx := Bd.exec
  have hby := Bd.bytes
  have hml : c.maxLocals = 5 := hml0
  have hown : s.vm.findClass "com/example/dealt/dealt/metrics/Exposition" = some m.cls := findClass_of_methodNamed Bd.named
  have X0 : Stand p l e (zr 7 16 1236 148) s m #[.ref a1, .ref a2, .ref a3, (.long q4)] below meth c s₁ [] 0 0 := Stand.of_body Bd
  have e0 : s₁.heap = h0 := by rw [← hh, Bd.state]; rfl
  have N0 := Fr.nil n0
  have pre0 := zP p e below s₁ (ef_29 m a1 a2 a3 q4)
  have hEL := own_EW hw
  have hnl := own_num_le q4 nn
  have J0 := own_J.start SB g_t0 O Z0
  have C0 := CHr.refl hC
  have ha1 : a1 ∉ [b, t0] := by
    obtain ⟨EB, -, -, -, kd_, vd_, B_, -⟩ := id SB
    exact ninS (Exa.ne E_a1 EB (by decide)) (ninS (Exa.neArv E_a1 B_ (zW hw 31 rfl)) nin0)
  obtain ⟨a11, T11, h11, k11, bb11, kb11, X11, e11, E11, S11, hk11, hZ11, hown11, Ea11, Fc11, Fv11, Va11, la11, lb11, C11, L11, hs11, st11⟩ := ldcCH (s := s) (vm0 := s.vm) (EL := own_EL) X0 hx hZ hown (zW hw 62 rfl) hwS e0 (k0 := 0) own_noW (Nat.zero_le _) hEL (by decide) C0.1 (vs := own_by own_L38) (z := Int32.ofNat 7) own_tx38 (by decide) rfl (g := (mkF m 2 #[.val (.ref a1), .val (.ref a2), .val (.ref a3), .val (.long q4), .second] [.ref a2, .ref a1])) rfl (D10 hby 2 rfl) (n := 28) (by rw [own_tl38]; decide) (by decide) (by show 0 + 2 ≤ 16; decide) (by show 0 + 32 ≤ 1236; decide)
  have J11 := J0.ext E11
  have CC11 := C0.trans C11
  have Sf11 : Safe Z own_EL T11.vm h11 t0 := by
    obtain ⟨-, -, -, -, kd_, vd_, B_, -⟩ := id J11.1
    exact own_safe hw hZ11 B_ (by omega) (by omega)
  have Sn11 : own_Sn Z h11 a11 own_L38 t0 := ⟨⟨Ea11, Fc11, bb11, kb11, Fv11, Va11⟩, fun x F => by cases own_Fu F Fv11; exact (hs11 _ Sf11).2.symm⟩
  have Snm11 := Snm.ext E11
  have Shp11 := Shp.ext E11
  have E11' := E_a1.ext E11
  obtain ⟨cq20, q20, q20'⟩ := E11'.cell
  obtain ⟨_, _, ⟨T20, L20, k20, n20⟩, -, X20, S20', hz20, ⟨Lc20, hQ20, l20, y20, z20, C20'⟩, st20⟩ := X11.privateBackS (s := s.setVm T11.vm) hx (y := y_18) hown11 (zT hZ11 hw 65 rfl) (zT hZ11 hw 66 rfl) (mvT hZ11 (own_selQ (zW hw 60 rfl) (zW hw 59 rfl) rfl (zW hw 67 rfl) (zW hw 66 rfl) (by decide))) (Cond.privateMethod_at (mvP hZ11 (zW hw 67 rfl) (args := #[]))) (zT hZ11 hw 68 rfl) (by decide) (backOfSH (s := s) (vm0 := T11.vm) (W := 0) (r11_2 l Z a0 hw hwS [] a1 a2 a11 a3 b t0 cs nm own_L38 hp c_ h11 n0 J11.2.2.2.2.2 E11' (FT.ext E11) J11.1 g_b g_t0 CS J11.2.2.2.2.1 Snm11 h_nm Sn11 rfl Shp11 h_hp (own_num q4 nn).length hnl.2 hc0 hl0) hZ11 (zW hw 68 rfl) (zW hw 32 rfl) (by decide) (by decide) hEL CC11.1) (g := (mkF m 5 #[.val (.ref a1), .val (.ref a2), .val (.ref a3), .val (.long q4), .second] [.ref a3, .ref a11, .ref a2, .ref a1])) rfl (by rw [hml]; rfl) (Steps.refl _) (a := a1) (by rw [e11]; exact q20) q20' (argsL := [.ref a2, .ref a11, .ref a3]) (rest := []) (lenOf own_pdH rfl) rfl (Nat.le_of_eq rfl) (D10 hby 4 rfl) (fun _ _ => ⟨rfl, e11, (by show 2 + 9 ≤ 16; decide), (by show 32 + 774 ≤ 1236; decide)⟩)
  dsimp only [Pt.U, Pt.locs, Pt.cells, Pt.slots] at X20 S20' hz20 C20' l20 y20 z20 st20 hQ20
  subst l20 y20 z20
  obtain ⟨rfl, Nq20, K20, c20, t20, hcc20, SB20, ht20, g20⟩ := hQ20
  have N20 := Fr.app N0 Nq20
  have hcc20 : c20 = 70 ∨ c20 = 142 := hcc20
  have J20 := J11.sub g_b K20 SB20 ht20
  have hZ20 : Z.Warmed39 (s.setVm T20.vm).vm := State.Warmed39.trans hZ11 S20'.1
  have hown20 : (s.setVm T20.vm).vm.findClass "com/example/dealt/dealt/metrics/Exposition" = some m.cls := by show (T20.vm).findClass _ = _; rw [S20'.1.alike.findClass]; exact hown11
  have S20 := S11.trans S20' (Nat.le_trans hk11 K20.1)
  have CC20 := CC11.trans C20'
  have Snm20 := own_Sn.op hw Snm11 K20 J11.1 ht20
  have Shp20 := own_Sn.op hw Shp11 K20 J11.1 ht20
  obtain ⟨a21, T21, h21, k21, bb21, kb21, X21, e21, E21, S21, hk21, hZ21, hown21, Ea21, Fc21, Fv21, Va21, la21, lb21, C21, L21, hs21, st21⟩ := ldcCH (s := s) (vm0 := T20.vm) (EL := own_EL) X20 hx hZ20 hown20 (zW hw 159 rfl) hwS rfl S20 (Nat.le_refl _) hEL (by decide) CC20.1 (vs := own_by own_L22) (z := Int32.ofNat 0) own_tx22 (by decide) rfl (g := (mkF m 10 #[.val (.ref a1), .val (.ref a2), .val (.ref a3), .val (.long q4), .second] [.ref a2, .ref a1])) rfl (D10 hby 7 rfl) (n := 0) (by rw [own_tl22]; decide) (by decide) (by show 11 + 2 ≤ 16; decide) (by show 806 + 4 ≤ 1236; decide)
  have J21 := J20.ext E21
  have CC21 := CC20.trans C21
  have Sf21 : Safe Z own_EL T21.vm h21 t20 := by
    obtain ⟨-, -, -, -, kd_, vd_, B_, -⟩ := id J21.1
    exact own_safe hw hZ21 B_ (by omega) (by omega)
  have Sn21 : own_Sn Z h21 a21 own_L22 t20 := ⟨⟨Ea21, Fc21, bb21, kb21, Fv21, Va21⟩, fun x F => by cases own_Fu F Fv21; exact (hs21 _ Sf21).2.symm⟩
  have Snm21 := Snm20.ext E21
  have Shp21 := Shp20.ext E21
  have E21' := (E_a1.keep J20.2.2.1).ext E21
  have FT21 := (FT.keep J20.2.2.1 ha1).ext E21
  have hl20 : ((((((((((cs ++ own_L87) ++ nm) ++ [(32 : Int32)]) ++ hp) ++ [(10 : Int32)]) ++ own_L89) ++ nm) ++ [(32 : Int32)]) ++ own_L38) ++ [(10 : Int32)]).length = 66 + (own_num q4 nn).length := by simp only [List.length_append, hl0, h_nm, h_hp, List.length_cons, List.length_nil]; omega
  obtain ⟨cq22, q22, q22'⟩ := E21'.cell
  obtain ⟨_, _, ⟨T22, L22, k22, n22⟩, -, X22, ⟨Lc22, hQ22, l22, y22, z22⟩, st22⟩ := X21.privateBack hx (y := y_17) hown21 (zT hZ21 hw 160 rfl) (zT hZ21 hw 161 rfl) (mvT hZ21 (own_selQ (zW hw 60 rfl) (zW hw 59 rfl) rfl (zW hw 162 rfl) (zW hw 161 rfl) (by decide))) (Cond.privateMethod_at (mvP hZ21 (zW hw 162 rfl) (args := #[]))) (zT hZ21 hw 163 rfl) (by decide) (backOf (W := 0) (r29_2 l Z a0 hw [] a1 a2 a21 q4 b t20 ((((((((((cs ++ own_L87) ++ nm) ++ [(32 : Int32)]) ++ hp) ++ [(10 : Int32)]) ++ own_L89) ++ nm) ++ [(32 : Int32)]) ++ own_L38) ++ [(10 : Int32)]) nm c20 nn h21 n0 J21.2.2.2.2.2 FT21 J21.1 g_b J21.2.1 CS J21.2.2.2.2.1 Snm21 h_nm Sn21 hn hnx DG hcc20 hl20) hZ21 (zW hw 163 rfl) (zW hw 32 rfl) (by decide) (by decide)) (g := (mkF m 13 #[.val (.ref a1), .val (.ref a2), .val (.ref a3), .val (.long q4), .second] [(.long q4), .ref a21, .ref a2, .ref a1])) rfl (by rw [hml]; rfl) (Steps.refl _) (a := a1) (by rw [e21]; exact q22) q22' (argsL := [.ref a2, .ref a21, (.long q4)]) (rest := []) (lenOf own_pdM rfl) rfl (Nat.le_of_eq rfl) (D10 hby 9 rfl) (fun _ _ => ⟨rfl, e21, (by show 13 + 3 ≤ 16; decide), (by show 810 + 426 ≤ 1236; decide)⟩)
  dsimp only [Pt.U, Pt.locs, Pt.cells, Pt.slots] at X22 l22 y22 z22 st22 hQ22
  subst l22 y22 z22
  obtain ⟨rfl, Nq22, K22, c22, t22, hcc22, SB22, ht22, g22⟩ := hQ22
  have N22 := Fr.app N20 Nq22
  have J22 := J21.sub g_b K22 SB22 ht22
  have CC22 := own_CHop hw CC21 hZ21 K22 J21.1 (by omega) (by omega)
  have CT := CC22.trans (CHv.at X22 hZ21 hEL CC22.1)
  obtain ⟨fs, hr, hrun, hended, hRW⟩ := X22.leaveW S21 (Nat.le_trans hk21 K22.1) (v := none) (fun _ => rfl)
  have eqB : ((((((((((((((((cs ++ own_L87) ++ nm) ++ [(32 : Int32)]) ++ hp) ++ [(10 : Int32)]) ++ own_L89) ++ nm) ++ [(32 : Int32)]) ++ own_L38) ++ [(10 : Int32)]) ++ nm) ++ own_L22) ++ [(32 : Int32)]) ++ (own_num q4 nn)) ++ [(10 : Int32)])) = cs ++ own_blk nm hp q4 nn := by simp only [own_blk, List.append_assoc]
  refine ⟨_, _, pre0 _ ?_, hrun, hended, _, _, rfl, ?_, ?_, ⟨hRW.1, hRW.2.1, hRW.2.2.1, hRW.2.2.2.mono (by decide) (by decide)⟩⟩
  · refine XS.aloadN X0.here hx rfl (D10 hby 0 rfl) rfl rfl ?_
    refine XS.aloadN X0.here hx rfl (D10 hby 1 rfl) rfl rfl ?_
    refine st11 _ ?_
    refine XS.aloadN X11.here hx rfl (D10 hby 3 rfl) rfl rfl ?_
    refine st20.trans ?_
    refine XS.aloadN X20.here hx rfl (D10 hby 5 rfl) rfl rfl ?_
    refine XS.aloadN X20.here hx rfl (D10 hby 6 rfl) rfl rfl ?_
    refine st21 _ ?_
    refine XS.lloadN X21.here hx rfl (D10 hby 8 rfl) rfl ?_
    refine st22.trans ?_
    exact X22.returnOut hx Bd.returns (D10 hby 10 rfl) hr
  · exact ⟨rfl, N22, J22.2.2.1, c22, t22, hcc22, by rw [← eqB]; exact J22.1, J22.2.2.2.1, J22.2.1⟩
  · show CHr Z own_EL s.vm s.heap T22.vm T22.heap
    rw [hh]
    exact CT
def l7 : List (Nat × Instr × Nat) := [(0, .aload_n 0, 1), (1, .invokespecial 1, 3), (4, .aload_n 0, 1), (5, .new 7, 3), (8, .dup, 1), (9, .invokespecial 9, 3), (12, .putfield 10, 3), (15, .return_, 1)]
theorem D7 {c : Code} (h : c.code = prog_28_method_1_code) : zQ c l7 := zD h (by decide +kernel)
theorem pd_7_2 : parseMethodDescriptor "()V" = some ⟨[], none⟩ := by decide +kernel
def Q7 (Z : State) (a1 : Addr) (h0 : Heap) (n0 : Nat) (v : Option Value) (h : Heap) (L : List Loc) : Prop := v = none ∧ Fr n0 L ∧ Keep h0 h [a1] ∧ ∃ b t : Addr, Exa Z h a1 "com/example/dealt/dealt/metrics/Exposition" ∧ Fld Z h a1 "com/example/dealt/dealt/metrics/Exposition" "text" "Ljava/lang/StringBuilder;" (.ref b) ∧ own_SBv Z h b [] 16 t ∧ h0.size ≤ b ∧ h0.size ≤ t
def Q34 (Z : State) (cs : List Int32) (h0 : Heap) (n0 : Nat) (v : Option Value) (h : Heap) (L : List Loc) : Prop := v = some (.ref h0.size) ∧ Fr n0 L ∧ Keep h0 h [] ∧ own_Str Z h h0.size cs
theorem r7 (l : Launch) (Z : State) (a0 : Array Value) (hw : zH Z a0) (ws : List Jvm.Cond) (a1 : Addr) (u_text_a1 : Value) (h0 : Heap) (n0 : Nat) (Z0 : n0 ≤ h0.size) (E_a1 : Exa Z h0 a1 "com/example/dealt/dealt/metrics/Exposition") (F_text_a1 : Fld Z h0 a1 "com/example/dealt/dealt/metrics/Exposition" "text" "Ljava/lang/StringBuilder;" u_text_a1) (g_a1 : n0 ≤ a1) (CS : own_CS Z Z.heap) (O : Old Z n0 h0) :
    zM l Z h0 ws y_40 prog_28_method_1_code 1 none (zr 3 2 20 39) #[.ref a1] (Q7 Z a1 h0 n0) := by
  refine MetFree.of_bodySF (plainFor_of_name pn_34) hisR ?_
  intro p e s m args below meth c s₁ Bd hml0 hP hK
  obtain ⟨rfl, hZ, hh⟩ := hP
  have hx := Bd.exec
  have hby := Bd.bytes
  have hml : c.maxLocals = 1 := hml0
  have hown : s.vm.findClass "com/example/dealt/dealt/metrics/Exposition" = some m.cls := findClass_of_methodNamed Bd.named
  have hnm := (name_of_methodNamed Bd.named Bd.method).1
  have X0 : Stand p l e (zr 3 2 20 39) s m #[.ref a1] below meth c s₁ [] 0 0 := Stand.of_body Bd
  have e0 : s₁.heap = h0 := by rw [← hh, Bd.state]; rfl
  have N0 := Fr.nil n0
  have pre0 := zP p e below s₁ (ef_15 m a1)
  obtain ⟨T2, X2, e2, st2⟩ := initO X0 hx hZ hown (zW hw 36 rfl) (zW hw 12 rfl) (zW hw 13 rfl) e0 (g := (mkF m 1 #[.val (.ref a1)] [.ref a1])) rfl (by rw [hml]; rfl) rfl (D7 hby 1 rfl) (by decide) (W := 0) (Nat.le_of_eq rfl) (by decide)
  obtain ⟨T3, h3, X3, e3, E3, A3, D3, -, st3⟩ := newO X2 hx hZ hown (zW hw 37 rfl) (zW hw 38 rfl) (zW hw 39 rfl) e2 (g := (mkF m 5 #[.val (.ref a1)] [.ref a1])) rfl (D7 hby 3 rfl) (by decide) (by decide)
  obtain ⟨b3, g3⟩ : ∃ z, z = h0.size := ⟨_, rfl⟩
  rw [← g3] at A3 D3 st3
  have F_value_b3 : Fld Z h3 b3 "java/lang/AbstractStringBuilder" "value" "[B" .null := D3 (Or.inl (zW hw 52 rfl)) (ty := (.array .byte)) (by decide)
  have F_coder_b3 : Fld Z h3 b3 "java/lang/AbstractStringBuilder" "coder" "B" (.int 0) := D3 (Or.inl (zW hw 54 rfl)) (ty := .byte) (by decide)
  have F_count_b3 : Fld Z h3 b3 "java/lang/AbstractStringBuilder" "count" "I" (.int 0) := D3 (Or.inl (zW hw 91 rfl)) (ty := .int) (by decide)
  have E_b3 := A3
  have g_b3 : n0 ≤ b3 := Nat.le_trans Z0 (Nat.le_of_eq g3.symm)
  have sz_b3 : h0.size ≤ b3 := (Nat.le_trans (Keep.refl h0 [a1]).1 (Nat.le_of_eq g3.symm))
  have K3 : Keep h0 h3 [a1] := (Keep.refl h0 [a1]).ext E3
  obtain ⟨_, _, ⟨T4, L4, k4, n4⟩, -, X4, ⟨Lc4, hQ4, l4, y4, z4⟩, st4⟩ := X3.specialBack hx (y := y_32) rfl hown (zT hZ hw 40 rfl) (zT hZ hw 41 rfl) (zT hZ hw 42 rfl) (by decide) (backOf (W := 2) (r8 l Z a0 hw [] b3 _ _ h3 n0 (Nat.le_trans Z0 E3.1) E_b3 F_value_b3 g_b3 F_coder_b3 F_count_b3 (CS.ext (O.ext E3).2)) hZ (zW hw 42 rfl) (zW hw 39 rfl) (by decide) (by decide)) (g := (mkF m 9 #[.val (.ref a1)] [.ref b3, .ref b3, .ref a1])) rfl (by rw [hml]; rfl) (Steps.refl _) (a := b3) (argsL := []) (rest := [.ref b3, .ref a1]) (lenOf pd_7_2 rfl) rfl (Nat.le_of_eq rfl) (D7 hby 5 rfl) (fun _ _ => ⟨rfl, e3, (by decide : 1 + 1 ≤ _), (by decide : 4 + 16 ≤ _)⟩)
  dsimp only [Pt.U, Pt.locs, Pt.cells, Pt.slots] at X4 l4 y4 z4 st4 hQ4
  subst l4 y4 z4
  obtain ⟨rfl, N4q, K4, SB4⟩ := hQ4
  have hab : a1 ≠ b3 := fun q => Nat.lt_irrefl _ (Nat.lt_of_lt_of_le (q ▸ E_a1.lt) (Nat.le_of_eq g3.symm))
  have N4 := Fr.app N0 N4q
  obtain ⟨T5, h5, X5, e5, W5, st5⟩ := putF X4 hx hZ hown (host := "") (Or.inl (zW hw 55 rfl)) Via.refl rfl ((F_text_a1.ext E3).keep K4 (ninS hab nin0)) ((E_a1.ext E3).keep K4) (Or.inr ⟨(zW hw 56 rfl), rfl, hnm⟩) (zW hw 31 rfl) (ty := (.object "java/lang/StringBuilder")) (by decide) rfl rfl (g := (mkF m 12 #[.val (.ref a1)] [.ref b3, .ref a1])) rfl rfl (D7 hby 6 rfl)
  have Fw5 := ((F_text_a1.ext E3).keep K4 (ninS hab nin0)).same W5
  have K5 : Keep h0 h5 [a1] := (K3.trans K4 (allS (Or.inr sz_b3) all0)).wr W5 (Or.inl (List.mem_of_getElem? (i := 0) rfl))
  have N5 := Fr.snoc X5 N4 g_a1
  obtain ⟨fs, hr, hrun, hended, hW, hsame⟩ := X5.leave (v := none) (fun _ => rfl)
  refine ⟨_, _, pre0 _ ?_, hrun, hended, _, _, rfl, ?_, ⟨_, rfl⟩, hW, hsame.mono (by decide) (by decide)⟩
  · refine XS.aloadN X0.here hx rfl (D7 hby 0 rfl) rfl rfl ?_
    refine st2 _ ?_
    refine XS.aloadN X2.here hx rfl (D7 hby 2 rfl) rfl rfl ?_
    refine st3 _ ?_
    refine XS.dup X3.here hx rfl (D7 hby 4 rfl) rfl rfl ?_
    refine st4.trans ?_
    refine st5 _ ?_
    exact X5.returnOut hx Bd.returns (D7 hby 7 rfl) hr
  · show Q7 Z a1 h0 n0 _ T5.heap _
    rw [e5]
    obtain ⟨EB, Fc, Fn, Fv, kd, vd, B, hvd⟩ := id SB4
    have h1 : b3 ≠ a1 := hab.symm
    have h2 : h3.size ≠ a1 := Nat.ne_of_gt (Nat.lt_of_lt_of_le E_a1.lt E3.1)
    exact ⟨rfl, N5, K5, b3, h3.size, ((E_a1.ext E3).keep K4).wr W5, Fw5, ⟨EB.wr W5, Fc.other W5 (Or.inl h1), Fn.other W5 (Or.inl h1), Fv.other W5 (Or.inl h1), kd, vd, B.other W5 h2, hvd⟩, sz_b3, E3.1⟩
theorem r34 (l : Launch) (Z : State) (a0 : Array Value) (hw : zH Z a0) (ws : List Jvm.Cond) (a1 : Addr) (w2 tb : Addr) (cs : List Int32) (c_ : Nat) (h0 : Heap) (n0 : Nat) (Z0 : n0 ≤ h0.size) (F_text_a1 : Fld Z h0 a1 "com/example/dealt/dealt/metrics/Exposition" "text" "Ljava/lang/StringBuilder;" (.ref w2)) (SB : own_SBv Z h0 w2 cs c_ tb) (CS : own_CS Z h0) (hn : cs.length < c_) (hc : c_ ≤ 142) :
    zM l Z h0 ws y_27 prog_28_method_7_code 1 (some (.object "java/lang/String")) (zr 6 2 146 92) #[.ref a1] (Q34 Z cs h0 n0) := by
  refine MetFree.of_bodySF (plainFor_of_name pn_34) hisR ?_
  intro p e s m args below meth c s₁ Bd hml0 hP hK
  obtain ⟨rfl, hZ, hh⟩ := hP
  have hx := Bd.exec
  have E_w2 := SB.1
  have hby := Bd.bytes
  have hml : c.maxLocals = 1 := hml0
  have hown : s.vm.findClass "com/example/dealt/dealt/metrics/Exposition" = some m.cls := findClass_of_methodNamed Bd.named
  have X0 : Stand p l e (zr 6 2 146 92) s m #[.ref a1] below meth c s₁ [] 0 0 := Stand.of_body Bd
  have e0 : s₁.heap = h0 := by rw [← hh, Bd.state]; rfl
  have N0 := Fr.nil n0
  have pre0 := zP p e below s₁ (ef_15 m a1)
  obtain ⟨T3, X3, e3, st3⟩ := getF X0 hx hZ hown (host := "") (Or.inl (zW hw 55 rfl)) Via.refl e0 F_text_a1 (g := (mkF m 1 #[.val (.ref a1)] [.ref a1])) rfl rfl (D34 hby 1 rfl)
  obtain ⟨cq4, kq4, q4a, q4b, q4c⟩ := isOf hZ e3 E_w2
  obtain ⟨_, _, ⟨T4, L4, k4, n4⟩, -, X4, ⟨Lc4, hQ4, l4, y4, z4⟩, st4⟩ := X3.virtualBack hx (y := y_26) hown (zT hZ hw 189 rfl) (zT hZ hw 190 rfl) (notFace_of_selects (args := #[]) (zT hZ hw 192 rfl)) (zT hZ hw 192 rfl) (zT hZ hw 191 rfl) (by decide) (backOf (W := 0) (r35 l Z a0 hw [] w2 tb cs c_ h0 n0 Z0 SB CS hn hc) hZ (zW hw 193 rfl) (zW hw 39 rfl) (by decide) (by decide)) q4a q4c (g := (mkF m 4 #[.val (.ref a1)] [.ref w2])) rfl (by rw [hml]; rfl) (Steps.refl _) (argsL := []) (rest := []) (lenOf pd_34_29 rfl) rfl (Nat.le_of_eq rfl) (D34 hby 2 rfl) (fun _ _ => ⟨rfl, e3, (by decide : 0 + 2 ≤ _), (by decide : 0 + 146 ≤ _)⟩)
  dsimp only [Pt.U, Pt.locs, Pt.cells, Pt.slots] at X4 l4 y4 z4 st4 hQ4
  subst l4 y4 z4
  obtain ⟨rfl, N4q, Qq⟩ := hQ4
  have N4 := Fr.app N0 N4q
  obtain ⟨fs, hr, hrun, hended, hW, hsame⟩ := X4.leave (v := some (.ref h0.size)) (fun h => by rw [Bd.returns] at h; cases h)
  refine ⟨_, _, pre0 _ ?_, hrun, hended, _, _, rfl, ?_, ⟨_, rfl⟩, hW, hsame.mono (by decide) (by decide)⟩
  · refine XS.aloadN X0.here hx rfl (D34 hby 0 rfl) rfl rfl ?_
    refine st3 _ ?_
    refine st4.trans ?_
    jvm_step X4.here [X4.here.top, hx, (D34 hby 3 rfl), X4.method', Bd.returns, Value.isRef, FieldType.isReference]
    first | (intro acts; rw [hr _ acts rfl rfl rfl]) | rw [hr _ _ rfl rfl rfl]
    exact Steps.refl _
  · show Q34 Z cs h0 n0 _ T4.heap _
    exact ⟨rfl, N4, Qq⟩
abbrev own_R0 : Room := { frames := 11, cells := 48, slots := 5120, locals := 240 }
theorem own_chars (x : Int32) : ¬ nar .char ((x &&& (255 : Int32)).toUInt32.toUInt16.toUInt32.toInt32) < 0 ∧ ¬ (255 : Int32) < nar .char ((x &&& (255 : Int32)).toUInt32.toUInt16.toUInt32.toInt32) := by
  have t : ∀ k : Fin 256, ¬ nar .char ((Int32.ofNat k.val).toUInt32.toUInt16.toUInt32.toInt32) < 0 ∧ ¬ (255 : Int32) < nar .char ((Int32.ofNat k.val).toUInt32.toUInt16.toUInt32.toInt32) := by decide +kernel
  have h : (x &&& 255).toBitVec.toNat < 256 := by
    simp only [Int32.toBitVec_and, BitVec.toNat_and]
    exact Nat.lt_succ_of_le Nat.and_le_right
  have e : (x &&& 255) = Int32.ofNat (x &&& 255).toBitVec.toNat := by
    apply Int32.toBitVec_inj.mp
    show _ = BitVec.ofNat 32 _
    rw [BitVec.ofNat_toNat]; simp
  rw [e]
  exact t ⟨_, h⟩
theorem os0_6_own_c0 {z0 : Value} {z1 : Value} {s2 : Slot} {s3 : Slot} {s4 : Slot} {s5 : Slot} {s6 : Slot} {s7 : Slot} {s8 : Slot} {s9 : Slot} {s10 : Slot} {s11 : Slot} {s12 : Slot} {s13 : Slot} {s14 : Slot} {s15 : Slot} {s16 : Slot} {s17 : Slot} {v : Int32} (h : One s4) : storeLocals #[.val z0, .val z1, s2, s3, s4, s5, s6, s7, s8, s9, s10, s11, s12, s13, s14, s15, s16, s17] 4 (.int v) = some #[.val z0, .val z1, s2, s3, .val (.int v), s5, s6, s7, s8, s9, s10, s11, s12, s13, s14, s15, s16, s17] := by
  rcases h with rfl | ⟨w, rfl, hw⟩
  · rfl
  · cases w <;> first | rfl | (simp [Value.category] at hw)
theorem os0_17_own_c0 {z0 : Value} {z1 : Value} {s2 : Slot} {s3 : Slot} {z4 : Value} {s5 : Slot} {s6 : Slot} {s7 : Slot} {s8 : Slot} {s9 : Slot} {s10 : Slot} {s11 : Slot} {s12 : Slot} {s13 : Slot} {s14 : Slot} {s15 : Slot} {s16 : Slot} {s17 : Slot} {v : Int32} (h : One s5) : storeLocals #[.val z0, .val z1, s2, s3, .val z4, s5, s6, s7, s8, s9, s10, s11, s12, s13, s14, s15, s16, s17] 5 (.int v) = some #[.val z0, .val z1, s2, s3, .val z4, .val (.int v), s6, s7, s8, s9, s10, s11, s12, s13, s14, s15, s16, s17] := by
  rcases h with rfl | ⟨w, rfl, hw⟩
  · rfl
  · cases w <;> first | rfl | (simp [Value.category] at hw)
theorem os0_25_own_c0 {z0 : Value} {z1 : Value} {s2 : Slot} {s3 : Slot} {z4 : Value} {z5 : Value} {s6 : Slot} {s7 : Slot} {s8 : Slot} {s9 : Slot} {s10 : Slot} {s11 : Slot} {s12 : Slot} {s13 : Slot} {s14 : Slot} {s15 : Slot} {s16 : Slot} {s17 : Slot} {v : Int32} (h : One s6) : storeLocals #[.val z0, .val z1, s2, s3, .val z4, .val z5, s6, s7, s8, s9, s10, s11, s12, s13, s14, s15, s16, s17] 6 (.int v) = some #[.val z0, .val z1, s2, s3, .val z4, .val z5, .val (.int v), s7, s8, s9, s10, s11, s12, s13, s14, s15, s16, s17] := by
  rcases h with rfl | ⟨w, rfl, hw⟩
  · rfl
  · cases w <;> first | rfl | (simp [Value.category] at hw)
theorem os0_36_own_c0 {z0 : Value} {z1 : Value} {s2 : Slot} {s3 : Slot} {z4 : Value} {z5 : Value} {z6 : Value} {s7 : Slot} {s8 : Slot} {s9 : Slot} {s10 : Slot} {s11 : Slot} {s12 : Slot} {s13 : Slot} {s14 : Slot} {s15 : Slot} {s16 : Slot} {s17 : Slot} {v : Int32} (h : One s7) : storeLocals #[.val z0, .val z1, s2, s3, .val z4, .val z5, .val z6, s7, s8, s9, s10, s11, s12, s13, s14, s15, s16, s17] 7 (.int v) = some #[.val z0, .val z1, s2, s3, .val z4, .val z5, .val z6, .val (.int v), s8, s9, s10, s11, s12, s13, s14, s15, s16, s17] := by
  rcases h with rfl | ⟨w, rfl, hw⟩
  · rfl
  · cases w <;> first | rfl | (simp [Value.category] at hw)
theorem own_c0 {p : Program} {l : Launch} {e : Env} {s : State} {m : MethodId} {args : Array Value} {below : List Frame} {meth : Method} {c : Code} {T0 : State} {locs : List Loc} {cells slots : Nat} {Z : State} {a0 : Array Value} {h0 : Heap} (i0 : Int32) (i1 : Int32) (s2 : Slot) (s3 : Slot) (s4 : Slot) (s5 : Slot) (s6 : Slot) (s7 : Slot) (s8 : Slot) (s9 : Slot) (s10 : Slot) (s11 : Slot) (s12 : Slot) (s13 : Slot) (s14 : Slot) (s15 : Slot) (s16 : Slot) (s17 : Slot)
    (X0 : Stand p l e own_R0 s m args below meth c T0 locs cells slots) (hx : p.tables.exec = Jvm.exec) (hZ : Z.Warmed39 s.vm) (hw : zH Z a0) (hby : c.code = code) (hml : c.maxLocals = 18) (hown : s.vm.findClass "com/example/dealt/dealt/metrics/ExpositionCounterPinLaw" = some m.cls) (e0 : T0.heap = h0) (hs4 : One s4) (hs5 : One s5) (hs6 : One s6) (hs7 : One s7) :
    ∃ (T' : State), Stand p l e own_R0 s m args below meth c T' locs cells slots ∧ T'.heap = h0 ∧
      ∀ target, Steps p.tables e below (T'.setTop (mkF m 38 #[.val (.int i0), .val (.int i1), s2, s3, .val (.int ((i0 &&& (255 : Int32)).toUInt32.toUInt16.toUInt32.toInt32)), .val (.int ((((i0.toUInt32 >>> ((8 : Int32) &&& 31).toUInt32).toInt32) &&& (255 : Int32)).toUInt32.toUInt16.toUInt32.toInt32)), .val (.int ((i1 &&& (255 : Int32)).toUInt32.toUInt16.toUInt32.toInt32)), .val (.int ((((i1.toUInt32 >>> ((8 : Int32) &&& 31).toUInt32).toInt32) &&& (255 : Int32)).toUInt32.toUInt16.toUInt32.toInt32)), s8, s9, s10, s11, s12, s13, s14, s15, s16, s17] [])) target → Steps p.tables e below (T0.setTop (mkF m 0 #[.val (.int i0), .val (.int i1), s2, s3, s4, s5, s6, s7, s8, s9, s10, s11, s12, s13, s14, s15, s16, s17] [])) target := by
  refine ⟨T0, X0, e0, fun target kt => ?_⟩
  refine XS.iloadN X0.here hx rfl (hb hby at_0) rfl ?_
  refine XS.sipush X0.here hx rfl (hb hby at_1) ?_
  refine XS.iand X0.here hx rfl (hb hby at_4) rfl ?_
  refine XS.i2c X0.here hx rfl (hb hby at_5) rfl ?_
  refine XS.istore X0.here hx rfl (hb hby at_6) rfl (l' := #[.val (.int i0), .val (.int i1), s2, s3, .val (.int ((i0 &&& (255 : Int32)).toUInt32.toUInt16.toUInt32.toInt32)), s5, s6, s7, s8, s9, s10, s11, s12, s13, s14, s15, s16, s17]) (os0_6_own_c0 hs4) ?_
  refine XS.iloadN X0.here hx rfl (hb hby at_8) rfl ?_
  refine XS.bipush X0.here hx rfl (hb hby at_9) ?_
  refine XS.iushr X0.here hx rfl (hb hby at_11) rfl ?_
  refine XS.sipush X0.here hx rfl (hb hby at_12) ?_
  refine XS.iand X0.here hx rfl (hb hby at_15) rfl ?_
  refine XS.i2c X0.here hx rfl (hb hby at_16) rfl ?_
  refine XS.istore X0.here hx rfl (hb hby at_17) rfl (l' := #[.val (.int i0), .val (.int i1), s2, s3, .val (.int ((i0 &&& (255 : Int32)).toUInt32.toUInt16.toUInt32.toInt32)), .val (.int ((((i0.toUInt32 >>> ((8 : Int32) &&& 31).toUInt32).toInt32) &&& (255 : Int32)).toUInt32.toUInt16.toUInt32.toInt32)), s6, s7, s8, s9, s10, s11, s12, s13, s14, s15, s16, s17]) (os0_17_own_c0 hs5) ?_
  refine XS.iloadN X0.here hx rfl (hb hby at_19) rfl ?_
  refine XS.sipush X0.here hx rfl (hb hby at_20) ?_
  refine XS.iand X0.here hx rfl (hb hby at_23) rfl ?_
  refine XS.i2c X0.here hx rfl (hb hby at_24) rfl ?_
  refine XS.istore X0.here hx rfl (hb hby at_25) rfl (l' := #[.val (.int i0), .val (.int i1), s2, s3, .val (.int ((i0 &&& (255 : Int32)).toUInt32.toUInt16.toUInt32.toInt32)), .val (.int ((((i0.toUInt32 >>> ((8 : Int32) &&& 31).toUInt32).toInt32) &&& (255 : Int32)).toUInt32.toUInt16.toUInt32.toInt32)), .val (.int ((i1 &&& (255 : Int32)).toUInt32.toUInt16.toUInt32.toInt32)), s7, s8, s9, s10, s11, s12, s13, s14, s15, s16, s17]) (os0_25_own_c0 hs6) ?_
  refine XS.iloadN X0.here hx rfl (hb hby at_27) rfl ?_
  refine XS.bipush X0.here hx rfl (hb hby at_28) ?_
  refine XS.iushr X0.here hx rfl (hb hby at_30) rfl ?_
  refine XS.sipush X0.here hx rfl (hb hby at_31) ?_
  refine XS.iand X0.here hx rfl (hb hby at_34) rfl ?_
  refine XS.i2c X0.here hx rfl (hb hby at_35) rfl ?_
  refine XS.istore X0.here hx rfl (hb hby at_36) rfl (l' := #[.val (.int i0), .val (.int i1), s2, s3, .val (.int ((i0 &&& (255 : Int32)).toUInt32.toUInt16.toUInt32.toInt32)), .val (.int ((((i0.toUInt32 >>> ((8 : Int32) &&& 31).toUInt32).toInt32) &&& (255 : Int32)).toUInt32.toUInt16.toUInt32.toInt32)), .val (.int ((i1 &&& (255 : Int32)).toUInt32.toUInt16.toUInt32.toInt32)), .val (.int ((((i1.toUInt32 >>> ((8 : Int32) &&& 31).toUInt32).toInt32) &&& (255 : Int32)).toUInt32.toUInt16.toUInt32.toInt32)), s8, s9, s10, s11, s12, s13, s14, s15, s16, s17]) (os0_36_own_c0 hs7) ?_
  exact kt
theorem pd_0_0 : parseMethodDescriptor "([C)V" = some ⟨[(.array .char)], none⟩ := by decide +kernel
theorem os0_58_own_s8 {s0 : Slot} {s1 : Slot} {s2 : Slot} {s3 : Slot} {z4 : Value} {z5 : Value} {s6 : Slot} {s7 : Slot} {s8 : Slot} {s9 : Slot} {s10 : Slot} {s11 : Slot} {s12 : Slot} {s13 : Slot} {s14 : Slot} {s15 : Slot} {s16 : Slot} {s17 : Slot} {v : Addr} (h : One s8) : storeLocals #[s0, s1, s2, s3, .val z4, .val z5, s6, s7, s8, s9, s10, s11, s12, s13, s14, s15, s16, s17] 8 (.ref v) = some #[s0, s1, s2, s3, .val z4, .val z5, s6, s7, .val (.ref v), s9, s10, s11, s12, s13, s14, s15, s16, s17] := by
  rcases h with rfl | ⟨w, rfl, hw⟩
  · rfl
  · cases w <;> first | rfl | (simp [Value.category] at hw)
theorem own_s8 {p : Program} {l : Launch} {e : Env} {s : State} {m : MethodId} {args : Array Value} {below : List Frame} {meth : Method} {c : Code} {T0 : State} {locs : List Loc} {Z : State} {a0 : Array Value} {h0 : Heap} (s0 : Slot) (s1 : Slot) (s2 : Slot) (s3 : Slot) (i4 : Int32) (i5 : Int32) (s6 : Slot) (s7 : Slot) (s8 : Slot) (s9 : Slot) (s10 : Slot) (s11 : Slot) (s12 : Slot) (s13 : Slot) (s14 : Slot) (s15 : Slot) (s16 : Slot) (s17 : Slot) (n0 : Nat)
    (X0 : Stand p l e own_R0 s m args below meth c T0 locs 0 0) (hx : p.tables.exec = Jvm.exec) (hZ : Z.Warmed39 s.vm) (hw : zH Z a0) (hby : c.code = code) (hml : c.maxLocals = 18) (hown : s.vm.findClass "com/example/dealt/dealt/metrics/ExpositionCounterPinLaw" = some m.cls) (e0 : T0.heap = h0) (CS : own_CS Z Z.heap) (O : Old Z n0 h0) (ha : ¬ nar .char i4 < 0 ∧ ¬ (255 : Int32) < nar .char i4) (hb_ : ¬ nar .char i5 < 0 ∧ ¬ (255 : Int32) < nar .char i5) (Z0 : n0 ≤ h0.size) (N0 : Fr n0 locs) (hs8 : One s8) :
    ∃ (T' : State) (locs' : List Loc), Stand p l e own_R0 s m args below meth c T' locs' (0 + 2 + 1) (0 + 6 + 2) ∧ Fr n0 locs' ∧ Keep h0 T'.heap [] ∧ own_Str Z T'.heap h0.size [nar .char i4, nar .char i5] ∧
      ∀ target, Steps p.tables e below (T'.setTop (mkF m 60 #[s0, s1, s2, s3, .val (.int i4), .val (.int i5), s6, s7, .val (.ref h0.size), s9, s10, s11, s12, s13, s14, s15, s16, s17] [])) target → Steps p.tables e below (T0.setTop (mkF m 38 #[s0, s1, s2, s3, .val (.int i4), .val (.int i5), s6, s7, s8, s9, s10, s11, s12, s13, s14, s15, s16, s17] [])) target := by
  obtain ⟨T4, h4, X4, e4, E4, A4, D4, -, st4⟩ := newO X0 hx hZ hown (zW hw 0 rfl) (zW hw 1 rfl) (zW hw 2 rfl) e0 (g := (mkF m 38 #[s0, s1, s2, s3, .val (.int i4), .val (.int i5), s6, s7, s8, s9, s10, s11, s12, s13, s14, s15, s16, s17] [])) rfl (hb hby at_38) (by decide) (by decide)
  obtain ⟨b4, g4⟩ : ∃ z, z = h0.size := ⟨_, rfl⟩
  rw [← g4] at A4 D4 st4
  have F_coder_b4 : Fld Z h4 b4 "java/lang/String" "coder" "B" (.int 0) := D4 (Or.inr (zW hw 27 rfl)) (ty := .byte) (by decide)
  have F_value_b4 : Fld Z h4 b4 "java/lang/String" "value" "[B" .null := D4 (Or.inr (zW hw 29 rfl)) (ty := (.array .byte)) (by decide)
  have E_b4 := A4
  have g_b4 : n0 ≤ b4 := Nat.le_trans Z0 (Nat.le_of_eq g4.symm)
  have sz_b4 : h0.size ≤ b4 := (Nat.le_trans (Keep.refl h0 []).1 (Nat.le_of_eq g4.symm))
  have K4 : Keep h0 h4 [] := (Keep.refl h0 []).ext E4
  obtain ⟨T5, h5, k5, X5, e5, E5, A5, st5⟩ := newP X4 hx hZ (zW hw 3 rfl) e4 (g := (mkF m 43 #[s0, s1, s2, s3, .val (.int i4), .val (.int i5), s6, s7, s8, s9, s10, s11, s12, s13, s14, s15, s16, s17] [.int 2, .ref b4, .ref b4])) rfl (hb hby at_43) rfl (by decide) (cap := 2) (by decide) (by decide) (by decide) (by decide)
  obtain ⟨b5, g5⟩ : ∃ z, z = h4.size := ⟨_, rfl⟩
  rw [← g5] at A5 st5
  have V_b5 : Arv Z h5 b5 k5 .char (2 : Int32) [.int 0, .int 0] (.int 0) := (Arv.new A5 (by decide)).pad (pad_rep [] (.int 0) 2)
  have g_b5 : n0 ≤ b5 := Nat.le_trans (Nat.le_trans Z0 E4.1) (Nat.le_of_eq g5.symm)
  have sz_b5 : h0.size ≤ b5 := (Nat.le_trans K4.1 (Nat.le_of_eq g5.symm))
  have K5 : Keep h0 h5 [] := K4.ext E5
  obtain ⟨cl_b5_49, Ar_b5, q_b5, S_b5, N_b5, H_b5, G_b5⟩ := V_b5
  have hin49 : ¬ ((0 : Int32) < 0 ∨ cl_b5_49.slots.size ≤ ((0 : Int32)).toNatClampNeg) := inb_of S_b5 ⟨by decide, by decide⟩
  obtain ⟨T6, h6, X6, e6, W6, st6⟩ := stC X5 hx hZ e5 Ar_b5 (j := (0 : Int32)) hin49 (g := (mkF m 49 #[s0, s1, s2, s3, .val (.int i4), .val (.int i5), s6, s7, s8, s9, s10, s11, s12, s13, s14, s15, s16, s17] [.int i4, .int 0, .ref b5, .ref b5, .ref b4, .ref b4])) rfl rfl (hb hby at_49)
  have V_b5_6 := Arv.set Ar_b5 q_b5 S_b5 N_b5 H_b5 G_b5 (fits_nar_char _) W6 0 rfl (Nat.le_of_ble_eq_true rfl)
  have K6 : Keep h0 h6 [] := K5.wr W6 (Or.inr sz_b5)
  have N6 := Fr.snoc X6 N0 g_b5
  obtain ⟨cl_b5_54, Ar_b5, q_b5, S_b5, N_b5, H_b5, G_b5⟩ := V_b5_6
  have hin54 : ¬ ((1 : Int32) < 0 ∨ cl_b5_54.slots.size ≤ ((1 : Int32)).toNatClampNeg) := inb_of S_b5 ⟨by decide, by decide⟩
  obtain ⟨T7, h7, X7, e7, W7, st7⟩ := stC X6 hx hZ e6 Ar_b5 (j := (1 : Int32)) hin54 (g := (mkF m 54 #[s0, s1, s2, s3, .val (.int i4), .val (.int i5), s6, s7, s8, s9, s10, s11, s12, s13, s14, s15, s16, s17] [.int i5, .int 1, .ref b5, .ref b5, .ref b4, .ref b4])) rfl rfl (hb hby at_54)
  have V_b5_7 := Arv.set Ar_b5 q_b5 S_b5 N_b5 H_b5 G_b5 (fits_nar_char _) W7 1 rfl (Nat.le_of_ble_eq_true rfl)
  have K7 : Keep h0 h7 [] := K6.wr W7 (Or.inr sz_b5)
  have N7 := Fr.snoc X7 N6 g_b5
  have Xo : Old Z n0 h7 := (((O.ext E4).ext E5).wr W6 g_b5).wr W7 g_b5
  have Zs : n0 ≤ h7.size := Nat.le_trans Z0 K7.1
  have EbS := ((E_b4.ext E5).wr W6).wr W7
  have FvS := ((F_value_b4.ext E5).other W6 (Or.inl (fun q => Nat.lt_irrefl _ (Nat.lt_of_lt_of_le (q ▸ E_b4.lt) (Nat.le_of_eq g5.symm))))).other W7 (Or.inl (fun q => Nat.lt_irrefl _ (Nat.lt_of_lt_of_le (q ▸ E_b4.lt) (Nat.le_of_eq g5.symm))))
  have FcS := ((F_coder_b4.ext E5).other W6 (Or.inl (fun q => Nat.lt_irrefl _ (Nat.lt_of_lt_of_le (q ▸ E_b4.lt) (Nat.le_of_eq g5.symm))))).other W7 (Or.inl (fun q => Nat.lt_irrefl _ (Nat.lt_of_lt_of_le (q ▸ E_b4.lt) (Nat.le_of_eq g5.symm))))
  have Vs : Arv Z h7 b5 k5 .char (2 : Int32) [.int (nar .char i4), .int (nar .char i5)] (.int 0) := V_b5_7
  have hws : ∀ d ∈ StrChars.Road.words, d.before a0 Z = true := fun d hd => hw d ((by decide +kernel : ∀ d ∈ StrChars.Road.words, d ∈ tables_1) d hd)
  have hp : ∀ c ∈ ([nar .char i4, nar .char i5] : List Int32), ¬ c < 0 ∧ ¬ (255 : Int32) < c := by
    intro c hc
    simp only [List.mem_cons, List.not_mem_nil, or_false] at hc
    rcases hc with rfl | rfl
    · exact ha
    · exact hb_
  obtain ⟨zc, SC, hz⟩ := CS.ext Xo.2
  obtain ⟨_, _, ⟨T8, L8, k8, n8⟩, -, X8, ⟨Lc8, hQ8, l8, y8, z8⟩, st8⟩ := X7.specialBack hx (y := (⟨"java/lang/String", "<init>", "([C)V"⟩ : MethodName)) rfl hown (zT hZ hw 4 rfl) (zT hZ hw 5 rfl) (zT hZ hw 6 rfl) (by decide) (StrChars.Road.backV (W := 1) hZ hws (kI := 4) (zW hw 1 rfl) (cs := ([nar .char i4, nar .char i5] : List Int32)) (bs := (([nar .char i4, nar .char i5] : List Int32)).map (fun c => c.toInt8.toInt32)) (n := 2) g_b4 Zs EbS FvS FcS Vs SC hz rfl rfl (by decide) (by decide) hp rfl (by decide) (by decide)) (g := (mkF m 55 #[s0, s1, s2, s3, .val (.int i4), .val (.int i5), s6, s7, s8, s9, s10, s11, s12, s13, s14, s15, s16, s17] [.ref b5, .ref b4, .ref b4])) rfl (by rw [hml]; rfl) (Steps.refl _) (a := b4) (argsL := [.ref b5]) (rest := [.ref b4]) (lenOf pd_0_0 rfl) rfl (Nat.le_of_eq rfl) (hb hby at_55) (fun _ _ => ⟨rfl, e7, (by show 0 + 2 + 1 ≤ 48; decide), (by show 0 + 6 + 2 ≤ 5120; decide)⟩)
  dsimp only [Pt.U, Pt.locs, Pt.cells, Pt.slots] at X8 l8 y8 z8 st8 hQ8
  subst l8 y8 z8
  obtain ⟨rfl, N8q, Kc, g8a, g8b, a8t, k8t, u8, v8, w8, g8c, g8d⟩ := hQ8
  have N8 := Fr.app N7 N8q
  refine ⟨T8, _, X8, N8, K7.trans Kc (allS (Or.inr sz_b4) all0), ?_, fun target kt => ?_⟩
  · subst g4; exact ⟨g8a, g8b, a8t, k8t, g8c, g8d⟩
  refine st4 _ ?_
  refine XS.dup X4.here hx rfl (hb hby at_41) rfl rfl ?_
  refine XS.iconst X4.here hx rfl (hb hby at_42) ?_
  refine st5 _ ?_
  refine XS.dup X5.here hx rfl (hb hby at_45) rfl rfl ?_
  refine XS.iconst X5.here hx rfl (hb hby at_46) ?_
  refine XS.iload X5.here hx rfl (hb hby at_47) rfl ?_
  refine st6 _ ?_
  refine XS.dup X6.here hx rfl (hb hby at_50) rfl rfl ?_
  refine XS.iconst X6.here hx rfl (hb hby at_51) ?_
  refine XS.iload X6.here hx rfl (hb hby at_52) rfl ?_
  refine st7 _ ?_
  refine st8.trans ?_
  refine XS.astore X8.here hx rfl (hb hby at_58) rfl rfl (l' := #[s0, s1, s2, s3, .val (.int i4), .val (.int i5), s6, s7, .val (.ref b4), s9, s10, s11, s12, s13, s14, s15, s16, s17]) (os0_58_own_s8 hs8) ?_
  subst g4
  exact kt
theorem os0_80_own_s9 {s0 : Slot} {s1 : Slot} {s2 : Slot} {s3 : Slot} {s4 : Slot} {s5 : Slot} {z6 : Value} {z7 : Value} {s8 : Slot} {s9 : Slot} {s10 : Slot} {s11 : Slot} {s12 : Slot} {s13 : Slot} {s14 : Slot} {s15 : Slot} {s16 : Slot} {s17 : Slot} {v : Addr} (h : One s9) : storeLocals #[s0, s1, s2, s3, s4, s5, .val z6, .val z7, s8, s9, s10, s11, s12, s13, s14, s15, s16, s17] 9 (.ref v) = some #[s0, s1, s2, s3, s4, s5, .val z6, .val z7, s8, .val (.ref v), s10, s11, s12, s13, s14, s15, s16, s17] := by
  rcases h with rfl | ⟨w, rfl, hw⟩
  · rfl
  · cases w <;> first | rfl | (simp [Value.category] at hw)
theorem own_s9 {p : Program} {l : Launch} {e : Env} {s : State} {m : MethodId} {args : Array Value} {below : List Frame} {meth : Method} {c : Code} {T0 : State} {locs : List Loc} {Z : State} {a0 : Array Value} {h0 : Heap} (s0 : Slot) (s1 : Slot) (s2 : Slot) (s3 : Slot) (s4 : Slot) (s5 : Slot) (i6 : Int32) (i7 : Int32) (s8 : Slot) (s9 : Slot) (s10 : Slot) (s11 : Slot) (s12 : Slot) (s13 : Slot) (s14 : Slot) (s15 : Slot) (s16 : Slot) (s17 : Slot) (n0 : Nat)
    (X0 : Stand p l e own_R0 s m args below meth c T0 locs 3 8) (hx : p.tables.exec = Jvm.exec) (hZ : Z.Warmed39 s.vm) (hw : zH Z a0) (hby : c.code = code) (hml : c.maxLocals = 18) (hown : s.vm.findClass "com/example/dealt/dealt/metrics/ExpositionCounterPinLaw" = some m.cls) (e0 : T0.heap = h0) (CS : own_CS Z Z.heap) (O : Old Z n0 h0) (ha : ¬ nar .char i6 < 0 ∧ ¬ (255 : Int32) < nar .char i6) (hb_ : ¬ nar .char i7 < 0 ∧ ¬ (255 : Int32) < nar .char i7) (Z0 : n0 ≤ h0.size) (N0 : Fr n0 locs) (hs9 : One s9) :
    ∃ (T' : State) (locs' : List Loc), Stand p l e own_R0 s m args below meth c T' locs' (3 + 2 + 1) (8 + 6 + 2) ∧ Fr n0 locs' ∧ Keep h0 T'.heap [] ∧ own_Str Z T'.heap h0.size [nar .char i6, nar .char i7] ∧
      ∀ target, Steps p.tables e below (T'.setTop (mkF m 82 #[s0, s1, s2, s3, s4, s5, .val (.int i6), .val (.int i7), s8, .val (.ref h0.size), s10, s11, s12, s13, s14, s15, s16, s17] [])) target → Steps p.tables e below (T0.setTop (mkF m 60 #[s0, s1, s2, s3, s4, s5, .val (.int i6), .val (.int i7), s8, s9, s10, s11, s12, s13, s14, s15, s16, s17] [])) target := by
  obtain ⟨T4, h4, X4, e4, E4, A4, D4, -, st4⟩ := newO X0 hx hZ hown (zW hw 0 rfl) (zW hw 1 rfl) (zW hw 2 rfl) e0 (g := (mkF m 60 #[s0, s1, s2, s3, s4, s5, .val (.int i6), .val (.int i7), s8, s9, s10, s11, s12, s13, s14, s15, s16, s17] [])) rfl (hb hby at_60) (by decide) (by decide)
  obtain ⟨b4, g4⟩ : ∃ z, z = h0.size := ⟨_, rfl⟩
  rw [← g4] at A4 D4 st4
  have F_coder_b4 : Fld Z h4 b4 "java/lang/String" "coder" "B" (.int 0) := D4 (Or.inr (zW hw 27 rfl)) (ty := .byte) (by decide)
  have F_value_b4 : Fld Z h4 b4 "java/lang/String" "value" "[B" .null := D4 (Or.inr (zW hw 29 rfl)) (ty := (.array .byte)) (by decide)
  have E_b4 := A4
  have g_b4 : n0 ≤ b4 := Nat.le_trans Z0 (Nat.le_of_eq g4.symm)
  have sz_b4 : h0.size ≤ b4 := (Nat.le_trans (Keep.refl h0 []).1 (Nat.le_of_eq g4.symm))
  have K4 : Keep h0 h4 [] := (Keep.refl h0 []).ext E4
  obtain ⟨T5, h5, k5, X5, e5, E5, A5, st5⟩ := newP X4 hx hZ (zW hw 3 rfl) e4 (g := (mkF m 65 #[s0, s1, s2, s3, s4, s5, .val (.int i6), .val (.int i7), s8, s9, s10, s11, s12, s13, s14, s15, s16, s17] [.int 2, .ref b4, .ref b4])) rfl (hb hby at_65) rfl (by decide) (cap := 2) (by decide) (by decide) (by decide) (by decide)
  obtain ⟨b5, g5⟩ : ∃ z, z = h4.size := ⟨_, rfl⟩
  rw [← g5] at A5 st5
  have V_b5 : Arv Z h5 b5 k5 .char (2 : Int32) [.int 0, .int 0] (.int 0) := (Arv.new A5 (by decide)).pad (pad_rep [] (.int 0) 2)
  have g_b5 : n0 ≤ b5 := Nat.le_trans (Nat.le_trans Z0 E4.1) (Nat.le_of_eq g5.symm)
  have sz_b5 : h0.size ≤ b5 := (Nat.le_trans K4.1 (Nat.le_of_eq g5.symm))
  have K5 : Keep h0 h5 [] := K4.ext E5
  obtain ⟨cl_b5_71, Ar_b5, q_b5, S_b5, N_b5, H_b5, G_b5⟩ := V_b5
  have hin71 : ¬ ((0 : Int32) < 0 ∨ cl_b5_71.slots.size ≤ ((0 : Int32)).toNatClampNeg) := inb_of S_b5 ⟨by decide, by decide⟩
  obtain ⟨T6, h6, X6, e6, W6, st6⟩ := stC X5 hx hZ e5 Ar_b5 (j := (0 : Int32)) hin71 (g := (mkF m 71 #[s0, s1, s2, s3, s4, s5, .val (.int i6), .val (.int i7), s8, s9, s10, s11, s12, s13, s14, s15, s16, s17] [.int i6, .int 0, .ref b5, .ref b5, .ref b4, .ref b4])) rfl rfl (hb hby at_71)
  have V_b5_6 := Arv.set Ar_b5 q_b5 S_b5 N_b5 H_b5 G_b5 (fits_nar_char _) W6 0 rfl (Nat.le_of_ble_eq_true rfl)
  have K6 : Keep h0 h6 [] := K5.wr W6 (Or.inr sz_b5)
  have N6 := Fr.snoc X6 N0 g_b5
  obtain ⟨cl_b5_76, Ar_b5, q_b5, S_b5, N_b5, H_b5, G_b5⟩ := V_b5_6
  have hin76 : ¬ ((1 : Int32) < 0 ∨ cl_b5_76.slots.size ≤ ((1 : Int32)).toNatClampNeg) := inb_of S_b5 ⟨by decide, by decide⟩
  obtain ⟨T7, h7, X7, e7, W7, st7⟩ := stC X6 hx hZ e6 Ar_b5 (j := (1 : Int32)) hin76 (g := (mkF m 76 #[s0, s1, s2, s3, s4, s5, .val (.int i6), .val (.int i7), s8, s9, s10, s11, s12, s13, s14, s15, s16, s17] [.int i7, .int 1, .ref b5, .ref b5, .ref b4, .ref b4])) rfl rfl (hb hby at_76)
  have V_b5_7 := Arv.set Ar_b5 q_b5 S_b5 N_b5 H_b5 G_b5 (fits_nar_char _) W7 1 rfl (Nat.le_of_ble_eq_true rfl)
  have K7 : Keep h0 h7 [] := K6.wr W7 (Or.inr sz_b5)
  have N7 := Fr.snoc X7 N6 g_b5
  have Xo : Old Z n0 h7 := (((O.ext E4).ext E5).wr W6 g_b5).wr W7 g_b5
  have Zs : n0 ≤ h7.size := Nat.le_trans Z0 K7.1
  have EbS := ((E_b4.ext E5).wr W6).wr W7
  have FvS := ((F_value_b4.ext E5).other W6 (Or.inl (fun q => Nat.lt_irrefl _ (Nat.lt_of_lt_of_le (q ▸ E_b4.lt) (Nat.le_of_eq g5.symm))))).other W7 (Or.inl (fun q => Nat.lt_irrefl _ (Nat.lt_of_lt_of_le (q ▸ E_b4.lt) (Nat.le_of_eq g5.symm))))
  have FcS := ((F_coder_b4.ext E5).other W6 (Or.inl (fun q => Nat.lt_irrefl _ (Nat.lt_of_lt_of_le (q ▸ E_b4.lt) (Nat.le_of_eq g5.symm))))).other W7 (Or.inl (fun q => Nat.lt_irrefl _ (Nat.lt_of_lt_of_le (q ▸ E_b4.lt) (Nat.le_of_eq g5.symm))))
  have Vs : Arv Z h7 b5 k5 .char (2 : Int32) [.int (nar .char i6), .int (nar .char i7)] (.int 0) := V_b5_7
  have hws : ∀ d ∈ StrChars.Road.words, d.before a0 Z = true := fun d hd => hw d ((by decide +kernel : ∀ d ∈ StrChars.Road.words, d ∈ tables_1) d hd)
  have hp : ∀ c ∈ ([nar .char i6, nar .char i7] : List Int32), ¬ c < 0 ∧ ¬ (255 : Int32) < c := by
    intro c hc
    simp only [List.mem_cons, List.not_mem_nil, or_false] at hc
    rcases hc with rfl | rfl
    · exact ha
    · exact hb_
  obtain ⟨zc, SC, hz⟩ := CS.ext Xo.2
  obtain ⟨_, _, ⟨T8, L8, k8, n8⟩, -, X8, ⟨Lc8, hQ8, l8, y8, z8⟩, st8⟩ := X7.specialBack hx (y := (⟨"java/lang/String", "<init>", "([C)V"⟩ : MethodName)) rfl hown (zT hZ hw 4 rfl) (zT hZ hw 5 rfl) (zT hZ hw 6 rfl) (by decide) (StrChars.Road.backV (W := 1) hZ hws (kI := 4) (zW hw 1 rfl) (cs := ([nar .char i6, nar .char i7] : List Int32)) (bs := (([nar .char i6, nar .char i7] : List Int32)).map (fun c => c.toInt8.toInt32)) (n := 2) g_b4 Zs EbS FvS FcS Vs SC hz rfl rfl (by decide) (by decide) hp rfl (by decide) (by decide)) (g := (mkF m 77 #[s0, s1, s2, s3, s4, s5, .val (.int i6), .val (.int i7), s8, s9, s10, s11, s12, s13, s14, s15, s16, s17] [.ref b5, .ref b4, .ref b4])) rfl (by rw [hml]; rfl) (Steps.refl _) (a := b4) (argsL := [.ref b5]) (rest := [.ref b4]) (lenOf pd_0_0 rfl) rfl (Nat.le_of_eq rfl) (hb hby at_77) (fun _ _ => ⟨rfl, e7, (by show 3 + 2 + 1 ≤ 48; decide), (by show 8 + 6 + 2 ≤ 5120; decide)⟩)
  dsimp only [Pt.U, Pt.locs, Pt.cells, Pt.slots] at X8 l8 y8 z8 st8 hQ8
  subst l8 y8 z8
  obtain ⟨rfl, N8q, Kc, g8a, g8b, a8t, k8t, u8, v8, w8, g8c, g8d⟩ := hQ8
  have N8 := Fr.app N7 N8q
  refine ⟨T8, _, X8, N8, K7.trans Kc (allS (Or.inr sz_b4) all0), ?_, fun target kt => ?_⟩
  · subst g4; exact ⟨g8a, g8b, a8t, k8t, g8c, g8d⟩
  refine st4 _ ?_
  refine XS.dup X4.here hx rfl (hb hby at_63) rfl rfl ?_
  refine XS.iconst X4.here hx rfl (hb hby at_64) ?_
  refine st5 _ ?_
  refine XS.dup X5.here hx rfl (hb hby at_67) rfl rfl ?_
  refine XS.iconst X5.here hx rfl (hb hby at_68) ?_
  refine XS.iload X5.here hx rfl (hb hby at_69) rfl ?_
  refine st6 _ ?_
  refine XS.dup X6.here hx rfl (hb hby at_72) rfl rfl ?_
  refine XS.iconst X6.here hx rfl (hb hby at_73) ?_
  refine XS.iload X6.here hx rfl (hb hby at_74) rfl ?_
  refine st7 _ ?_
  refine st8.trans ?_
  refine XS.astore X8.here hx rfl (hb hby at_80) rfl rfl (l' := #[s0, s1, s2, s3, s4, s5, .val (.int i6), .val (.int i7), s8, .val (.ref b4), s10, s11, s12, s13, s14, s15, s16, s17]) (os0_80_own_s9 hs9) ?_
  subst g4
  exact kt
theorem os0_89_own_x {s0 : Slot} {s1 : Slot} {s2 : Slot} {s3 : Slot} {s4 : Slot} {s5 : Slot} {s6 : Slot} {s7 : Slot} {s8 : Slot} {s9 : Slot} {s10 : Slot} {s11 : Slot} {s12 : Slot} {s13 : Slot} {s14 : Slot} {s15 : Slot} {s16 : Slot} {s17 : Slot} {v : Addr} (h : One s10) : storeLocals #[s0, s1, s2, s3, s4, s5, s6, s7, s8, s9, s10, s11, s12, s13, s14, s15, s16, s17] 10 (.ref v) = some #[s0, s1, s2, s3, s4, s5, s6, s7, s8, s9, .val (.ref v), s11, s12, s13, s14, s15, s16, s17] := by
  rcases h with rfl | ⟨w, rfl, hw⟩
  · rfl
  · cases w <;> first | rfl | (simp [Value.category] at hw)
theorem own_x {p : Program} {l : Launch} {e : Env} {s : State} {m : MethodId} {args : Array Value} {below : List Frame} {meth : Method} {c : Code} {T0 : State} {locs : List Loc} {Z : State} {a0 : Array Value} {h0 : Heap} (s0 : Slot) (s1 : Slot) (s2 : Slot) (s3 : Slot) (s4 : Slot) (s5 : Slot) (s6 : Slot) (s7 : Slot) (s8 : Slot) (s9 : Slot) (s10 : Slot) (s11 : Slot) (s12 : Slot) (s13 : Slot) (s14 : Slot) (s15 : Slot) (s16 : Slot) (s17 : Slot) (n0 : Nat)
    (X0 : Stand p l e own_R0 s m args below meth c T0 locs 6 16) (hx : p.tables.exec = Jvm.exec) (hZ : Z.Warmed39 s.vm) (hw : zH Z a0) (hby : c.code = code) (hml : c.maxLocals = 18) (hown : s.vm.findClass "com/example/dealt/dealt/metrics/ExpositionCounterPinLaw" = some m.cls) (e0 : T0.heap = h0) (CS : own_CS Z Z.heap) (O : Old Z n0 h0) (Z0 : n0 ≤ h0.size) (N0 : Fr n0 locs) (hs10 : One s10) :
    ∃ (T' : State) (locs' : List Loc), Stand p l e own_R0 s m args below meth c T' locs' (6 + 1 + 2) (16 + 1 + 20) ∧ Fr n0 locs' ∧ Keep h0 T'.heap [] ∧ (∃ b t : Addr, Exa Z T'.heap h0.size "com/example/dealt/dealt/metrics/Exposition" ∧ Fld Z T'.heap h0.size "com/example/dealt/dealt/metrics/Exposition" "text" "Ljava/lang/StringBuilder;" (.ref b) ∧ own_SBv Z T'.heap b [] 16 t ∧ h0.size ≤ b ∧ h0.size ≤ t) ∧
      ∀ target, Steps p.tables e below (T'.setTop (mkF m 91 #[s0, s1, s2, s3, s4, s5, s6, s7, s8, s9, .val (.ref h0.size), s11, s12, s13, s14, s15, s16, s17] [])) target → Steps p.tables e below (T0.setTop (mkF m 82 #[s0, s1, s2, s3, s4, s5, s6, s7, s8, s9, s10, s11, s12, s13, s14, s15, s16, s17] [])) target := by
  obtain ⟨T4, h4, X4, e4, E4, A4, D4, -, st4⟩ := newO X0 hx hZ hown (zW hw 30 rfl) (zW hw 31 rfl) (zW hw 32 rfl) e0 (g := (mkF m 82 #[s0, s1, s2, s3, s4, s5, s6, s7, s8, s9, s10, s11, s12, s13, s14, s15, s16, s17] [])) rfl (hb hby at_82) (by decide) (by decide)
  obtain ⟨b4, g4⟩ : ∃ z, z = h0.size := ⟨_, rfl⟩
  rw [← g4] at A4 D4 st4
  have F_text_b4 : Fld Z h4 b4 "com/example/dealt/dealt/metrics/Exposition" "text" "Ljava/lang/StringBuilder;" .null := D4 (Or.inr (zW hw 56 rfl)) (ty := (.object "java/lang/StringBuilder")) (by decide)
  have E_b4 := A4
  have g_b4 : n0 ≤ b4 := Nat.le_trans Z0 (Nat.le_of_eq g4.symm)
  have sz_b4 : h0.size ≤ b4 := (Nat.le_trans (Keep.refl h0 []).1 (Nat.le_of_eq g4.symm))
  have K4 : Keep h0 h4 [] := (Keep.refl h0 []).ext E4
  obtain ⟨_, _, ⟨T5, L5, k5, n5⟩, -, X5, ⟨Lc5, hQ5, l5, y5, z5⟩, st5⟩ := X4.specialBack hx (y := y_40) rfl hown (zT hZ hw 33 rfl) (zT hZ hw 34 rfl) (zT hZ hw 35 rfl) (by decide) (backOf (W := 1) (r7 l Z a0 hw [] b4 _ h4 n0 (Nat.le_trans Z0 E4.1) E_b4 F_text_b4 g_b4 CS (O.ext E4)) hZ (zW hw 35 rfl) (zW hw 32 rfl) (by decide) (by decide)) (g := (mkF m 86 #[s0, s1, s2, s3, s4, s5, s6, s7, s8, s9, s10, s11, s12, s13, s14, s15, s16, s17] [.ref b4, .ref b4])) rfl (by rw [hml]; rfl) (Steps.refl _) (a := b4) (argsL := []) (rest := [.ref b4]) (lenOf pd_7_2 rfl) rfl (Nat.le_of_eq rfl) (hb hby at_86) (fun _ _ => ⟨rfl, e4, (by show 6 + 1 + 2 ≤ 48; decide), (by show 16 + 1 + 20 ≤ 5120; decide)⟩)
  dsimp only [Pt.U, Pt.locs, Pt.cells, Pt.slots] at X5 l5 y5 z5 st5 hQ5
  subst l5 y5 z5
  obtain ⟨rfl, N5q, K5, b5, t5, Q5⟩ := hQ5
  have N5 := Fr.app N0 N5q
  refine ⟨T5, _, X5, N5, K4.trans K5 (allS (Or.inr sz_b4) all0), ⟨b5, t5, by rw [← g4]; exact Q5.1, by rw [← g4]; exact Q5.2.1, Q5.2.2.1, Nat.le_trans E4.1 Q5.2.2.2.1, Nat.le_trans E4.1 Q5.2.2.2.2⟩, fun target kt => ?_⟩
  refine st4 _ ?_
  refine XS.dup X4.here hx rfl (hb hby at_85) rfl rfl ?_
  refine st5.trans ?_
  refine XS.astore X5.here hx rfl (hb hby at_89) rfl rfl (l' := #[s0, s1, s2, s3, s4, s5, s6, s7, s8, s9, .val (.ref b4), s11, s12, s13, s14, s15, s16, s17]) (os0_89_own_x hs10) ?_
  subst g4
  exact kt
theorem own_pdT : parseMethodDescriptor "()Ljava/lang/String;" = some ⟨[], some (.object "java/lang/String")⟩ := by decide +kernel
theorem own_blk_len (nm hp : List Int32) (x : Int64) (nn : Nat) (h1 : nm.length = 2) (h2 : hp.length = 2) : (own_blk nm hp x nn).length = 35 + (own_num x nn).length := by
  simp only [own_blk, List.length_append, h1, h2, List.length_cons, List.length_nil]; omega
theorem own_NEof {Z : State} {h : Heap} {o t : Addr} {xs : List Int32} (S : own_Str Z h o xs) (ht : ∀ a k vs, Arv Z h a k .byte (Int32.ofNat xs.length) vs (.int 0) → a ≠ t) : own_NE Z h o t := fun x F => by
  obtain ⟨-, -, tv, k, FV, V⟩ := S
  cases own_Fu F FV
  exact ht _ _ _ V
theorem own_st11 {s0 s1 s4 s5 s6 s7 s8 s9 s10 s11 s12 s13 s14 s15 s16 s17 s2 s3 : Slot} {v : Addr} (h : One s11) : storeLocals #[s0, s1, s2, s3, s4, s5, s6, s7, s8, s9, s10, s11, s12, s13, s14, s15, s16, s17] 11 (.ref v) = some #[s0, s1, s2, s3, s4, s5, s6, s7, s8, s9, s10, .val (.ref v), s12, s13, s14, s15, s16, s17] := by
  rcases h with rfl | ⟨w, rfl, hw⟩
  · rfl
  · cases w <;> first | rfl | (simp [Value.category] at hw)
theorem own_mid {p : Program} {l : Launch} {e : Env} {s : State} {m : MethodId} {args : Array Value} {below : List Frame} {meth : Method} {c : Code} {T0 : State} {locs : List Loc} {Z : State} {a0 : Array Value} {h0 : Heap} (s0 : Slot) (s1 : Slot) (s4 : Slot) (s5 : Slot) (s6 : Slot) (s7 : Slot) (s11 : Slot) (s12 : Slot) (s13 : Slot) (s14 : Slot) (s15 : Slot) (s16 : Slot) (s17 : Slot) (q4 : Int64) (a8 a9 x b t0 : Addr) (nm hp : List Int32) (nn n0 : Nat)
    (X0 : Stand p l e own_R0 s m args below meth c T0 locs 9 37) (hx : p.tables.exec = Jvm.exec) (hZ : Z.Warmed39 s.vm) (hw : zH Z a0) (hwS : ∀ d ∈ Bundle.stringAtoms, d.before a0 Z = true) (hC : CHv Z own_EL s.vm h0) (hby : c.code = code) (hml : c.maxLocals = 18) (hown : s.vm.findClass "com/example/dealt/dealt/metrics/ExpositionCounterPinLaw" = some m.cls) (e0 : T0.heap = h0) (Z0 : n0 ≤ h0.size) (N0 : Fr n0 locs) (hs11 : One s11) (CS : own_CS Z Z.heap) (O : Old Z n0 h0) (Ex0 : Exa Z h0 x "com/example/dealt/dealt/metrics/Exposition") (FT0 : Fld Z h0 x "com/example/dealt/dealt/metrics/Exposition" "text" "Ljava/lang/StringBuilder;" (.ref b)) (SB : own_SBv Z h0 b [] 16 t0) (g_b : n0 ≤ b) (g_t0 : n0 ≤ t0) (Snm0 : own_Sn Z h0 a8 nm t0) (h_nm : nm.length = 2) (Shp0 : own_Sn Z h0 a9 hp t0) (h_hp : hp.length = 2) (hn : nn ≤ 2 ^ 63) (hnx : (if q4 < 0 then q4 else -q4) = Jvm.Free.SBG.negL nn) (DG : own_DG Z) :
    ∃ (T' : State) (vm' : Vm) (locs' : List Loc) (k : Nat) (tt : Addr), Stand p l e own_R0 (s.setVm vm') m args below meth c T' locs' (9 + 10 + 16 + 2) (37 + 384 + 1236 + 146) ∧ s.Since vm' k ∧ k ≤ T'.heap.size ∧ Z.Warmed39 (s.setVm vm').vm ∧ (s.setVm vm').vm.findClass "com/example/dealt/dealt/metrics/ExpositionCounterPinLaw" = some m.cls ∧ Fr n0 locs' ∧ n0 ≤ T'.heap.size ∧ Old Z n0 T'.heap ∧ own_Str Z T'.heap tt ((own_blk nm hp q4 nn) ++ (own_blk nm hp q4 nn)) ∧ ∀ target, Steps p.tables e below (T'.setTop (mkF m 118 #[s0, s1, .val (.long q4), .second, s4, s5, s6, s7, .val (.ref a8), .val (.ref a9), .val (.ref x), .val (.ref tt), s12, s13, s14, s15, s16, s17] [])) target → Steps p.tables e below (T0.setTop (mkF m 91 #[s0, s1, .val (.long q4), .second, s4, s5, s6, s7, .val (.ref a8), .val (.ref a9), .val (.ref x), s11, s12, s13, s14, s15, s16, s17] [])) target := by
  have hEL := own_EW hw
  have hnl := own_num_le q4 nn
  have J0 := own_J.start SB g_t0 O Z0
  have C0 := CHr.refl hC
  have ha1 : x ∉ [b, t0] := by
    obtain ⟨EB, -, -, -, kd_, vd_, B_, -⟩ := id SB
    exact ninS (Exa.ne Ex0 EB (by decide)) (ninS (Exa.neArv Ex0 B_ (zW hw 31 rfl)) nin0)
  obtain ⟨cq1, kq1, q1a, q1b, q1c⟩ := isOf hZ e0 Ex0
  obtain ⟨_, _, ⟨T1, L1, k1, n1⟩, -, X1, S1', hz1, ⟨Lc1, hQ1, l1, y1, z1, C1'⟩, st1⟩ := X0.virtualBackS (s := s) hx (y := y_13) (z := y_13) hown (zT hZ hw 57 rfl) (zT hZ hw 58 rfl) (notFace_of_selects (args := #[]) (zT hZ hw 60 rfl)) (zT hZ hw 60 rfl) (zT hZ hw 59 rfl) (by decide) (backOfSH (s := s) (vm0 := s.vm) (W := 0) (r10_1 l Z a0 hw hwS [] x a8 a9 q4 b t0 [] nm hp 16 nn h0 n0 J0.2.2.2.2.2 Ex0 FT0 J0.1 g_b J0.2.1 CS J0.2.2.2.2.1 Snm0 h_nm Shp0 h_hp hn hnx DG rfl rfl) hZ (zW hw 61 rfl) (zW hw 32 rfl) (by decide) (by decide) hEL C0.1) q1a q1c (g := (mkF m 98 #[s0, s1, .val (.long q4), .second, s4, s5, s6, s7, .val (.ref a8), .val (.ref a9), .val (.ref x), s11, s12, s13, s14, s15, s16, s17] [(.long q4), .ref a9, .ref a8, .ref x])) rfl (by rw [hml]; rfl) (Steps.refl _) (argsL := [.ref a8, .ref a9, (.long q4)]) (rest := []) (lenOf own_pdM rfl) rfl (Nat.le_of_eq rfl) (hb hby at_98) (fun _ _ => ⟨rfl, e0, (by show 9 + 10 ≤ 48; decide), (by show 37 + 384 ≤ 5120; decide)⟩)
  dsimp only [Pt.U, Pt.locs, Pt.cells, Pt.slots] at X1 S1' hz1 C1' l1 y1 z1 st1 hQ1
  subst l1 y1 z1
  obtain ⟨rfl, Nq1, K1, c1, t1, hcc1, SB1, ht1, g1⟩ := hQ1
  have N1 := Fr.app N0 Nq1
  have J1 := J0.sub g_b K1 SB1 ht1
  have hZ1 : Z.Warmed39 (s.setVm T1.vm).vm := State.Warmed39.trans hZ S1'.1
  have hown1 : (s.setVm T1.vm).vm.findClass "com/example/dealt/dealt/metrics/ExpositionCounterPinLaw" = some m.cls := by show (T1.vm).findClass _ = _; rw [S1'.1.alike.findClass]; exact hown
  have CC1 := C0.trans C1'
  have Snm1 := own_Sn.op hw Snm0 K1 J0.1 ht1
  have Shp1 := own_Sn.op hw Shp0 K1 J0.1 ht1
  have Ex1 := Ex0.keep J1.2.2.1
  have FT1 := FT0.keep J1.2.2.1 ha1
  have hlB := own_blk_len nm hp q4 nn h_nm h_hp
  obtain ⟨cq2, kq2, q2a, q2b, q2c⟩ := isOf hZ1 rfl Ex1
  obtain ⟨_, _, ⟨T2, L2, k2, n2⟩, -, X2, S2', hz2, ⟨Lc2, hQ2, l2, y2, z2, C2'⟩, st2⟩ := X1.virtualBackS (s := s.setVm T1.vm) hx (y := y_13) (z := y_13) hown1 (zT hZ1 hw 57 rfl) (zT hZ1 hw 58 rfl) (notFace_of_selects (args := #[]) (zT hZ1 hw 60 rfl)) (zT hZ1 hw 60 rfl) (zT hZ1 hw 59 rfl) (by decide) (backOfSH (s := s) (vm0 := T1.vm) (W := 0) (r10_2 l Z a0 hw hwS [] x a8 a9 q4 b t1 ([] ++ (own_blk nm hp q4 nn)) nm hp c1 nn T1.heap n0 J1.2.2.2.2.2 Ex1 FT1 J1.1 g_b J1.2.1 CS J1.2.2.2.2.1 Snm1 h_nm Shp1 h_hp hn hnx DG hcc1 (by rw [List.nil_append]; exact hlB)) hZ1 (zW hw 61 rfl) (zW hw 32 rfl) (by decide) (by decide) hEL CC1.1) q2a q2c (g := (mkF m 108 #[s0, s1, .val (.long q4), .second, s4, s5, s6, s7, .val (.ref a8), .val (.ref a9), .val (.ref x), s11, s12, s13, s14, s15, s16, s17] [(.long q4), .ref a9, .ref a8, .ref x])) rfl (by rw [hml]; rfl) (Steps.refl _) (argsL := [.ref a8, .ref a9, (.long q4)]) (rest := []) (lenOf own_pdM rfl) rfl (Nat.le_of_eq rfl) (hb hby at_108) (fun _ _ => ⟨rfl, rfl, (by show 19 + 16 ≤ 48; decide), (by show 421 + 1236 ≤ 5120; decide)⟩)
  dsimp only [Pt.U, Pt.locs, Pt.cells, Pt.slots] at X2 S2' hz2 C2' l2 y2 z2 st2 hQ2
  subst l2 y2 z2
  obtain ⟨rfl, Nq2, K2, c2, t2, hcc2, SB2, ht2, g2⟩ := hQ2
  have N2 := Fr.app N1 Nq2
  have J2 := J1.sub g_b K2 SB2 ht2
  have hZ2 : Z.Warmed39 (s.setVm T2.vm).vm := State.Warmed39.trans hZ1 S2'.1
  have hown2 : (s.setVm T2.vm).vm.findClass "com/example/dealt/dealt/metrics/ExpositionCounterPinLaw" = some m.cls := by show (T2.vm).findClass _ = _; rw [S2'.1.alike.findClass]; exact hown1
  have CC2 := CC1.trans C2'
  have Snm2 := own_Sn.op hw Snm1 K2 J1.1 ht2
  have Shp2 := own_Sn.op hw Shp1 K2 J1.1 ht2
  have Ex2 := Ex0.keep J2.2.2.1
  have FT2 := FT0.keep J2.2.2.1 ha1
  have hcc2 : c2 = 142 := hcc2
  obtain ⟨cq3, kq3, q3a, q3b, q3c⟩ := isOf hZ2 rfl Ex2
  have hlT : (([] ++ (own_blk nm hp q4 nn)) ++ (own_blk nm hp q4 nn)).length < c2 := by rw [List.nil_append, List.length_append, hlB]; omega
  obtain ⟨_, _, ⟨T3, L3, k3, n3⟩, -, X3, ⟨Lc3, hQ3, l3, y3, z3⟩, st3⟩ := X2.virtualBack hx (y := y_27) hown2 (zT hZ2 hw 184 rfl) (zT hZ2 hw 185 rfl) (notFace_of_selects (args := #[]) (zT hZ2 hw 187 rfl)) (zT hZ2 hw 187 rfl) (zT hZ2 hw 186 rfl) (by decide) (backOf (W := 0) (r34 l Z a0 hw [] x b t2 (([] ++ (own_blk nm hp q4 nn)) ++ (own_blk nm hp q4 nn)) c2 T2.heap n0 J2.2.2.2.2.2 FT2 J2.1 (CS.ext J2.2.2.2.2.1.2) hlT (by omega)) hZ2 (zW hw 188 rfl) (zW hw 32 rfl) (by decide) (by decide)) q3a q3c (g := (mkF m 113 #[s0, s1, .val (.long q4), .second, s4, s5, s6, s7, .val (.ref a8), .val (.ref a9), .val (.ref x), s11, s12, s13, s14, s15, s16, s17] [.ref x])) rfl (by rw [hml]; rfl) (Steps.refl _) (argsL := []) (rest := []) (lenOf own_pdT rfl) rfl (Nat.le_of_eq rfl) (hb hby at_113) (fun _ _ => ⟨rfl, rfl, (by show 35 + 2 ≤ 48; decide), (by show 1657 + 146 ≤ 5120; decide)⟩)
  dsimp only [Pt.U, Pt.locs, Pt.cells, Pt.slots] at X3 l3 y3 z3 st3 hQ3
  subst l3 y3 z3
  obtain ⟨rfl, Nq3, K3, S3⟩ := hQ3
  rw [List.nil_append] at S3
  have N3 := Fr.app N2 Nq3
  refine ⟨T3, T2.vm, _, T2.heap.size, T2.heap.size, X3, S1'.trans S2' K2.1, K3.1, hZ2, hown2, N3, Nat.le_trans J2.2.2.2.2.2 K3.1, J2.2.2.2.2.1.keep K3 all0, S3, fun target kt => ?_⟩
  refine XS.aload X0.here hx rfl (hb hby at_91) rfl rfl ?_
  refine XS.aload X0.here hx rfl (hb hby at_93) rfl rfl ?_
  refine XS.aload X0.here hx rfl (hb hby at_95) rfl rfl ?_
  refine XS.lloadN X0.here hx rfl (hb hby at_97) rfl ?_
  refine st1.trans ?_
  refine XS.aload X1.here hx rfl (hb hby at_101) rfl rfl ?_
  refine XS.aload X1.here hx rfl (hb hby at_103) rfl rfl ?_
  refine XS.aload X1.here hx rfl (hb hby at_105) rfl rfl ?_
  refine XS.lloadN X1.here hx rfl (hb hby at_107) rfl ?_
  refine st2.trans ?_
  refine XS.aload X2.here hx rfl (hb hby at_111) rfl rfl ?_
  refine st3.trans ?_
  refine XS.astore X3.here hx rfl (hb hby at_116) rfl rfl (l' := #[s0, s1, .val (.long q4), .second, s4, s5, s6, s7, .val (.ref a8), .val (.ref a9), .val (.ref x), .val (.ref T2.heap.size), s12, s13, s14, s15, s16, s17]) (own_st11 hs11) ?_
  exact kt
def own_e0 (i4 i5 i6 i7 : Int32) : List Int32 := ([35, 32, 72, 69, 76, 80, 32, i4, i5, 32, i6, i7, 10, 35, 32, 84, 89, 80, 69, 32, i4, i5, 32, 99, 111, 117, 110, 116, 101, 114, 10, i4, i5, 32, 0, 0, 0, 0, 0, 0, 0, 0, 0, 0, 0, 0, 0, 0, 0, 0, 0, 0, 0, 0, 0] : List Int32).map (nar .char)
def own_p : List Int64 := [1, 10, 100, 1000, 10000, 100000, 1000000, 10000000, 100000000, 1000000000, 10000000000, 100000000000, 1000000000000, 10000000000000, 100000000000000, 1000000000000000, 10000000000000000, 100000000000000000, 1000000000000000000]
theorem os0_425_own_e {s0 : Slot} {s1 : Slot} {s2 : Slot} {s3 : Slot} {z4 : Value} {z5 : Value} {z6 : Value} {z7 : Value} {s8 : Slot} {s9 : Slot} {s10 : Slot} {s11 : Slot} {s12 : Slot} {s13 : Slot} {s14 : Slot} {s15 : Slot} {s16 : Slot} {s17 : Slot} {v : Addr} (h : One s12) : storeLocals #[s0, s1, s2, s3, .val z4, .val z5, .val z6, .val z7, s8, s9, s10, s11, s12, s13, s14, s15, s16, s17] 12 (.ref v) = some #[s0, s1, s2, s3, .val z4, .val z5, .val z6, .val z7, s8, s9, s10, s11, .val (.ref v), s13, s14, s15, s16, s17] := by
  rcases h with rfl | ⟨w, rfl, hw⟩
  · rfl
  · cases w <;> first | rfl | (simp [Value.category] at hw)
theorem own_e {p : Program} {l : Launch} {e : Env} {s : State} {m : MethodId} {args : Array Value} {below : List Frame} {meth : Method} {c : Code} {T0 : State} {locs : List Loc} {Z : State} {a0 : Array Value} {h0 : Heap} (s0 : Slot) (s1 : Slot) (s2 : Slot) (s3 : Slot) (i4 : Int32) (i5 : Int32) (i6 : Int32) (i7 : Int32) (s8 : Slot) (s9 : Slot) (s10 : Slot) (s11 : Slot) (s12 : Slot) (s13 : Slot) (s14 : Slot) (s15 : Slot) (s16 : Slot) (s17 : Slot) (n0 : Nat)
    (X0 : Stand p l e own_R0 s m args below meth c T0 locs 37 1803) (hx : p.tables.exec = Jvm.exec) (hZ : Z.Warmed39 s.vm) (hw : zH Z a0) (hby : c.code = code) (hml : c.maxLocals = 18) (hown : s.vm.findClass "com/example/dealt/dealt/metrics/ExpositionCounterPinLaw" = some m.cls) (e0 : T0.heap = h0) (Z0 : n0 ≤ h0.size) (N0 : Fr n0 locs) (hs12 : One s12) :
    ∃ (T' : State) (locs' : List Loc) (k : ClassId), Stand p l e own_R0 s m args below meth c T' locs' (37 + 1) (1803 + 55) ∧ Fr n0 locs' ∧ Keep h0 T'.heap [] ∧ Arv Z T'.heap h0.size k .char (55 : Int32) ((own_e0 i4 i5 i6 i7).map Value.int) (.int 0) ∧
      ∀ target, Steps p.tables e below (T'.setTop (mkF m 427 #[s0, s1, s2, s3, .val (.int i4), .val (.int i5), .val (.int i6), .val (.int i7), s8, s9, s10, s11, .val (.ref h0.size), s13, s14, s15, s16, s17] [])) target → Steps p.tables e below (T0.setTop (mkF m 118 #[s0, s1, s2, s3, .val (.int i4), .val (.int i5), .val (.int i6), .val (.int i7), s8, s9, s10, s11, s12, s13, s14, s15, s16, s17] [])) target := by
  obtain ⟨T4, h4, k4, X4, e4, E4, A4, st4⟩ := newP X0 hx hZ (zW hw 3 rfl) e0 (g := (mkF m 120 #[s0, s1, s2, s3, .val (.int i4), .val (.int i5), .val (.int i6), .val (.int i7), s8, s9, s10, s11, s12, s13, s14, s15, s16, s17] [.int 55])) rfl (hb hby at_120) rfl (by decide) (cap := 55) (by decide) (by decide) (by decide) (by decide)
  obtain ⟨b4, g4⟩ : ∃ z, z = h0.size := ⟨_, rfl⟩
  rw [← g4] at A4 st4
  have V_b4 : Arv Z h4 b4 k4 .char (55 : Int32) [.int 0, .int 0, .int 0, .int 0, .int 0, .int 0, .int 0, .int 0, .int 0, .int 0, .int 0, .int 0, .int 0, .int 0, .int 0, .int 0, .int 0, .int 0, .int 0, .int 0, .int 0, .int 0, .int 0, .int 0, .int 0, .int 0, .int 0, .int 0, .int 0, .int 0, .int 0, .int 0, .int 0, .int 0, .int 0, .int 0, .int 0, .int 0, .int 0, .int 0, .int 0, .int 0, .int 0, .int 0, .int 0, .int 0, .int 0, .int 0, .int 0, .int 0, .int 0, .int 0, .int 0, .int 0, .int 0] (.int 0) := (Arv.new A4 (by decide)).pad (pad_rep [] (.int 0) 55)
  have g_b4 : n0 ≤ b4 := Nat.le_trans Z0 (Nat.le_of_eq g4.symm)
  have sz_b4 : h0.size ≤ b4 := (Nat.le_trans (Keep.refl h0 []).1 (Nat.le_of_eq g4.symm))
  have K4 : Keep h0 h4 [] := (Keep.refl h0 []).ext E4
  obtain ⟨cl_b4_126, Ar_b4, q_b4, S_b4, N_b4, H_b4, G_b4⟩ := V_b4
  have hin126 : ¬ ((0 : Int32) < 0 ∨ cl_b4_126.slots.size ≤ ((0 : Int32)).toNatClampNeg) := inb_of S_b4 ⟨by decide, by decide⟩
  obtain ⟨T5, h5, X5, e5, W5, st5⟩ := stC X4 hx hZ e4 Ar_b4 (j := (0 : Int32)) hin126 (g := (mkF m 126 #[s0, s1, s2, s3, .val (.int i4), .val (.int i5), .val (.int i6), .val (.int i7), s8, s9, s10, s11, s12, s13, s14, s15, s16, s17] [.int 35, .int 0, .ref b4, .ref b4])) rfl rfl (hb hby at_126)
  have V_b4_5 : Arv Z h5 b4 k4 .char (55 : Int32) [.int (nar .char 35), .int 0, .int 0, .int 0, .int 0, .int 0, .int 0, .int 0, .int 0, .int 0, .int 0, .int 0, .int 0, .int 0, .int 0, .int 0, .int 0, .int 0, .int 0, .int 0, .int 0, .int 0, .int 0, .int 0, .int 0, .int 0, .int 0, .int 0, .int 0, .int 0, .int 0, .int 0, .int 0, .int 0, .int 0, .int 0, .int 0, .int 0, .int 0, .int 0, .int 0, .int 0, .int 0, .int 0, .int 0, .int 0, .int 0, .int 0, .int 0, .int 0, .int 0, .int 0, .int 0, .int 0, .int 0] (.int 0) := Arv.set Ar_b4 q_b4 S_b4 N_b4 H_b4 G_b4 (fits_nar_char _) W5 0 rfl (Nat.le_of_ble_eq_true rfl)
  have K5 : Keep h0 h5 [] := K4.wr W5 (Or.inr sz_b4)
  have N5 := Fr.snoc X5 N0 g_b4
  obtain ⟨cl_b4_131, Ar_b4, q_b4, S_b4, N_b4, H_b4, G_b4⟩ := V_b4_5
  have hin131 : ¬ ((1 : Int32) < 0 ∨ cl_b4_131.slots.size ≤ ((1 : Int32)).toNatClampNeg) := inb_of S_b4 ⟨by decide, by decide⟩
  obtain ⟨T6, h6, X6, e6, W6, st6⟩ := stC X5 hx hZ e5 Ar_b4 (j := (1 : Int32)) hin131 (g := (mkF m 131 #[s0, s1, s2, s3, .val (.int i4), .val (.int i5), .val (.int i6), .val (.int i7), s8, s9, s10, s11, s12, s13, s14, s15, s16, s17] [.int 32, .int 1, .ref b4, .ref b4])) rfl rfl (hb hby at_131)
  have V_b4_6 : Arv Z h6 b4 k4 .char (55 : Int32) [.int (nar .char 35), .int (nar .char 32), .int 0, .int 0, .int 0, .int 0, .int 0, .int 0, .int 0, .int 0, .int 0, .int 0, .int 0, .int 0, .int 0, .int 0, .int 0, .int 0, .int 0, .int 0, .int 0, .int 0, .int 0, .int 0, .int 0, .int 0, .int 0, .int 0, .int 0, .int 0, .int 0, .int 0, .int 0, .int 0, .int 0, .int 0, .int 0, .int 0, .int 0, .int 0, .int 0, .int 0, .int 0, .int 0, .int 0, .int 0, .int 0, .int 0, .int 0, .int 0, .int 0, .int 0, .int 0, .int 0, .int 0] (.int 0) := Arv.set Ar_b4 q_b4 S_b4 N_b4 H_b4 G_b4 (fits_nar_char _) W6 1 rfl (Nat.le_of_ble_eq_true rfl)
  have K6 : Keep h0 h6 [] := K5.wr W6 (Or.inr sz_b4)
  have N6 := Fr.snoc X6 N5 g_b4
  obtain ⟨cl_b4_136, Ar_b4, q_b4, S_b4, N_b4, H_b4, G_b4⟩ := V_b4_6
  have hin136 : ¬ ((2 : Int32) < 0 ∨ cl_b4_136.slots.size ≤ ((2 : Int32)).toNatClampNeg) := inb_of S_b4 ⟨by decide, by decide⟩
  obtain ⟨T7, h7, X7, e7, W7, st7⟩ := stC X6 hx hZ e6 Ar_b4 (j := (2 : Int32)) hin136 (g := (mkF m 136 #[s0, s1, s2, s3, .val (.int i4), .val (.int i5), .val (.int i6), .val (.int i7), s8, s9, s10, s11, s12, s13, s14, s15, s16, s17] [.int 72, .int 2, .ref b4, .ref b4])) rfl rfl (hb hby at_136)
  have V_b4_7 : Arv Z h7 b4 k4 .char (55 : Int32) [.int (nar .char 35), .int (nar .char 32), .int (nar .char 72), .int 0, .int 0, .int 0, .int 0, .int 0, .int 0, .int 0, .int 0, .int 0, .int 0, .int 0, .int 0, .int 0, .int 0, .int 0, .int 0, .int 0, .int 0, .int 0, .int 0, .int 0, .int 0, .int 0, .int 0, .int 0, .int 0, .int 0, .int 0, .int 0, .int 0, .int 0, .int 0, .int 0, .int 0, .int 0, .int 0, .int 0, .int 0, .int 0, .int 0, .int 0, .int 0, .int 0, .int 0, .int 0, .int 0, .int 0, .int 0, .int 0, .int 0, .int 0, .int 0] (.int 0) := Arv.set Ar_b4 q_b4 S_b4 N_b4 H_b4 G_b4 (fits_nar_char _) W7 2 rfl (Nat.le_of_ble_eq_true rfl)
  have K7 : Keep h0 h7 [] := K6.wr W7 (Or.inr sz_b4)
  have N7 := Fr.snoc X7 N6 g_b4
  obtain ⟨cl_b4_141, Ar_b4, q_b4, S_b4, N_b4, H_b4, G_b4⟩ := V_b4_7
  have hin141 : ¬ ((3 : Int32) < 0 ∨ cl_b4_141.slots.size ≤ ((3 : Int32)).toNatClampNeg) := inb_of S_b4 ⟨by decide, by decide⟩
  obtain ⟨T8, h8, X8, e8, W8, st8⟩ := stC X7 hx hZ e7 Ar_b4 (j := (3 : Int32)) hin141 (g := (mkF m 141 #[s0, s1, s2, s3, .val (.int i4), .val (.int i5), .val (.int i6), .val (.int i7), s8, s9, s10, s11, s12, s13, s14, s15, s16, s17] [.int 69, .int 3, .ref b4, .ref b4])) rfl rfl (hb hby at_141)
  have V_b4_8 : Arv Z h8 b4 k4 .char (55 : Int32) [.int (nar .char 35), .int (nar .char 32), .int (nar .char 72), .int (nar .char 69), .int 0, .int 0, .int 0, .int 0, .int 0, .int 0, .int 0, .int 0, .int 0, .int 0, .int 0, .int 0, .int 0, .int 0, .int 0, .int 0, .int 0, .int 0, .int 0, .int 0, .int 0, .int 0, .int 0, .int 0, .int 0, .int 0, .int 0, .int 0, .int 0, .int 0, .int 0, .int 0, .int 0, .int 0, .int 0, .int 0, .int 0, .int 0, .int 0, .int 0, .int 0, .int 0, .int 0, .int 0, .int 0, .int 0, .int 0, .int 0, .int 0, .int 0, .int 0] (.int 0) := Arv.set Ar_b4 q_b4 S_b4 N_b4 H_b4 G_b4 (fits_nar_char _) W8 3 rfl (Nat.le_of_ble_eq_true rfl)
  have K8 : Keep h0 h8 [] := K7.wr W8 (Or.inr sz_b4)
  have N8 := Fr.snoc X8 N7 g_b4
  obtain ⟨cl_b4_146, Ar_b4, q_b4, S_b4, N_b4, H_b4, G_b4⟩ := V_b4_8
  have hin146 : ¬ ((4 : Int32) < 0 ∨ cl_b4_146.slots.size ≤ ((4 : Int32)).toNatClampNeg) := inb_of S_b4 ⟨by decide, by decide⟩
  obtain ⟨T9, h9, X9, e9, W9, st9⟩ := stC X8 hx hZ e8 Ar_b4 (j := (4 : Int32)) hin146 (g := (mkF m 146 #[s0, s1, s2, s3, .val (.int i4), .val (.int i5), .val (.int i6), .val (.int i7), s8, s9, s10, s11, s12, s13, s14, s15, s16, s17] [.int 76, .int 4, .ref b4, .ref b4])) rfl rfl (hb hby at_146)
  have V_b4_9 : Arv Z h9 b4 k4 .char (55 : Int32) [.int (nar .char 35), .int (nar .char 32), .int (nar .char 72), .int (nar .char 69), .int (nar .char 76), .int 0, .int 0, .int 0, .int 0, .int 0, .int 0, .int 0, .int 0, .int 0, .int 0, .int 0, .int 0, .int 0, .int 0, .int 0, .int 0, .int 0, .int 0, .int 0, .int 0, .int 0, .int 0, .int 0, .int 0, .int 0, .int 0, .int 0, .int 0, .int 0, .int 0, .int 0, .int 0, .int 0, .int 0, .int 0, .int 0, .int 0, .int 0, .int 0, .int 0, .int 0, .int 0, .int 0, .int 0, .int 0, .int 0, .int 0, .int 0, .int 0, .int 0] (.int 0) := Arv.set Ar_b4 q_b4 S_b4 N_b4 H_b4 G_b4 (fits_nar_char _) W9 4 rfl (Nat.le_of_ble_eq_true rfl)
  have K9 : Keep h0 h9 [] := K8.wr W9 (Or.inr sz_b4)
  have N9 := Fr.snoc X9 N8 g_b4
  obtain ⟨cl_b4_151, Ar_b4, q_b4, S_b4, N_b4, H_b4, G_b4⟩ := V_b4_9
  have hin151 : ¬ ((5 : Int32) < 0 ∨ cl_b4_151.slots.size ≤ ((5 : Int32)).toNatClampNeg) := inb_of S_b4 ⟨by decide, by decide⟩
  obtain ⟨T10, h10, X10, e10, W10, st10⟩ := stC X9 hx hZ e9 Ar_b4 (j := (5 : Int32)) hin151 (g := (mkF m 151 #[s0, s1, s2, s3, .val (.int i4), .val (.int i5), .val (.int i6), .val (.int i7), s8, s9, s10, s11, s12, s13, s14, s15, s16, s17] [.int 80, .int 5, .ref b4, .ref b4])) rfl rfl (hb hby at_151)
  have V_b4_10 : Arv Z h10 b4 k4 .char (55 : Int32) [.int (nar .char 35), .int (nar .char 32), .int (nar .char 72), .int (nar .char 69), .int (nar .char 76), .int (nar .char 80), .int 0, .int 0, .int 0, .int 0, .int 0, .int 0, .int 0, .int 0, .int 0, .int 0, .int 0, .int 0, .int 0, .int 0, .int 0, .int 0, .int 0, .int 0, .int 0, .int 0, .int 0, .int 0, .int 0, .int 0, .int 0, .int 0, .int 0, .int 0, .int 0, .int 0, .int 0, .int 0, .int 0, .int 0, .int 0, .int 0, .int 0, .int 0, .int 0, .int 0, .int 0, .int 0, .int 0, .int 0, .int 0, .int 0, .int 0, .int 0, .int 0] (.int 0) := Arv.set Ar_b4 q_b4 S_b4 N_b4 H_b4 G_b4 (fits_nar_char _) W10 5 rfl (Nat.le_of_ble_eq_true rfl)
  have K10 : Keep h0 h10 [] := K9.wr W10 (Or.inr sz_b4)
  have N10 := Fr.snoc X10 N9 g_b4
  obtain ⟨cl_b4_157, Ar_b4, q_b4, S_b4, N_b4, H_b4, G_b4⟩ := V_b4_10
  have hin157 : ¬ ((6 : Int32) < 0 ∨ cl_b4_157.slots.size ≤ ((6 : Int32)).toNatClampNeg) := inb_of S_b4 ⟨by decide, by decide⟩
  obtain ⟨T11, h11, X11, e11, W11, st11⟩ := stC X10 hx hZ e10 Ar_b4 (j := (6 : Int32)) hin157 (g := (mkF m 157 #[s0, s1, s2, s3, .val (.int i4), .val (.int i5), .val (.int i6), .val (.int i7), s8, s9, s10, s11, s12, s13, s14, s15, s16, s17] [.int 32, .int 6, .ref b4, .ref b4])) rfl rfl (hb hby at_157)
  have V_b4_11 : Arv Z h11 b4 k4 .char (55 : Int32) [.int (nar .char 35), .int (nar .char 32), .int (nar .char 72), .int (nar .char 69), .int (nar .char 76), .int (nar .char 80), .int (nar .char 32), .int 0, .int 0, .int 0, .int 0, .int 0, .int 0, .int 0, .int 0, .int 0, .int 0, .int 0, .int 0, .int 0, .int 0, .int 0, .int 0, .int 0, .int 0, .int 0, .int 0, .int 0, .int 0, .int 0, .int 0, .int 0, .int 0, .int 0, .int 0, .int 0, .int 0, .int 0, .int 0, .int 0, .int 0, .int 0, .int 0, .int 0, .int 0, .int 0, .int 0, .int 0, .int 0, .int 0, .int 0, .int 0, .int 0, .int 0, .int 0] (.int 0) := Arv.set Ar_b4 q_b4 S_b4 N_b4 H_b4 G_b4 (fits_nar_char _) W11 6 rfl (Nat.le_of_ble_eq_true rfl)
  have K11 : Keep h0 h11 [] := K10.wr W11 (Or.inr sz_b4)
  have N11 := Fr.snoc X11 N10 g_b4
  obtain ⟨cl_b4_163, Ar_b4, q_b4, S_b4, N_b4, H_b4, G_b4⟩ := V_b4_11
  have hin163 : ¬ ((7 : Int32) < 0 ∨ cl_b4_163.slots.size ≤ ((7 : Int32)).toNatClampNeg) := inb_of S_b4 ⟨by decide, by decide⟩
  obtain ⟨T12, h12, X12, e12, W12, st12⟩ := stC X11 hx hZ e11 Ar_b4 (j := (7 : Int32)) hin163 (g := (mkF m 163 #[s0, s1, s2, s3, .val (.int i4), .val (.int i5), .val (.int i6), .val (.int i7), s8, s9, s10, s11, s12, s13, s14, s15, s16, s17] [.int i4, .int 7, .ref b4, .ref b4])) rfl rfl (hb hby at_163)
  have V_b4_12 : Arv Z h12 b4 k4 .char (55 : Int32) [.int (nar .char 35), .int (nar .char 32), .int (nar .char 72), .int (nar .char 69), .int (nar .char 76), .int (nar .char 80), .int (nar .char 32), .int (nar .char i4), .int 0, .int 0, .int 0, .int 0, .int 0, .int 0, .int 0, .int 0, .int 0, .int 0, .int 0, .int 0, .int 0, .int 0, .int 0, .int 0, .int 0, .int 0, .int 0, .int 0, .int 0, .int 0, .int 0, .int 0, .int 0, .int 0, .int 0, .int 0, .int 0, .int 0, .int 0, .int 0, .int 0, .int 0, .int 0, .int 0, .int 0, .int 0, .int 0, .int 0, .int 0, .int 0, .int 0, .int 0, .int 0, .int 0, .int 0] (.int 0) := Arv.set Ar_b4 q_b4 S_b4 N_b4 H_b4 G_b4 (fits_nar_char _) W12 7 rfl (Nat.le_of_ble_eq_true rfl)
  have K12 : Keep h0 h12 [] := K11.wr W12 (Or.inr sz_b4)
  have N12 := Fr.snoc X12 N11 g_b4
  obtain ⟨cl_b4_169, Ar_b4, q_b4, S_b4, N_b4, H_b4, G_b4⟩ := V_b4_12
  have hin169 : ¬ ((8 : Int32) < 0 ∨ cl_b4_169.slots.size ≤ ((8 : Int32)).toNatClampNeg) := inb_of S_b4 ⟨by decide, by decide⟩
  obtain ⟨T13, h13, X13, e13, W13, st13⟩ := stC X12 hx hZ e12 Ar_b4 (j := (8 : Int32)) hin169 (g := (mkF m 169 #[s0, s1, s2, s3, .val (.int i4), .val (.int i5), .val (.int i6), .val (.int i7), s8, s9, s10, s11, s12, s13, s14, s15, s16, s17] [.int i5, .int 8, .ref b4, .ref b4])) rfl rfl (hb hby at_169)
  have V_b4_13 : Arv Z h13 b4 k4 .char (55 : Int32) [.int (nar .char 35), .int (nar .char 32), .int (nar .char 72), .int (nar .char 69), .int (nar .char 76), .int (nar .char 80), .int (nar .char 32), .int (nar .char i4), .int (nar .char i5), .int 0, .int 0, .int 0, .int 0, .int 0, .int 0, .int 0, .int 0, .int 0, .int 0, .int 0, .int 0, .int 0, .int 0, .int 0, .int 0, .int 0, .int 0, .int 0, .int 0, .int 0, .int 0, .int 0, .int 0, .int 0, .int 0, .int 0, .int 0, .int 0, .int 0, .int 0, .int 0, .int 0, .int 0, .int 0, .int 0, .int 0, .int 0, .int 0, .int 0, .int 0, .int 0, .int 0, .int 0, .int 0, .int 0] (.int 0) := Arv.set Ar_b4 q_b4 S_b4 N_b4 H_b4 G_b4 (fits_nar_char _) W13 8 rfl (Nat.le_of_ble_eq_true rfl)
  have K13 : Keep h0 h13 [] := K12.wr W13 (Or.inr sz_b4)
  have N13 := Fr.snoc X13 N12 g_b4
  obtain ⟨cl_b4_175, Ar_b4, q_b4, S_b4, N_b4, H_b4, G_b4⟩ := V_b4_13
  have hin175 : ¬ ((9 : Int32) < 0 ∨ cl_b4_175.slots.size ≤ ((9 : Int32)).toNatClampNeg) := inb_of S_b4 ⟨by decide, by decide⟩
  obtain ⟨T14, h14, X14, e14, W14, st14⟩ := stC X13 hx hZ e13 Ar_b4 (j := (9 : Int32)) hin175 (g := (mkF m 175 #[s0, s1, s2, s3, .val (.int i4), .val (.int i5), .val (.int i6), .val (.int i7), s8, s9, s10, s11, s12, s13, s14, s15, s16, s17] [.int 32, .int 9, .ref b4, .ref b4])) rfl rfl (hb hby at_175)
  have V_b4_14 : Arv Z h14 b4 k4 .char (55 : Int32) [.int (nar .char 35), .int (nar .char 32), .int (nar .char 72), .int (nar .char 69), .int (nar .char 76), .int (nar .char 80), .int (nar .char 32), .int (nar .char i4), .int (nar .char i5), .int (nar .char 32), .int 0, .int 0, .int 0, .int 0, .int 0, .int 0, .int 0, .int 0, .int 0, .int 0, .int 0, .int 0, .int 0, .int 0, .int 0, .int 0, .int 0, .int 0, .int 0, .int 0, .int 0, .int 0, .int 0, .int 0, .int 0, .int 0, .int 0, .int 0, .int 0, .int 0, .int 0, .int 0, .int 0, .int 0, .int 0, .int 0, .int 0, .int 0, .int 0, .int 0, .int 0, .int 0, .int 0, .int 0, .int 0] (.int 0) := Arv.set Ar_b4 q_b4 S_b4 N_b4 H_b4 G_b4 (fits_nar_char _) W14 9 rfl (Nat.le_of_ble_eq_true rfl)
  have K14 : Keep h0 h14 [] := K13.wr W14 (Or.inr sz_b4)
  have N14 := Fr.snoc X14 N13 g_b4
  obtain ⟨cl_b4_181, Ar_b4, q_b4, S_b4, N_b4, H_b4, G_b4⟩ := V_b4_14
  have hin181 : ¬ ((10 : Int32) < 0 ∨ cl_b4_181.slots.size ≤ ((10 : Int32)).toNatClampNeg) := inb_of S_b4 ⟨by decide, by decide⟩
  obtain ⟨T15, h15, X15, e15, W15, st15⟩ := stC X14 hx hZ e14 Ar_b4 (j := (10 : Int32)) hin181 (g := (mkF m 181 #[s0, s1, s2, s3, .val (.int i4), .val (.int i5), .val (.int i6), .val (.int i7), s8, s9, s10, s11, s12, s13, s14, s15, s16, s17] [.int i6, .int 10, .ref b4, .ref b4])) rfl rfl (hb hby at_181)
  have V_b4_15 : Arv Z h15 b4 k4 .char (55 : Int32) [.int (nar .char 35), .int (nar .char 32), .int (nar .char 72), .int (nar .char 69), .int (nar .char 76), .int (nar .char 80), .int (nar .char 32), .int (nar .char i4), .int (nar .char i5), .int (nar .char 32), .int (nar .char i6), .int 0, .int 0, .int 0, .int 0, .int 0, .int 0, .int 0, .int 0, .int 0, .int 0, .int 0, .int 0, .int 0, .int 0, .int 0, .int 0, .int 0, .int 0, .int 0, .int 0, .int 0, .int 0, .int 0, .int 0, .int 0, .int 0, .int 0, .int 0, .int 0, .int 0, .int 0, .int 0, .int 0, .int 0, .int 0, .int 0, .int 0, .int 0, .int 0, .int 0, .int 0, .int 0, .int 0, .int 0] (.int 0) := Arv.set Ar_b4 q_b4 S_b4 N_b4 H_b4 G_b4 (fits_nar_char _) W15 10 rfl (Nat.le_of_ble_eq_true rfl)
  have K15 : Keep h0 h15 [] := K14.wr W15 (Or.inr sz_b4)
  have N15 := Fr.snoc X15 N14 g_b4
  obtain ⟨cl_b4_187, Ar_b4, q_b4, S_b4, N_b4, H_b4, G_b4⟩ := V_b4_15
  have hin187 : ¬ ((11 : Int32) < 0 ∨ cl_b4_187.slots.size ≤ ((11 : Int32)).toNatClampNeg) := inb_of S_b4 ⟨by decide, by decide⟩
  obtain ⟨T16, h16, X16, e16, W16, st16⟩ := stC X15 hx hZ e15 Ar_b4 (j := (11 : Int32)) hin187 (g := (mkF m 187 #[s0, s1, s2, s3, .val (.int i4), .val (.int i5), .val (.int i6), .val (.int i7), s8, s9, s10, s11, s12, s13, s14, s15, s16, s17] [.int i7, .int 11, .ref b4, .ref b4])) rfl rfl (hb hby at_187)
  have V_b4_16 : Arv Z h16 b4 k4 .char (55 : Int32) [.int (nar .char 35), .int (nar .char 32), .int (nar .char 72), .int (nar .char 69), .int (nar .char 76), .int (nar .char 80), .int (nar .char 32), .int (nar .char i4), .int (nar .char i5), .int (nar .char 32), .int (nar .char i6), .int (nar .char i7), .int 0, .int 0, .int 0, .int 0, .int 0, .int 0, .int 0, .int 0, .int 0, .int 0, .int 0, .int 0, .int 0, .int 0, .int 0, .int 0, .int 0, .int 0, .int 0, .int 0, .int 0, .int 0, .int 0, .int 0, .int 0, .int 0, .int 0, .int 0, .int 0, .int 0, .int 0, .int 0, .int 0, .int 0, .int 0, .int 0, .int 0, .int 0, .int 0, .int 0, .int 0, .int 0, .int 0] (.int 0) := Arv.set Ar_b4 q_b4 S_b4 N_b4 H_b4 G_b4 (fits_nar_char _) W16 11 rfl (Nat.le_of_ble_eq_true rfl)
  have K16 : Keep h0 h16 [] := K15.wr W16 (Or.inr sz_b4)
  have N16 := Fr.snoc X16 N15 g_b4
  obtain ⟨cl_b4_193, Ar_b4, q_b4, S_b4, N_b4, H_b4, G_b4⟩ := V_b4_16
  have hin193 : ¬ ((12 : Int32) < 0 ∨ cl_b4_193.slots.size ≤ ((12 : Int32)).toNatClampNeg) := inb_of S_b4 ⟨by decide, by decide⟩
  obtain ⟨T17, h17, X17, e17, W17, st17⟩ := stC X16 hx hZ e16 Ar_b4 (j := (12 : Int32)) hin193 (g := (mkF m 193 #[s0, s1, s2, s3, .val (.int i4), .val (.int i5), .val (.int i6), .val (.int i7), s8, s9, s10, s11, s12, s13, s14, s15, s16, s17] [.int 10, .int 12, .ref b4, .ref b4])) rfl rfl (hb hby at_193)
  have V_b4_17 : Arv Z h17 b4 k4 .char (55 : Int32) [.int (nar .char 35), .int (nar .char 32), .int (nar .char 72), .int (nar .char 69), .int (nar .char 76), .int (nar .char 80), .int (nar .char 32), .int (nar .char i4), .int (nar .char i5), .int (nar .char 32), .int (nar .char i6), .int (nar .char i7), .int (nar .char 10), .int 0, .int 0, .int 0, .int 0, .int 0, .int 0, .int 0, .int 0, .int 0, .int 0, .int 0, .int 0, .int 0, .int 0, .int 0, .int 0, .int 0, .int 0, .int 0, .int 0, .int 0, .int 0, .int 0, .int 0, .int 0, .int 0, .int 0, .int 0, .int 0, .int 0, .int 0, .int 0, .int 0, .int 0, .int 0, .int 0, .int 0, .int 0, .int 0, .int 0, .int 0, .int 0] (.int 0) := Arv.set Ar_b4 q_b4 S_b4 N_b4 H_b4 G_b4 (fits_nar_char _) W17 12 rfl (Nat.le_of_ble_eq_true rfl)
  have K17 : Keep h0 h17 [] := K16.wr W17 (Or.inr sz_b4)
  have N17 := Fr.snoc X17 N16 g_b4
  obtain ⟨cl_b4_199, Ar_b4, q_b4, S_b4, N_b4, H_b4, G_b4⟩ := V_b4_17
  have hin199 : ¬ ((13 : Int32) < 0 ∨ cl_b4_199.slots.size ≤ ((13 : Int32)).toNatClampNeg) := inb_of S_b4 ⟨by decide, by decide⟩
  obtain ⟨T18, h18, X18, e18, W18, st18⟩ := stC X17 hx hZ e17 Ar_b4 (j := (13 : Int32)) hin199 (g := (mkF m 199 #[s0, s1, s2, s3, .val (.int i4), .val (.int i5), .val (.int i6), .val (.int i7), s8, s9, s10, s11, s12, s13, s14, s15, s16, s17] [.int 35, .int 13, .ref b4, .ref b4])) rfl rfl (hb hby at_199)
  have V_b4_18 : Arv Z h18 b4 k4 .char (55 : Int32) [.int (nar .char 35), .int (nar .char 32), .int (nar .char 72), .int (nar .char 69), .int (nar .char 76), .int (nar .char 80), .int (nar .char 32), .int (nar .char i4), .int (nar .char i5), .int (nar .char 32), .int (nar .char i6), .int (nar .char i7), .int (nar .char 10), .int (nar .char 35), .int 0, .int 0, .int 0, .int 0, .int 0, .int 0, .int 0, .int 0, .int 0, .int 0, .int 0, .int 0, .int 0, .int 0, .int 0, .int 0, .int 0, .int 0, .int 0, .int 0, .int 0, .int 0, .int 0, .int 0, .int 0, .int 0, .int 0, .int 0, .int 0, .int 0, .int 0, .int 0, .int 0, .int 0, .int 0, .int 0, .int 0, .int 0, .int 0, .int 0, .int 0] (.int 0) := Arv.set Ar_b4 q_b4 S_b4 N_b4 H_b4 G_b4 (fits_nar_char _) W18 13 rfl (Nat.le_of_ble_eq_true rfl)
  have K18 : Keep h0 h18 [] := K17.wr W18 (Or.inr sz_b4)
  have N18 := Fr.snoc X18 N17 g_b4
  obtain ⟨cl_b4_205, Ar_b4, q_b4, S_b4, N_b4, H_b4, G_b4⟩ := V_b4_18
  have hin205 : ¬ ((14 : Int32) < 0 ∨ cl_b4_205.slots.size ≤ ((14 : Int32)).toNatClampNeg) := inb_of S_b4 ⟨by decide, by decide⟩
  obtain ⟨T19, h19, X19, e19, W19, st19⟩ := stC X18 hx hZ e18 Ar_b4 (j := (14 : Int32)) hin205 (g := (mkF m 205 #[s0, s1, s2, s3, .val (.int i4), .val (.int i5), .val (.int i6), .val (.int i7), s8, s9, s10, s11, s12, s13, s14, s15, s16, s17] [.int 32, .int 14, .ref b4, .ref b4])) rfl rfl (hb hby at_205)
  have V_b4_19 : Arv Z h19 b4 k4 .char (55 : Int32) [.int (nar .char 35), .int (nar .char 32), .int (nar .char 72), .int (nar .char 69), .int (nar .char 76), .int (nar .char 80), .int (nar .char 32), .int (nar .char i4), .int (nar .char i5), .int (nar .char 32), .int (nar .char i6), .int (nar .char i7), .int (nar .char 10), .int (nar .char 35), .int (nar .char 32), .int 0, .int 0, .int 0, .int 0, .int 0, .int 0, .int 0, .int 0, .int 0, .int 0, .int 0, .int 0, .int 0, .int 0, .int 0, .int 0, .int 0, .int 0, .int 0, .int 0, .int 0, .int 0, .int 0, .int 0, .int 0, .int 0, .int 0, .int 0, .int 0, .int 0, .int 0, .int 0, .int 0, .int 0, .int 0, .int 0, .int 0, .int 0, .int 0, .int 0] (.int 0) := Arv.set Ar_b4 q_b4 S_b4 N_b4 H_b4 G_b4 (fits_nar_char _) W19 14 rfl (Nat.le_of_ble_eq_true rfl)
  have K19 : Keep h0 h19 [] := K18.wr W19 (Or.inr sz_b4)
  have N19 := Fr.snoc X19 N18 g_b4
  obtain ⟨cl_b4_211, Ar_b4, q_b4, S_b4, N_b4, H_b4, G_b4⟩ := V_b4_19
  have hin211 : ¬ ((15 : Int32) < 0 ∨ cl_b4_211.slots.size ≤ ((15 : Int32)).toNatClampNeg) := inb_of S_b4 ⟨by decide, by decide⟩
  obtain ⟨T20, h20, X20, e20, W20, st20⟩ := stC X19 hx hZ e19 Ar_b4 (j := (15 : Int32)) hin211 (g := (mkF m 211 #[s0, s1, s2, s3, .val (.int i4), .val (.int i5), .val (.int i6), .val (.int i7), s8, s9, s10, s11, s12, s13, s14, s15, s16, s17] [.int 84, .int 15, .ref b4, .ref b4])) rfl rfl (hb hby at_211)
  have V_b4_20 : Arv Z h20 b4 k4 .char (55 : Int32) [.int (nar .char 35), .int (nar .char 32), .int (nar .char 72), .int (nar .char 69), .int (nar .char 76), .int (nar .char 80), .int (nar .char 32), .int (nar .char i4), .int (nar .char i5), .int (nar .char 32), .int (nar .char i6), .int (nar .char i7), .int (nar .char 10), .int (nar .char 35), .int (nar .char 32), .int (nar .char 84), .int 0, .int 0, .int 0, .int 0, .int 0, .int 0, .int 0, .int 0, .int 0, .int 0, .int 0, .int 0, .int 0, .int 0, .int 0, .int 0, .int 0, .int 0, .int 0, .int 0, .int 0, .int 0, .int 0, .int 0, .int 0, .int 0, .int 0, .int 0, .int 0, .int 0, .int 0, .int 0, .int 0, .int 0, .int 0, .int 0, .int 0, .int 0, .int 0] (.int 0) := Arv.set Ar_b4 q_b4 S_b4 N_b4 H_b4 G_b4 (fits_nar_char _) W20 15 rfl (Nat.le_of_ble_eq_true rfl)
  have K20 : Keep h0 h20 [] := K19.wr W20 (Or.inr sz_b4)
  have N20 := Fr.snoc X20 N19 g_b4
  obtain ⟨cl_b4_217, Ar_b4, q_b4, S_b4, N_b4, H_b4, G_b4⟩ := V_b4_20
  have hin217 : ¬ ((16 : Int32) < 0 ∨ cl_b4_217.slots.size ≤ ((16 : Int32)).toNatClampNeg) := inb_of S_b4 ⟨by decide, by decide⟩
  obtain ⟨T21, h21, X21, e21, W21, st21⟩ := stC X20 hx hZ e20 Ar_b4 (j := (16 : Int32)) hin217 (g := (mkF m 217 #[s0, s1, s2, s3, .val (.int i4), .val (.int i5), .val (.int i6), .val (.int i7), s8, s9, s10, s11, s12, s13, s14, s15, s16, s17] [.int 89, .int 16, .ref b4, .ref b4])) rfl rfl (hb hby at_217)
  have V_b4_21 : Arv Z h21 b4 k4 .char (55 : Int32) [.int (nar .char 35), .int (nar .char 32), .int (nar .char 72), .int (nar .char 69), .int (nar .char 76), .int (nar .char 80), .int (nar .char 32), .int (nar .char i4), .int (nar .char i5), .int (nar .char 32), .int (nar .char i6), .int (nar .char i7), .int (nar .char 10), .int (nar .char 35), .int (nar .char 32), .int (nar .char 84), .int (nar .char 89), .int 0, .int 0, .int 0, .int 0, .int 0, .int 0, .int 0, .int 0, .int 0, .int 0, .int 0, .int 0, .int 0, .int 0, .int 0, .int 0, .int 0, .int 0, .int 0, .int 0, .int 0, .int 0, .int 0, .int 0, .int 0, .int 0, .int 0, .int 0, .int 0, .int 0, .int 0, .int 0, .int 0, .int 0, .int 0, .int 0, .int 0, .int 0] (.int 0) := Arv.set Ar_b4 q_b4 S_b4 N_b4 H_b4 G_b4 (fits_nar_char _) W21 16 rfl (Nat.le_of_ble_eq_true rfl)
  have K21 : Keep h0 h21 [] := K20.wr W21 (Or.inr sz_b4)
  have N21 := Fr.snoc X21 N20 g_b4
  obtain ⟨cl_b4_223, Ar_b4, q_b4, S_b4, N_b4, H_b4, G_b4⟩ := V_b4_21
  have hin223 : ¬ ((17 : Int32) < 0 ∨ cl_b4_223.slots.size ≤ ((17 : Int32)).toNatClampNeg) := inb_of S_b4 ⟨by decide, by decide⟩
  obtain ⟨T22, h22, X22, e22, W22, st22⟩ := stC X21 hx hZ e21 Ar_b4 (j := (17 : Int32)) hin223 (g := (mkF m 223 #[s0, s1, s2, s3, .val (.int i4), .val (.int i5), .val (.int i6), .val (.int i7), s8, s9, s10, s11, s12, s13, s14, s15, s16, s17] [.int 80, .int 17, .ref b4, .ref b4])) rfl rfl (hb hby at_223)
  have V_b4_22 : Arv Z h22 b4 k4 .char (55 : Int32) [.int (nar .char 35), .int (nar .char 32), .int (nar .char 72), .int (nar .char 69), .int (nar .char 76), .int (nar .char 80), .int (nar .char 32), .int (nar .char i4), .int (nar .char i5), .int (nar .char 32), .int (nar .char i6), .int (nar .char i7), .int (nar .char 10), .int (nar .char 35), .int (nar .char 32), .int (nar .char 84), .int (nar .char 89), .int (nar .char 80), .int 0, .int 0, .int 0, .int 0, .int 0, .int 0, .int 0, .int 0, .int 0, .int 0, .int 0, .int 0, .int 0, .int 0, .int 0, .int 0, .int 0, .int 0, .int 0, .int 0, .int 0, .int 0, .int 0, .int 0, .int 0, .int 0, .int 0, .int 0, .int 0, .int 0, .int 0, .int 0, .int 0, .int 0, .int 0, .int 0, .int 0] (.int 0) := Arv.set Ar_b4 q_b4 S_b4 N_b4 H_b4 G_b4 (fits_nar_char _) W22 17 rfl (Nat.le_of_ble_eq_true rfl)
  have K22 : Keep h0 h22 [] := K21.wr W22 (Or.inr sz_b4)
  have N22 := Fr.snoc X22 N21 g_b4
  obtain ⟨cl_b4_229, Ar_b4, q_b4, S_b4, N_b4, H_b4, G_b4⟩ := V_b4_22
  have hin229 : ¬ ((18 : Int32) < 0 ∨ cl_b4_229.slots.size ≤ ((18 : Int32)).toNatClampNeg) := inb_of S_b4 ⟨by decide, by decide⟩
  obtain ⟨T23, h23, X23, e23, W23, st23⟩ := stC X22 hx hZ e22 Ar_b4 (j := (18 : Int32)) hin229 (g := (mkF m 229 #[s0, s1, s2, s3, .val (.int i4), .val (.int i5), .val (.int i6), .val (.int i7), s8, s9, s10, s11, s12, s13, s14, s15, s16, s17] [.int 69, .int 18, .ref b4, .ref b4])) rfl rfl (hb hby at_229)
  have V_b4_23 : Arv Z h23 b4 k4 .char (55 : Int32) [.int (nar .char 35), .int (nar .char 32), .int (nar .char 72), .int (nar .char 69), .int (nar .char 76), .int (nar .char 80), .int (nar .char 32), .int (nar .char i4), .int (nar .char i5), .int (nar .char 32), .int (nar .char i6), .int (nar .char i7), .int (nar .char 10), .int (nar .char 35), .int (nar .char 32), .int (nar .char 84), .int (nar .char 89), .int (nar .char 80), .int (nar .char 69), .int 0, .int 0, .int 0, .int 0, .int 0, .int 0, .int 0, .int 0, .int 0, .int 0, .int 0, .int 0, .int 0, .int 0, .int 0, .int 0, .int 0, .int 0, .int 0, .int 0, .int 0, .int 0, .int 0, .int 0, .int 0, .int 0, .int 0, .int 0, .int 0, .int 0, .int 0, .int 0, .int 0, .int 0, .int 0, .int 0] (.int 0) := Arv.set Ar_b4 q_b4 S_b4 N_b4 H_b4 G_b4 (fits_nar_char _) W23 18 rfl (Nat.le_of_ble_eq_true rfl)
  have K23 : Keep h0 h23 [] := K22.wr W23 (Or.inr sz_b4)
  have N23 := Fr.snoc X23 N22 g_b4
  obtain ⟨cl_b4_235, Ar_b4, q_b4, S_b4, N_b4, H_b4, G_b4⟩ := V_b4_23
  have hin235 : ¬ ((19 : Int32) < 0 ∨ cl_b4_235.slots.size ≤ ((19 : Int32)).toNatClampNeg) := inb_of S_b4 ⟨by decide, by decide⟩
  obtain ⟨T24, h24, X24, e24, W24, st24⟩ := stC X23 hx hZ e23 Ar_b4 (j := (19 : Int32)) hin235 (g := (mkF m 235 #[s0, s1, s2, s3, .val (.int i4), .val (.int i5), .val (.int i6), .val (.int i7), s8, s9, s10, s11, s12, s13, s14, s15, s16, s17] [.int 32, .int 19, .ref b4, .ref b4])) rfl rfl (hb hby at_235)
  have V_b4_24 : Arv Z h24 b4 k4 .char (55 : Int32) [.int (nar .char 35), .int (nar .char 32), .int (nar .char 72), .int (nar .char 69), .int (nar .char 76), .int (nar .char 80), .int (nar .char 32), .int (nar .char i4), .int (nar .char i5), .int (nar .char 32), .int (nar .char i6), .int (nar .char i7), .int (nar .char 10), .int (nar .char 35), .int (nar .char 32), .int (nar .char 84), .int (nar .char 89), .int (nar .char 80), .int (nar .char 69), .int (nar .char 32), .int 0, .int 0, .int 0, .int 0, .int 0, .int 0, .int 0, .int 0, .int 0, .int 0, .int 0, .int 0, .int 0, .int 0, .int 0, .int 0, .int 0, .int 0, .int 0, .int 0, .int 0, .int 0, .int 0, .int 0, .int 0, .int 0, .int 0, .int 0, .int 0, .int 0, .int 0, .int 0, .int 0, .int 0, .int 0] (.int 0) := Arv.set Ar_b4 q_b4 S_b4 N_b4 H_b4 G_b4 (fits_nar_char _) W24 19 rfl (Nat.le_of_ble_eq_true rfl)
  have K24 : Keep h0 h24 [] := K23.wr W24 (Or.inr sz_b4)
  have N24 := Fr.snoc X24 N23 g_b4
  obtain ⟨cl_b4_241, Ar_b4, q_b4, S_b4, N_b4, H_b4, G_b4⟩ := V_b4_24
  have hin241 : ¬ ((20 : Int32) < 0 ∨ cl_b4_241.slots.size ≤ ((20 : Int32)).toNatClampNeg) := inb_of S_b4 ⟨by decide, by decide⟩
  obtain ⟨T25, h25, X25, e25, W25, st25⟩ := stC X24 hx hZ e24 Ar_b4 (j := (20 : Int32)) hin241 (g := (mkF m 241 #[s0, s1, s2, s3, .val (.int i4), .val (.int i5), .val (.int i6), .val (.int i7), s8, s9, s10, s11, s12, s13, s14, s15, s16, s17] [.int i4, .int 20, .ref b4, .ref b4])) rfl rfl (hb hby at_241)
  have V_b4_25 : Arv Z h25 b4 k4 .char (55 : Int32) [.int (nar .char 35), .int (nar .char 32), .int (nar .char 72), .int (nar .char 69), .int (nar .char 76), .int (nar .char 80), .int (nar .char 32), .int (nar .char i4), .int (nar .char i5), .int (nar .char 32), .int (nar .char i6), .int (nar .char i7), .int (nar .char 10), .int (nar .char 35), .int (nar .char 32), .int (nar .char 84), .int (nar .char 89), .int (nar .char 80), .int (nar .char 69), .int (nar .char 32), .int (nar .char i4), .int 0, .int 0, .int 0, .int 0, .int 0, .int 0, .int 0, .int 0, .int 0, .int 0, .int 0, .int 0, .int 0, .int 0, .int 0, .int 0, .int 0, .int 0, .int 0, .int 0, .int 0, .int 0, .int 0, .int 0, .int 0, .int 0, .int 0, .int 0, .int 0, .int 0, .int 0, .int 0, .int 0, .int 0] (.int 0) := Arv.set Ar_b4 q_b4 S_b4 N_b4 H_b4 G_b4 (fits_nar_char _) W25 20 rfl (Nat.le_of_ble_eq_true rfl)
  have K25 : Keep h0 h25 [] := K24.wr W25 (Or.inr sz_b4)
  have N25 := Fr.snoc X25 N24 g_b4
  obtain ⟨cl_b4_247, Ar_b4, q_b4, S_b4, N_b4, H_b4, G_b4⟩ := V_b4_25
  have hin247 : ¬ ((21 : Int32) < 0 ∨ cl_b4_247.slots.size ≤ ((21 : Int32)).toNatClampNeg) := inb_of S_b4 ⟨by decide, by decide⟩
  obtain ⟨T26, h26, X26, e26, W26, st26⟩ := stC X25 hx hZ e25 Ar_b4 (j := (21 : Int32)) hin247 (g := (mkF m 247 #[s0, s1, s2, s3, .val (.int i4), .val (.int i5), .val (.int i6), .val (.int i7), s8, s9, s10, s11, s12, s13, s14, s15, s16, s17] [.int i5, .int 21, .ref b4, .ref b4])) rfl rfl (hb hby at_247)
  have V_b4_26 : Arv Z h26 b4 k4 .char (55 : Int32) [.int (nar .char 35), .int (nar .char 32), .int (nar .char 72), .int (nar .char 69), .int (nar .char 76), .int (nar .char 80), .int (nar .char 32), .int (nar .char i4), .int (nar .char i5), .int (nar .char 32), .int (nar .char i6), .int (nar .char i7), .int (nar .char 10), .int (nar .char 35), .int (nar .char 32), .int (nar .char 84), .int (nar .char 89), .int (nar .char 80), .int (nar .char 69), .int (nar .char 32), .int (nar .char i4), .int (nar .char i5), .int 0, .int 0, .int 0, .int 0, .int 0, .int 0, .int 0, .int 0, .int 0, .int 0, .int 0, .int 0, .int 0, .int 0, .int 0, .int 0, .int 0, .int 0, .int 0, .int 0, .int 0, .int 0, .int 0, .int 0, .int 0, .int 0, .int 0, .int 0, .int 0, .int 0, .int 0, .int 0, .int 0] (.int 0) := Arv.set Ar_b4 q_b4 S_b4 N_b4 H_b4 G_b4 (fits_nar_char _) W26 21 rfl (Nat.le_of_ble_eq_true rfl)
  have K26 : Keep h0 h26 [] := K25.wr W26 (Or.inr sz_b4)
  have N26 := Fr.snoc X26 N25 g_b4
  obtain ⟨cl_b4_253, Ar_b4, q_b4, S_b4, N_b4, H_b4, G_b4⟩ := V_b4_26
  have hin253 : ¬ ((22 : Int32) < 0 ∨ cl_b4_253.slots.size ≤ ((22 : Int32)).toNatClampNeg) := inb_of S_b4 ⟨by decide, by decide⟩
  obtain ⟨T27, h27, X27, e27, W27, st27⟩ := stC X26 hx hZ e26 Ar_b4 (j := (22 : Int32)) hin253 (g := (mkF m 253 #[s0, s1, s2, s3, .val (.int i4), .val (.int i5), .val (.int i6), .val (.int i7), s8, s9, s10, s11, s12, s13, s14, s15, s16, s17] [.int 32, .int 22, .ref b4, .ref b4])) rfl rfl (hb hby at_253)
  have V_b4_27 : Arv Z h27 b4 k4 .char (55 : Int32) [.int (nar .char 35), .int (nar .char 32), .int (nar .char 72), .int (nar .char 69), .int (nar .char 76), .int (nar .char 80), .int (nar .char 32), .int (nar .char i4), .int (nar .char i5), .int (nar .char 32), .int (nar .char i6), .int (nar .char i7), .int (nar .char 10), .int (nar .char 35), .int (nar .char 32), .int (nar .char 84), .int (nar .char 89), .int (nar .char 80), .int (nar .char 69), .int (nar .char 32), .int (nar .char i4), .int (nar .char i5), .int (nar .char 32), .int 0, .int 0, .int 0, .int 0, .int 0, .int 0, .int 0, .int 0, .int 0, .int 0, .int 0, .int 0, .int 0, .int 0, .int 0, .int 0, .int 0, .int 0, .int 0, .int 0, .int 0, .int 0, .int 0, .int 0, .int 0, .int 0, .int 0, .int 0, .int 0, .int 0, .int 0, .int 0] (.int 0) := Arv.set Ar_b4 q_b4 S_b4 N_b4 H_b4 G_b4 (fits_nar_char _) W27 22 rfl (Nat.le_of_ble_eq_true rfl)
  have K27 : Keep h0 h27 [] := K26.wr W27 (Or.inr sz_b4)
  have N27 := Fr.snoc X27 N26 g_b4
  obtain ⟨cl_b4_259, Ar_b4, q_b4, S_b4, N_b4, H_b4, G_b4⟩ := V_b4_27
  have hin259 : ¬ ((23 : Int32) < 0 ∨ cl_b4_259.slots.size ≤ ((23 : Int32)).toNatClampNeg) := inb_of S_b4 ⟨by decide, by decide⟩
  obtain ⟨T28, h28, X28, e28, W28, st28⟩ := stC X27 hx hZ e27 Ar_b4 (j := (23 : Int32)) hin259 (g := (mkF m 259 #[s0, s1, s2, s3, .val (.int i4), .val (.int i5), .val (.int i6), .val (.int i7), s8, s9, s10, s11, s12, s13, s14, s15, s16, s17] [.int 99, .int 23, .ref b4, .ref b4])) rfl rfl (hb hby at_259)
  have V_b4_28 : Arv Z h28 b4 k4 .char (55 : Int32) [.int (nar .char 35), .int (nar .char 32), .int (nar .char 72), .int (nar .char 69), .int (nar .char 76), .int (nar .char 80), .int (nar .char 32), .int (nar .char i4), .int (nar .char i5), .int (nar .char 32), .int (nar .char i6), .int (nar .char i7), .int (nar .char 10), .int (nar .char 35), .int (nar .char 32), .int (nar .char 84), .int (nar .char 89), .int (nar .char 80), .int (nar .char 69), .int (nar .char 32), .int (nar .char i4), .int (nar .char i5), .int (nar .char 32), .int (nar .char 99), .int 0, .int 0, .int 0, .int 0, .int 0, .int 0, .int 0, .int 0, .int 0, .int 0, .int 0, .int 0, .int 0, .int 0, .int 0, .int 0, .int 0, .int 0, .int 0, .int 0, .int 0, .int 0, .int 0, .int 0, .int 0, .int 0, .int 0, .int 0, .int 0, .int 0, .int 0] (.int 0) := Arv.set Ar_b4 q_b4 S_b4 N_b4 H_b4 G_b4 (fits_nar_char _) W28 23 rfl (Nat.le_of_ble_eq_true rfl)
  have K28 : Keep h0 h28 [] := K27.wr W28 (Or.inr sz_b4)
  have N28 := Fr.snoc X28 N27 g_b4
  obtain ⟨cl_b4_265, Ar_b4, q_b4, S_b4, N_b4, H_b4, G_b4⟩ := V_b4_28
  have hin265 : ¬ ((24 : Int32) < 0 ∨ cl_b4_265.slots.size ≤ ((24 : Int32)).toNatClampNeg) := inb_of S_b4 ⟨by decide, by decide⟩
  obtain ⟨T29, h29, X29, e29, W29, st29⟩ := stC X28 hx hZ e28 Ar_b4 (j := (24 : Int32)) hin265 (g := (mkF m 265 #[s0, s1, s2, s3, .val (.int i4), .val (.int i5), .val (.int i6), .val (.int i7), s8, s9, s10, s11, s12, s13, s14, s15, s16, s17] [.int 111, .int 24, .ref b4, .ref b4])) rfl rfl (hb hby at_265)
  have V_b4_29 : Arv Z h29 b4 k4 .char (55 : Int32) [.int (nar .char 35), .int (nar .char 32), .int (nar .char 72), .int (nar .char 69), .int (nar .char 76), .int (nar .char 80), .int (nar .char 32), .int (nar .char i4), .int (nar .char i5), .int (nar .char 32), .int (nar .char i6), .int (nar .char i7), .int (nar .char 10), .int (nar .char 35), .int (nar .char 32), .int (nar .char 84), .int (nar .char 89), .int (nar .char 80), .int (nar .char 69), .int (nar .char 32), .int (nar .char i4), .int (nar .char i5), .int (nar .char 32), .int (nar .char 99), .int (nar .char 111), .int 0, .int 0, .int 0, .int 0, .int 0, .int 0, .int 0, .int 0, .int 0, .int 0, .int 0, .int 0, .int 0, .int 0, .int 0, .int 0, .int 0, .int 0, .int 0, .int 0, .int 0, .int 0, .int 0, .int 0, .int 0, .int 0, .int 0, .int 0, .int 0, .int 0] (.int 0) := Arv.set Ar_b4 q_b4 S_b4 N_b4 H_b4 G_b4 (fits_nar_char _) W29 24 rfl (Nat.le_of_ble_eq_true rfl)
  have K29 : Keep h0 h29 [] := K28.wr W29 (Or.inr sz_b4)
  have N29 := Fr.snoc X29 N28 g_b4
  obtain ⟨cl_b4_271, Ar_b4, q_b4, S_b4, N_b4, H_b4, G_b4⟩ := V_b4_29
  have hin271 : ¬ ((25 : Int32) < 0 ∨ cl_b4_271.slots.size ≤ ((25 : Int32)).toNatClampNeg) := inb_of S_b4 ⟨by decide, by decide⟩
  obtain ⟨T30, h30, X30, e30, W30, st30⟩ := stC X29 hx hZ e29 Ar_b4 (j := (25 : Int32)) hin271 (g := (mkF m 271 #[s0, s1, s2, s3, .val (.int i4), .val (.int i5), .val (.int i6), .val (.int i7), s8, s9, s10, s11, s12, s13, s14, s15, s16, s17] [.int 117, .int 25, .ref b4, .ref b4])) rfl rfl (hb hby at_271)
  have V_b4_30 : Arv Z h30 b4 k4 .char (55 : Int32) [.int (nar .char 35), .int (nar .char 32), .int (nar .char 72), .int (nar .char 69), .int (nar .char 76), .int (nar .char 80), .int (nar .char 32), .int (nar .char i4), .int (nar .char i5), .int (nar .char 32), .int (nar .char i6), .int (nar .char i7), .int (nar .char 10), .int (nar .char 35), .int (nar .char 32), .int (nar .char 84), .int (nar .char 89), .int (nar .char 80), .int (nar .char 69), .int (nar .char 32), .int (nar .char i4), .int (nar .char i5), .int (nar .char 32), .int (nar .char 99), .int (nar .char 111), .int (nar .char 117), .int 0, .int 0, .int 0, .int 0, .int 0, .int 0, .int 0, .int 0, .int 0, .int 0, .int 0, .int 0, .int 0, .int 0, .int 0, .int 0, .int 0, .int 0, .int 0, .int 0, .int 0, .int 0, .int 0, .int 0, .int 0, .int 0, .int 0, .int 0, .int 0] (.int 0) := Arv.set Ar_b4 q_b4 S_b4 N_b4 H_b4 G_b4 (fits_nar_char _) W30 25 rfl (Nat.le_of_ble_eq_true rfl)
  have K30 : Keep h0 h30 [] := K29.wr W30 (Or.inr sz_b4)
  have N30 := Fr.snoc X30 N29 g_b4
  obtain ⟨cl_b4_277, Ar_b4, q_b4, S_b4, N_b4, H_b4, G_b4⟩ := V_b4_30
  have hin277 : ¬ ((26 : Int32) < 0 ∨ cl_b4_277.slots.size ≤ ((26 : Int32)).toNatClampNeg) := inb_of S_b4 ⟨by decide, by decide⟩
  obtain ⟨T31, h31, X31, e31, W31, st31⟩ := stC X30 hx hZ e30 Ar_b4 (j := (26 : Int32)) hin277 (g := (mkF m 277 #[s0, s1, s2, s3, .val (.int i4), .val (.int i5), .val (.int i6), .val (.int i7), s8, s9, s10, s11, s12, s13, s14, s15, s16, s17] [.int 110, .int 26, .ref b4, .ref b4])) rfl rfl (hb hby at_277)
  have V_b4_31 : Arv Z h31 b4 k4 .char (55 : Int32) [.int (nar .char 35), .int (nar .char 32), .int (nar .char 72), .int (nar .char 69), .int (nar .char 76), .int (nar .char 80), .int (nar .char 32), .int (nar .char i4), .int (nar .char i5), .int (nar .char 32), .int (nar .char i6), .int (nar .char i7), .int (nar .char 10), .int (nar .char 35), .int (nar .char 32), .int (nar .char 84), .int (nar .char 89), .int (nar .char 80), .int (nar .char 69), .int (nar .char 32), .int (nar .char i4), .int (nar .char i5), .int (nar .char 32), .int (nar .char 99), .int (nar .char 111), .int (nar .char 117), .int (nar .char 110), .int 0, .int 0, .int 0, .int 0, .int 0, .int 0, .int 0, .int 0, .int 0, .int 0, .int 0, .int 0, .int 0, .int 0, .int 0, .int 0, .int 0, .int 0, .int 0, .int 0, .int 0, .int 0, .int 0, .int 0, .int 0, .int 0, .int 0, .int 0] (.int 0) := Arv.set Ar_b4 q_b4 S_b4 N_b4 H_b4 G_b4 (fits_nar_char _) W31 26 rfl (Nat.le_of_ble_eq_true rfl)
  have K31 : Keep h0 h31 [] := K30.wr W31 (Or.inr sz_b4)
  have N31 := Fr.snoc X31 N30 g_b4
  obtain ⟨cl_b4_283, Ar_b4, q_b4, S_b4, N_b4, H_b4, G_b4⟩ := V_b4_31
  have hin283 : ¬ ((27 : Int32) < 0 ∨ cl_b4_283.slots.size ≤ ((27 : Int32)).toNatClampNeg) := inb_of S_b4 ⟨by decide, by decide⟩
  obtain ⟨T32, h32, X32, e32, W32, st32⟩ := stC X31 hx hZ e31 Ar_b4 (j := (27 : Int32)) hin283 (g := (mkF m 283 #[s0, s1, s2, s3, .val (.int i4), .val (.int i5), .val (.int i6), .val (.int i7), s8, s9, s10, s11, s12, s13, s14, s15, s16, s17] [.int 116, .int 27, .ref b4, .ref b4])) rfl rfl (hb hby at_283)
  have V_b4_32 : Arv Z h32 b4 k4 .char (55 : Int32) [.int (nar .char 35), .int (nar .char 32), .int (nar .char 72), .int (nar .char 69), .int (nar .char 76), .int (nar .char 80), .int (nar .char 32), .int (nar .char i4), .int (nar .char i5), .int (nar .char 32), .int (nar .char i6), .int (nar .char i7), .int (nar .char 10), .int (nar .char 35), .int (nar .char 32), .int (nar .char 84), .int (nar .char 89), .int (nar .char 80), .int (nar .char 69), .int (nar .char 32), .int (nar .char i4), .int (nar .char i5), .int (nar .char 32), .int (nar .char 99), .int (nar .char 111), .int (nar .char 117), .int (nar .char 110), .int (nar .char 116), .int 0, .int 0, .int 0, .int 0, .int 0, .int 0, .int 0, .int 0, .int 0, .int 0, .int 0, .int 0, .int 0, .int 0, .int 0, .int 0, .int 0, .int 0, .int 0, .int 0, .int 0, .int 0, .int 0, .int 0, .int 0, .int 0, .int 0] (.int 0) := Arv.set Ar_b4 q_b4 S_b4 N_b4 H_b4 G_b4 (fits_nar_char _) W32 27 rfl (Nat.le_of_ble_eq_true rfl)
  have K32 : Keep h0 h32 [] := K31.wr W32 (Or.inr sz_b4)
  have N32 := Fr.snoc X32 N31 g_b4
  obtain ⟨cl_b4_289, Ar_b4, q_b4, S_b4, N_b4, H_b4, G_b4⟩ := V_b4_32
  have hin289 : ¬ ((28 : Int32) < 0 ∨ cl_b4_289.slots.size ≤ ((28 : Int32)).toNatClampNeg) := inb_of S_b4 ⟨by decide, by decide⟩
  obtain ⟨T33, h33, X33, e33, W33, st33⟩ := stC X32 hx hZ e32 Ar_b4 (j := (28 : Int32)) hin289 (g := (mkF m 289 #[s0, s1, s2, s3, .val (.int i4), .val (.int i5), .val (.int i6), .val (.int i7), s8, s9, s10, s11, s12, s13, s14, s15, s16, s17] [.int 101, .int 28, .ref b4, .ref b4])) rfl rfl (hb hby at_289)
  have V_b4_33 : Arv Z h33 b4 k4 .char (55 : Int32) [.int (nar .char 35), .int (nar .char 32), .int (nar .char 72), .int (nar .char 69), .int (nar .char 76), .int (nar .char 80), .int (nar .char 32), .int (nar .char i4), .int (nar .char i5), .int (nar .char 32), .int (nar .char i6), .int (nar .char i7), .int (nar .char 10), .int (nar .char 35), .int (nar .char 32), .int (nar .char 84), .int (nar .char 89), .int (nar .char 80), .int (nar .char 69), .int (nar .char 32), .int (nar .char i4), .int (nar .char i5), .int (nar .char 32), .int (nar .char 99), .int (nar .char 111), .int (nar .char 117), .int (nar .char 110), .int (nar .char 116), .int (nar .char 101), .int 0, .int 0, .int 0, .int 0, .int 0, .int 0, .int 0, .int 0, .int 0, .int 0, .int 0, .int 0, .int 0, .int 0, .int 0, .int 0, .int 0, .int 0, .int 0, .int 0, .int 0, .int 0, .int 0, .int 0, .int 0, .int 0] (.int 0) := Arv.set Ar_b4 q_b4 S_b4 N_b4 H_b4 G_b4 (fits_nar_char _) W33 28 rfl (Nat.le_of_ble_eq_true rfl)
  have K33 : Keep h0 h33 [] := K32.wr W33 (Or.inr sz_b4)
  have N33 := Fr.snoc X33 N32 g_b4
  obtain ⟨cl_b4_295, Ar_b4, q_b4, S_b4, N_b4, H_b4, G_b4⟩ := V_b4_33
  have hin295 : ¬ ((29 : Int32) < 0 ∨ cl_b4_295.slots.size ≤ ((29 : Int32)).toNatClampNeg) := inb_of S_b4 ⟨by decide, by decide⟩
  obtain ⟨T34, h34, X34, e34, W34, st34⟩ := stC X33 hx hZ e33 Ar_b4 (j := (29 : Int32)) hin295 (g := (mkF m 295 #[s0, s1, s2, s3, .val (.int i4), .val (.int i5), .val (.int i6), .val (.int i7), s8, s9, s10, s11, s12, s13, s14, s15, s16, s17] [.int 114, .int 29, .ref b4, .ref b4])) rfl rfl (hb hby at_295)
  have V_b4_34 : Arv Z h34 b4 k4 .char (55 : Int32) [.int (nar .char 35), .int (nar .char 32), .int (nar .char 72), .int (nar .char 69), .int (nar .char 76), .int (nar .char 80), .int (nar .char 32), .int (nar .char i4), .int (nar .char i5), .int (nar .char 32), .int (nar .char i6), .int (nar .char i7), .int (nar .char 10), .int (nar .char 35), .int (nar .char 32), .int (nar .char 84), .int (nar .char 89), .int (nar .char 80), .int (nar .char 69), .int (nar .char 32), .int (nar .char i4), .int (nar .char i5), .int (nar .char 32), .int (nar .char 99), .int (nar .char 111), .int (nar .char 117), .int (nar .char 110), .int (nar .char 116), .int (nar .char 101), .int (nar .char 114), .int 0, .int 0, .int 0, .int 0, .int 0, .int 0, .int 0, .int 0, .int 0, .int 0, .int 0, .int 0, .int 0, .int 0, .int 0, .int 0, .int 0, .int 0, .int 0, .int 0, .int 0, .int 0, .int 0, .int 0, .int 0] (.int 0) := Arv.set Ar_b4 q_b4 S_b4 N_b4 H_b4 G_b4 (fits_nar_char _) W34 29 rfl (Nat.le_of_ble_eq_true rfl)
  have K34 : Keep h0 h34 [] := K33.wr W34 (Or.inr sz_b4)
  have N34 := Fr.snoc X34 N33 g_b4
  obtain ⟨cl_b4_301, Ar_b4, q_b4, S_b4, N_b4, H_b4, G_b4⟩ := V_b4_34
  have hin301 : ¬ ((30 : Int32) < 0 ∨ cl_b4_301.slots.size ≤ ((30 : Int32)).toNatClampNeg) := inb_of S_b4 ⟨by decide, by decide⟩
  obtain ⟨T35, h35, X35, e35, W35, st35⟩ := stC X34 hx hZ e34 Ar_b4 (j := (30 : Int32)) hin301 (g := (mkF m 301 #[s0, s1, s2, s3, .val (.int i4), .val (.int i5), .val (.int i6), .val (.int i7), s8, s9, s10, s11, s12, s13, s14, s15, s16, s17] [.int 10, .int 30, .ref b4, .ref b4])) rfl rfl (hb hby at_301)
  have V_b4_35 : Arv Z h35 b4 k4 .char (55 : Int32) [.int (nar .char 35), .int (nar .char 32), .int (nar .char 72), .int (nar .char 69), .int (nar .char 76), .int (nar .char 80), .int (nar .char 32), .int (nar .char i4), .int (nar .char i5), .int (nar .char 32), .int (nar .char i6), .int (nar .char i7), .int (nar .char 10), .int (nar .char 35), .int (nar .char 32), .int (nar .char 84), .int (nar .char 89), .int (nar .char 80), .int (nar .char 69), .int (nar .char 32), .int (nar .char i4), .int (nar .char i5), .int (nar .char 32), .int (nar .char 99), .int (nar .char 111), .int (nar .char 117), .int (nar .char 110), .int (nar .char 116), .int (nar .char 101), .int (nar .char 114), .int (nar .char 10), .int 0, .int 0, .int 0, .int 0, .int 0, .int 0, .int 0, .int 0, .int 0, .int 0, .int 0, .int 0, .int 0, .int 0, .int 0, .int 0, .int 0, .int 0, .int 0, .int 0, .int 0, .int 0, .int 0, .int 0] (.int 0) := Arv.set Ar_b4 q_b4 S_b4 N_b4 H_b4 G_b4 (fits_nar_char _) W35 30 rfl (Nat.le_of_ble_eq_true rfl)
  have K35 : Keep h0 h35 [] := K34.wr W35 (Or.inr sz_b4)
  have N35 := Fr.snoc X35 N34 g_b4
  obtain ⟨cl_b4_307, Ar_b4, q_b4, S_b4, N_b4, H_b4, G_b4⟩ := V_b4_35
  have hin307 : ¬ ((31 : Int32) < 0 ∨ cl_b4_307.slots.size ≤ ((31 : Int32)).toNatClampNeg) := inb_of S_b4 ⟨by decide, by decide⟩
  obtain ⟨T36, h36, X36, e36, W36, st36⟩ := stC X35 hx hZ e35 Ar_b4 (j := (31 : Int32)) hin307 (g := (mkF m 307 #[s0, s1, s2, s3, .val (.int i4), .val (.int i5), .val (.int i6), .val (.int i7), s8, s9, s10, s11, s12, s13, s14, s15, s16, s17] [.int i4, .int 31, .ref b4, .ref b4])) rfl rfl (hb hby at_307)
  have V_b4_36 : Arv Z h36 b4 k4 .char (55 : Int32) [.int (nar .char 35), .int (nar .char 32), .int (nar .char 72), .int (nar .char 69), .int (nar .char 76), .int (nar .char 80), .int (nar .char 32), .int (nar .char i4), .int (nar .char i5), .int (nar .char 32), .int (nar .char i6), .int (nar .char i7), .int (nar .char 10), .int (nar .char 35), .int (nar .char 32), .int (nar .char 84), .int (nar .char 89), .int (nar .char 80), .int (nar .char 69), .int (nar .char 32), .int (nar .char i4), .int (nar .char i5), .int (nar .char 32), .int (nar .char 99), .int (nar .char 111), .int (nar .char 117), .int (nar .char 110), .int (nar .char 116), .int (nar .char 101), .int (nar .char 114), .int (nar .char 10), .int (nar .char i4), .int 0, .int 0, .int 0, .int 0, .int 0, .int 0, .int 0, .int 0, .int 0, .int 0, .int 0, .int 0, .int 0, .int 0, .int 0, .int 0, .int 0, .int 0, .int 0, .int 0, .int 0, .int 0, .int 0] (.int 0) := Arv.set Ar_b4 q_b4 S_b4 N_b4 H_b4 G_b4 (fits_nar_char _) W36 31 rfl (Nat.le_of_ble_eq_true rfl)
  have K36 : Keep h0 h36 [] := K35.wr W36 (Or.inr sz_b4)
  have N36 := Fr.snoc X36 N35 g_b4
  obtain ⟨cl_b4_313, Ar_b4, q_b4, S_b4, N_b4, H_b4, G_b4⟩ := V_b4_36
  have hin313 : ¬ ((32 : Int32) < 0 ∨ cl_b4_313.slots.size ≤ ((32 : Int32)).toNatClampNeg) := inb_of S_b4 ⟨by decide, by decide⟩
  obtain ⟨T37, h37, X37, e37, W37, st37⟩ := stC X36 hx hZ e36 Ar_b4 (j := (32 : Int32)) hin313 (g := (mkF m 313 #[s0, s1, s2, s3, .val (.int i4), .val (.int i5), .val (.int i6), .val (.int i7), s8, s9, s10, s11, s12, s13, s14, s15, s16, s17] [.int i5, .int 32, .ref b4, .ref b4])) rfl rfl (hb hby at_313)
  have V_b4_37 : Arv Z h37 b4 k4 .char (55 : Int32) [.int (nar .char 35), .int (nar .char 32), .int (nar .char 72), .int (nar .char 69), .int (nar .char 76), .int (nar .char 80), .int (nar .char 32), .int (nar .char i4), .int (nar .char i5), .int (nar .char 32), .int (nar .char i6), .int (nar .char i7), .int (nar .char 10), .int (nar .char 35), .int (nar .char 32), .int (nar .char 84), .int (nar .char 89), .int (nar .char 80), .int (nar .char 69), .int (nar .char 32), .int (nar .char i4), .int (nar .char i5), .int (nar .char 32), .int (nar .char 99), .int (nar .char 111), .int (nar .char 117), .int (nar .char 110), .int (nar .char 116), .int (nar .char 101), .int (nar .char 114), .int (nar .char 10), .int (nar .char i4), .int (nar .char i5), .int 0, .int 0, .int 0, .int 0, .int 0, .int 0, .int 0, .int 0, .int 0, .int 0, .int 0, .int 0, .int 0, .int 0, .int 0, .int 0, .int 0, .int 0, .int 0, .int 0, .int 0, .int 0] (.int 0) := Arv.set Ar_b4 q_b4 S_b4 N_b4 H_b4 G_b4 (fits_nar_char _) W37 32 rfl (Nat.le_of_ble_eq_true rfl)
  have K37 : Keep h0 h37 [] := K36.wr W37 (Or.inr sz_b4)
  have N37 := Fr.snoc X37 N36 g_b4
  obtain ⟨cl_b4_319, Ar_b4, q_b4, S_b4, N_b4, H_b4, G_b4⟩ := V_b4_37
  have hin319 : ¬ ((33 : Int32) < 0 ∨ cl_b4_319.slots.size ≤ ((33 : Int32)).toNatClampNeg) := inb_of S_b4 ⟨by decide, by decide⟩
  obtain ⟨T38, h38, X38, e38, W38, st38⟩ := stC X37 hx hZ e37 Ar_b4 (j := (33 : Int32)) hin319 (g := (mkF m 319 #[s0, s1, s2, s3, .val (.int i4), .val (.int i5), .val (.int i6), .val (.int i7), s8, s9, s10, s11, s12, s13, s14, s15, s16, s17] [.int 32, .int 33, .ref b4, .ref b4])) rfl rfl (hb hby at_319)
  have V_b4_38 : Arv Z h38 b4 k4 .char (55 : Int32) [.int (nar .char 35), .int (nar .char 32), .int (nar .char 72), .int (nar .char 69), .int (nar .char 76), .int (nar .char 80), .int (nar .char 32), .int (nar .char i4), .int (nar .char i5), .int (nar .char 32), .int (nar .char i6), .int (nar .char i7), .int (nar .char 10), .int (nar .char 35), .int (nar .char 32), .int (nar .char 84), .int (nar .char 89), .int (nar .char 80), .int (nar .char 69), .int (nar .char 32), .int (nar .char i4), .int (nar .char i5), .int (nar .char 32), .int (nar .char 99), .int (nar .char 111), .int (nar .char 117), .int (nar .char 110), .int (nar .char 116), .int (nar .char 101), .int (nar .char 114), .int (nar .char 10), .int (nar .char i4), .int (nar .char i5), .int (nar .char 32), .int 0, .int 0, .int 0, .int 0, .int 0, .int 0, .int 0, .int 0, .int 0, .int 0, .int 0, .int 0, .int 0, .int 0, .int 0, .int 0, .int 0, .int 0, .int 0, .int 0, .int 0] (.int 0) := Arv.set Ar_b4 q_b4 S_b4 N_b4 H_b4 G_b4 (fits_nar_char _) W38 33 rfl (Nat.le_of_ble_eq_true rfl)
  have K38 : Keep h0 h38 [] := K37.wr W38 (Or.inr sz_b4)
  have N38 := Fr.snoc X38 N37 g_b4
  obtain ⟨cl_b4_324, Ar_b4, q_b4, S_b4, N_b4, H_b4, G_b4⟩ := V_b4_38
  have hin324 : ¬ ((34 : Int32) < 0 ∨ cl_b4_324.slots.size ≤ ((34 : Int32)).toNatClampNeg) := inb_of S_b4 ⟨by decide, by decide⟩
  obtain ⟨T39, h39, X39, e39, W39, st39⟩ := stC X38 hx hZ e38 Ar_b4 (j := (34 : Int32)) hin324 (g := (mkF m 324 #[s0, s1, s2, s3, .val (.int i4), .val (.int i5), .val (.int i6), .val (.int i7), s8, s9, s10, s11, s12, s13, s14, s15, s16, s17] [.int 0, .int 34, .ref b4, .ref b4])) rfl rfl (hb hby at_324)
  have V_b4_39 : Arv Z h39 b4 k4 .char (55 : Int32) [.int (nar .char 35), .int (nar .char 32), .int (nar .char 72), .int (nar .char 69), .int (nar .char 76), .int (nar .char 80), .int (nar .char 32), .int (nar .char i4), .int (nar .char i5), .int (nar .char 32), .int (nar .char i6), .int (nar .char i7), .int (nar .char 10), .int (nar .char 35), .int (nar .char 32), .int (nar .char 84), .int (nar .char 89), .int (nar .char 80), .int (nar .char 69), .int (nar .char 32), .int (nar .char i4), .int (nar .char i5), .int (nar .char 32), .int (nar .char 99), .int (nar .char 111), .int (nar .char 117), .int (nar .char 110), .int (nar .char 116), .int (nar .char 101), .int (nar .char 114), .int (nar .char 10), .int (nar .char i4), .int (nar .char i5), .int (nar .char 32), .int (nar .char 0), .int 0, .int 0, .int 0, .int 0, .int 0, .int 0, .int 0, .int 0, .int 0, .int 0, .int 0, .int 0, .int 0, .int 0, .int 0, .int 0, .int 0, .int 0, .int 0, .int 0] (.int 0) := Arv.set Ar_b4 q_b4 S_b4 N_b4 H_b4 G_b4 (fits_nar_char _) W39 34 rfl (Nat.le_of_ble_eq_true rfl)
  have K39 : Keep h0 h39 [] := K38.wr W39 (Or.inr sz_b4)
  have N39 := Fr.snoc X39 N38 g_b4
  obtain ⟨cl_b4_329, Ar_b4, q_b4, S_b4, N_b4, H_b4, G_b4⟩ := V_b4_39
  have hin329 : ¬ ((35 : Int32) < 0 ∨ cl_b4_329.slots.size ≤ ((35 : Int32)).toNatClampNeg) := inb_of S_b4 ⟨by decide, by decide⟩
  obtain ⟨T40, h40, X40, e40, W40, st40⟩ := stC X39 hx hZ e39 Ar_b4 (j := (35 : Int32)) hin329 (g := (mkF m 329 #[s0, s1, s2, s3, .val (.int i4), .val (.int i5), .val (.int i6), .val (.int i7), s8, s9, s10, s11, s12, s13, s14, s15, s16, s17] [.int 0, .int 35, .ref b4, .ref b4])) rfl rfl (hb hby at_329)
  have V_b4_40 : Arv Z h40 b4 k4 .char (55 : Int32) [.int (nar .char 35), .int (nar .char 32), .int (nar .char 72), .int (nar .char 69), .int (nar .char 76), .int (nar .char 80), .int (nar .char 32), .int (nar .char i4), .int (nar .char i5), .int (nar .char 32), .int (nar .char i6), .int (nar .char i7), .int (nar .char 10), .int (nar .char 35), .int (nar .char 32), .int (nar .char 84), .int (nar .char 89), .int (nar .char 80), .int (nar .char 69), .int (nar .char 32), .int (nar .char i4), .int (nar .char i5), .int (nar .char 32), .int (nar .char 99), .int (nar .char 111), .int (nar .char 117), .int (nar .char 110), .int (nar .char 116), .int (nar .char 101), .int (nar .char 114), .int (nar .char 10), .int (nar .char i4), .int (nar .char i5), .int (nar .char 32), .int (nar .char 0), .int (nar .char 0), .int 0, .int 0, .int 0, .int 0, .int 0, .int 0, .int 0, .int 0, .int 0, .int 0, .int 0, .int 0, .int 0, .int 0, .int 0, .int 0, .int 0, .int 0, .int 0] (.int 0) := Arv.set Ar_b4 q_b4 S_b4 N_b4 H_b4 G_b4 (fits_nar_char _) W40 35 rfl (Nat.le_of_ble_eq_true rfl)
  have K40 : Keep h0 h40 [] := K39.wr W40 (Or.inr sz_b4)
  have N40 := Fr.snoc X40 N39 g_b4
  obtain ⟨cl_b4_334, Ar_b4, q_b4, S_b4, N_b4, H_b4, G_b4⟩ := V_b4_40
  have hin334 : ¬ ((36 : Int32) < 0 ∨ cl_b4_334.slots.size ≤ ((36 : Int32)).toNatClampNeg) := inb_of S_b4 ⟨by decide, by decide⟩
  obtain ⟨T41, h41, X41, e41, W41, st41⟩ := stC X40 hx hZ e40 Ar_b4 (j := (36 : Int32)) hin334 (g := (mkF m 334 #[s0, s1, s2, s3, .val (.int i4), .val (.int i5), .val (.int i6), .val (.int i7), s8, s9, s10, s11, s12, s13, s14, s15, s16, s17] [.int 0, .int 36, .ref b4, .ref b4])) rfl rfl (hb hby at_334)
  have V_b4_41 : Arv Z h41 b4 k4 .char (55 : Int32) [.int (nar .char 35), .int (nar .char 32), .int (nar .char 72), .int (nar .char 69), .int (nar .char 76), .int (nar .char 80), .int (nar .char 32), .int (nar .char i4), .int (nar .char i5), .int (nar .char 32), .int (nar .char i6), .int (nar .char i7), .int (nar .char 10), .int (nar .char 35), .int (nar .char 32), .int (nar .char 84), .int (nar .char 89), .int (nar .char 80), .int (nar .char 69), .int (nar .char 32), .int (nar .char i4), .int (nar .char i5), .int (nar .char 32), .int (nar .char 99), .int (nar .char 111), .int (nar .char 117), .int (nar .char 110), .int (nar .char 116), .int (nar .char 101), .int (nar .char 114), .int (nar .char 10), .int (nar .char i4), .int (nar .char i5), .int (nar .char 32), .int (nar .char 0), .int (nar .char 0), .int (nar .char 0), .int 0, .int 0, .int 0, .int 0, .int 0, .int 0, .int 0, .int 0, .int 0, .int 0, .int 0, .int 0, .int 0, .int 0, .int 0, .int 0, .int 0, .int 0] (.int 0) := Arv.set Ar_b4 q_b4 S_b4 N_b4 H_b4 G_b4 (fits_nar_char _) W41 36 rfl (Nat.le_of_ble_eq_true rfl)
  have K41 : Keep h0 h41 [] := K40.wr W41 (Or.inr sz_b4)
  have N41 := Fr.snoc X41 N40 g_b4
  obtain ⟨cl_b4_339, Ar_b4, q_b4, S_b4, N_b4, H_b4, G_b4⟩ := V_b4_41
  have hin339 : ¬ ((37 : Int32) < 0 ∨ cl_b4_339.slots.size ≤ ((37 : Int32)).toNatClampNeg) := inb_of S_b4 ⟨by decide, by decide⟩
  obtain ⟨T42, h42, X42, e42, W42, st42⟩ := stC X41 hx hZ e41 Ar_b4 (j := (37 : Int32)) hin339 (g := (mkF m 339 #[s0, s1, s2, s3, .val (.int i4), .val (.int i5), .val (.int i6), .val (.int i7), s8, s9, s10, s11, s12, s13, s14, s15, s16, s17] [.int 0, .int 37, .ref b4, .ref b4])) rfl rfl (hb hby at_339)
  have V_b4_42 : Arv Z h42 b4 k4 .char (55 : Int32) [.int (nar .char 35), .int (nar .char 32), .int (nar .char 72), .int (nar .char 69), .int (nar .char 76), .int (nar .char 80), .int (nar .char 32), .int (nar .char i4), .int (nar .char i5), .int (nar .char 32), .int (nar .char i6), .int (nar .char i7), .int (nar .char 10), .int (nar .char 35), .int (nar .char 32), .int (nar .char 84), .int (nar .char 89), .int (nar .char 80), .int (nar .char 69), .int (nar .char 32), .int (nar .char i4), .int (nar .char i5), .int (nar .char 32), .int (nar .char 99), .int (nar .char 111), .int (nar .char 117), .int (nar .char 110), .int (nar .char 116), .int (nar .char 101), .int (nar .char 114), .int (nar .char 10), .int (nar .char i4), .int (nar .char i5), .int (nar .char 32), .int (nar .char 0), .int (nar .char 0), .int (nar .char 0), .int (nar .char 0), .int 0, .int 0, .int 0, .int 0, .int 0, .int 0, .int 0, .int 0, .int 0, .int 0, .int 0, .int 0, .int 0, .int 0, .int 0, .int 0, .int 0] (.int 0) := Arv.set Ar_b4 q_b4 S_b4 N_b4 H_b4 G_b4 (fits_nar_char _) W42 37 rfl (Nat.le_of_ble_eq_true rfl)
  have K42 : Keep h0 h42 [] := K41.wr W42 (Or.inr sz_b4)
  have N42 := Fr.snoc X42 N41 g_b4
  obtain ⟨cl_b4_344, Ar_b4, q_b4, S_b4, N_b4, H_b4, G_b4⟩ := V_b4_42
  have hin344 : ¬ ((38 : Int32) < 0 ∨ cl_b4_344.slots.size ≤ ((38 : Int32)).toNatClampNeg) := inb_of S_b4 ⟨by decide, by decide⟩
  obtain ⟨T43, h43, X43, e43, W43, st43⟩ := stC X42 hx hZ e42 Ar_b4 (j := (38 : Int32)) hin344 (g := (mkF m 344 #[s0, s1, s2, s3, .val (.int i4), .val (.int i5), .val (.int i6), .val (.int i7), s8, s9, s10, s11, s12, s13, s14, s15, s16, s17] [.int 0, .int 38, .ref b4, .ref b4])) rfl rfl (hb hby at_344)
  have V_b4_43 : Arv Z h43 b4 k4 .char (55 : Int32) [.int (nar .char 35), .int (nar .char 32), .int (nar .char 72), .int (nar .char 69), .int (nar .char 76), .int (nar .char 80), .int (nar .char 32), .int (nar .char i4), .int (nar .char i5), .int (nar .char 32), .int (nar .char i6), .int (nar .char i7), .int (nar .char 10), .int (nar .char 35), .int (nar .char 32), .int (nar .char 84), .int (nar .char 89), .int (nar .char 80), .int (nar .char 69), .int (nar .char 32), .int (nar .char i4), .int (nar .char i5), .int (nar .char 32), .int (nar .char 99), .int (nar .char 111), .int (nar .char 117), .int (nar .char 110), .int (nar .char 116), .int (nar .char 101), .int (nar .char 114), .int (nar .char 10), .int (nar .char i4), .int (nar .char i5), .int (nar .char 32), .int (nar .char 0), .int (nar .char 0), .int (nar .char 0), .int (nar .char 0), .int (nar .char 0), .int 0, .int 0, .int 0, .int 0, .int 0, .int 0, .int 0, .int 0, .int 0, .int 0, .int 0, .int 0, .int 0, .int 0, .int 0, .int 0] (.int 0) := Arv.set Ar_b4 q_b4 S_b4 N_b4 H_b4 G_b4 (fits_nar_char _) W43 38 rfl (Nat.le_of_ble_eq_true rfl)
  have K43 : Keep h0 h43 [] := K42.wr W43 (Or.inr sz_b4)
  have N43 := Fr.snoc X43 N42 g_b4
  obtain ⟨cl_b4_349, Ar_b4, q_b4, S_b4, N_b4, H_b4, G_b4⟩ := V_b4_43
  have hin349 : ¬ ((39 : Int32) < 0 ∨ cl_b4_349.slots.size ≤ ((39 : Int32)).toNatClampNeg) := inb_of S_b4 ⟨by decide, by decide⟩
  obtain ⟨T44, h44, X44, e44, W44, st44⟩ := stC X43 hx hZ e43 Ar_b4 (j := (39 : Int32)) hin349 (g := (mkF m 349 #[s0, s1, s2, s3, .val (.int i4), .val (.int i5), .val (.int i6), .val (.int i7), s8, s9, s10, s11, s12, s13, s14, s15, s16, s17] [.int 0, .int 39, .ref b4, .ref b4])) rfl rfl (hb hby at_349)
  have V_b4_44 : Arv Z h44 b4 k4 .char (55 : Int32) [.int (nar .char 35), .int (nar .char 32), .int (nar .char 72), .int (nar .char 69), .int (nar .char 76), .int (nar .char 80), .int (nar .char 32), .int (nar .char i4), .int (nar .char i5), .int (nar .char 32), .int (nar .char i6), .int (nar .char i7), .int (nar .char 10), .int (nar .char 35), .int (nar .char 32), .int (nar .char 84), .int (nar .char 89), .int (nar .char 80), .int (nar .char 69), .int (nar .char 32), .int (nar .char i4), .int (nar .char i5), .int (nar .char 32), .int (nar .char 99), .int (nar .char 111), .int (nar .char 117), .int (nar .char 110), .int (nar .char 116), .int (nar .char 101), .int (nar .char 114), .int (nar .char 10), .int (nar .char i4), .int (nar .char i5), .int (nar .char 32), .int (nar .char 0), .int (nar .char 0), .int (nar .char 0), .int (nar .char 0), .int (nar .char 0), .int (nar .char 0), .int 0, .int 0, .int 0, .int 0, .int 0, .int 0, .int 0, .int 0, .int 0, .int 0, .int 0, .int 0, .int 0, .int 0, .int 0] (.int 0) := Arv.set Ar_b4 q_b4 S_b4 N_b4 H_b4 G_b4 (fits_nar_char _) W44 39 rfl (Nat.le_of_ble_eq_true rfl)
  have K44 : Keep h0 h44 [] := K43.wr W44 (Or.inr sz_b4)
  have N44 := Fr.snoc X44 N43 g_b4
  obtain ⟨cl_b4_354, Ar_b4, q_b4, S_b4, N_b4, H_b4, G_b4⟩ := V_b4_44
  have hin354 : ¬ ((40 : Int32) < 0 ∨ cl_b4_354.slots.size ≤ ((40 : Int32)).toNatClampNeg) := inb_of S_b4 ⟨by decide, by decide⟩
  obtain ⟨T45, h45, X45, e45, W45, st45⟩ := stC X44 hx hZ e44 Ar_b4 (j := (40 : Int32)) hin354 (g := (mkF m 354 #[s0, s1, s2, s3, .val (.int i4), .val (.int i5), .val (.int i6), .val (.int i7), s8, s9, s10, s11, s12, s13, s14, s15, s16, s17] [.int 0, .int 40, .ref b4, .ref b4])) rfl rfl (hb hby at_354)
  have V_b4_45 : Arv Z h45 b4 k4 .char (55 : Int32) [.int (nar .char 35), .int (nar .char 32), .int (nar .char 72), .int (nar .char 69), .int (nar .char 76), .int (nar .char 80), .int (nar .char 32), .int (nar .char i4), .int (nar .char i5), .int (nar .char 32), .int (nar .char i6), .int (nar .char i7), .int (nar .char 10), .int (nar .char 35), .int (nar .char 32), .int (nar .char 84), .int (nar .char 89), .int (nar .char 80), .int (nar .char 69), .int (nar .char 32), .int (nar .char i4), .int (nar .char i5), .int (nar .char 32), .int (nar .char 99), .int (nar .char 111), .int (nar .char 117), .int (nar .char 110), .int (nar .char 116), .int (nar .char 101), .int (nar .char 114), .int (nar .char 10), .int (nar .char i4), .int (nar .char i5), .int (nar .char 32), .int (nar .char 0), .int (nar .char 0), .int (nar .char 0), .int (nar .char 0), .int (nar .char 0), .int (nar .char 0), .int (nar .char 0), .int 0, .int 0, .int 0, .int 0, .int 0, .int 0, .int 0, .int 0, .int 0, .int 0, .int 0, .int 0, .int 0, .int 0] (.int 0) := Arv.set Ar_b4 q_b4 S_b4 N_b4 H_b4 G_b4 (fits_nar_char _) W45 40 rfl (Nat.le_of_ble_eq_true rfl)
  have K45 : Keep h0 h45 [] := K44.wr W45 (Or.inr sz_b4)
  have N45 := Fr.snoc X45 N44 g_b4
  obtain ⟨cl_b4_359, Ar_b4, q_b4, S_b4, N_b4, H_b4, G_b4⟩ := V_b4_45
  have hin359 : ¬ ((41 : Int32) < 0 ∨ cl_b4_359.slots.size ≤ ((41 : Int32)).toNatClampNeg) := inb_of S_b4 ⟨by decide, by decide⟩
  obtain ⟨T46, h46, X46, e46, W46, st46⟩ := stC X45 hx hZ e45 Ar_b4 (j := (41 : Int32)) hin359 (g := (mkF m 359 #[s0, s1, s2, s3, .val (.int i4), .val (.int i5), .val (.int i6), .val (.int i7), s8, s9, s10, s11, s12, s13, s14, s15, s16, s17] [.int 0, .int 41, .ref b4, .ref b4])) rfl rfl (hb hby at_359)
  have V_b4_46 : Arv Z h46 b4 k4 .char (55 : Int32) [.int (nar .char 35), .int (nar .char 32), .int (nar .char 72), .int (nar .char 69), .int (nar .char 76), .int (nar .char 80), .int (nar .char 32), .int (nar .char i4), .int (nar .char i5), .int (nar .char 32), .int (nar .char i6), .int (nar .char i7), .int (nar .char 10), .int (nar .char 35), .int (nar .char 32), .int (nar .char 84), .int (nar .char 89), .int (nar .char 80), .int (nar .char 69), .int (nar .char 32), .int (nar .char i4), .int (nar .char i5), .int (nar .char 32), .int (nar .char 99), .int (nar .char 111), .int (nar .char 117), .int (nar .char 110), .int (nar .char 116), .int (nar .char 101), .int (nar .char 114), .int (nar .char 10), .int (nar .char i4), .int (nar .char i5), .int (nar .char 32), .int (nar .char 0), .int (nar .char 0), .int (nar .char 0), .int (nar .char 0), .int (nar .char 0), .int (nar .char 0), .int (nar .char 0), .int (nar .char 0), .int 0, .int 0, .int 0, .int 0, .int 0, .int 0, .int 0, .int 0, .int 0, .int 0, .int 0, .int 0, .int 0] (.int 0) := Arv.set Ar_b4 q_b4 S_b4 N_b4 H_b4 G_b4 (fits_nar_char _) W46 41 rfl (Nat.le_of_ble_eq_true rfl)
  have K46 : Keep h0 h46 [] := K45.wr W46 (Or.inr sz_b4)
  have N46 := Fr.snoc X46 N45 g_b4
  obtain ⟨cl_b4_364, Ar_b4, q_b4, S_b4, N_b4, H_b4, G_b4⟩ := V_b4_46
  have hin364 : ¬ ((42 : Int32) < 0 ∨ cl_b4_364.slots.size ≤ ((42 : Int32)).toNatClampNeg) := inb_of S_b4 ⟨by decide, by decide⟩
  obtain ⟨T47, h47, X47, e47, W47, st47⟩ := stC X46 hx hZ e46 Ar_b4 (j := (42 : Int32)) hin364 (g := (mkF m 364 #[s0, s1, s2, s3, .val (.int i4), .val (.int i5), .val (.int i6), .val (.int i7), s8, s9, s10, s11, s12, s13, s14, s15, s16, s17] [.int 0, .int 42, .ref b4, .ref b4])) rfl rfl (hb hby at_364)
  have V_b4_47 : Arv Z h47 b4 k4 .char (55 : Int32) [.int (nar .char 35), .int (nar .char 32), .int (nar .char 72), .int (nar .char 69), .int (nar .char 76), .int (nar .char 80), .int (nar .char 32), .int (nar .char i4), .int (nar .char i5), .int (nar .char 32), .int (nar .char i6), .int (nar .char i7), .int (nar .char 10), .int (nar .char 35), .int (nar .char 32), .int (nar .char 84), .int (nar .char 89), .int (nar .char 80), .int (nar .char 69), .int (nar .char 32), .int (nar .char i4), .int (nar .char i5), .int (nar .char 32), .int (nar .char 99), .int (nar .char 111), .int (nar .char 117), .int (nar .char 110), .int (nar .char 116), .int (nar .char 101), .int (nar .char 114), .int (nar .char 10), .int (nar .char i4), .int (nar .char i5), .int (nar .char 32), .int (nar .char 0), .int (nar .char 0), .int (nar .char 0), .int (nar .char 0), .int (nar .char 0), .int (nar .char 0), .int (nar .char 0), .int (nar .char 0), .int (nar .char 0), .int 0, .int 0, .int 0, .int 0, .int 0, .int 0, .int 0, .int 0, .int 0, .int 0, .int 0, .int 0] (.int 0) := Arv.set Ar_b4 q_b4 S_b4 N_b4 H_b4 G_b4 (fits_nar_char _) W47 42 rfl (Nat.le_of_ble_eq_true rfl)
  have K47 : Keep h0 h47 [] := K46.wr W47 (Or.inr sz_b4)
  have N47 := Fr.snoc X47 N46 g_b4
  obtain ⟨cl_b4_369, Ar_b4, q_b4, S_b4, N_b4, H_b4, G_b4⟩ := V_b4_47
  have hin369 : ¬ ((43 : Int32) < 0 ∨ cl_b4_369.slots.size ≤ ((43 : Int32)).toNatClampNeg) := inb_of S_b4 ⟨by decide, by decide⟩
  obtain ⟨T48, h48, X48, e48, W48, st48⟩ := stC X47 hx hZ e47 Ar_b4 (j := (43 : Int32)) hin369 (g := (mkF m 369 #[s0, s1, s2, s3, .val (.int i4), .val (.int i5), .val (.int i6), .val (.int i7), s8, s9, s10, s11, s12, s13, s14, s15, s16, s17] [.int 0, .int 43, .ref b4, .ref b4])) rfl rfl (hb hby at_369)
  have V_b4_48 : Arv Z h48 b4 k4 .char (55 : Int32) [.int (nar .char 35), .int (nar .char 32), .int (nar .char 72), .int (nar .char 69), .int (nar .char 76), .int (nar .char 80), .int (nar .char 32), .int (nar .char i4), .int (nar .char i5), .int (nar .char 32), .int (nar .char i6), .int (nar .char i7), .int (nar .char 10), .int (nar .char 35), .int (nar .char 32), .int (nar .char 84), .int (nar .char 89), .int (nar .char 80), .int (nar .char 69), .int (nar .char 32), .int (nar .char i4), .int (nar .char i5), .int (nar .char 32), .int (nar .char 99), .int (nar .char 111), .int (nar .char 117), .int (nar .char 110), .int (nar .char 116), .int (nar .char 101), .int (nar .char 114), .int (nar .char 10), .int (nar .char i4), .int (nar .char i5), .int (nar .char 32), .int (nar .char 0), .int (nar .char 0), .int (nar .char 0), .int (nar .char 0), .int (nar .char 0), .int (nar .char 0), .int (nar .char 0), .int (nar .char 0), .int (nar .char 0), .int (nar .char 0), .int 0, .int 0, .int 0, .int 0, .int 0, .int 0, .int 0, .int 0, .int 0, .int 0, .int 0] (.int 0) := Arv.set Ar_b4 q_b4 S_b4 N_b4 H_b4 G_b4 (fits_nar_char _) W48 43 rfl (Nat.le_of_ble_eq_true rfl)
  have K48 : Keep h0 h48 [] := K47.wr W48 (Or.inr sz_b4)
  have N48 := Fr.snoc X48 N47 g_b4
  obtain ⟨cl_b4_374, Ar_b4, q_b4, S_b4, N_b4, H_b4, G_b4⟩ := V_b4_48
  have hin374 : ¬ ((44 : Int32) < 0 ∨ cl_b4_374.slots.size ≤ ((44 : Int32)).toNatClampNeg) := inb_of S_b4 ⟨by decide, by decide⟩
  obtain ⟨T49, h49, X49, e49, W49, st49⟩ := stC X48 hx hZ e48 Ar_b4 (j := (44 : Int32)) hin374 (g := (mkF m 374 #[s0, s1, s2, s3, .val (.int i4), .val (.int i5), .val (.int i6), .val (.int i7), s8, s9, s10, s11, s12, s13, s14, s15, s16, s17] [.int 0, .int 44, .ref b4, .ref b4])) rfl rfl (hb hby at_374)
  have V_b4_49 : Arv Z h49 b4 k4 .char (55 : Int32) [.int (nar .char 35), .int (nar .char 32), .int (nar .char 72), .int (nar .char 69), .int (nar .char 76), .int (nar .char 80), .int (nar .char 32), .int (nar .char i4), .int (nar .char i5), .int (nar .char 32), .int (nar .char i6), .int (nar .char i7), .int (nar .char 10), .int (nar .char 35), .int (nar .char 32), .int (nar .char 84), .int (nar .char 89), .int (nar .char 80), .int (nar .char 69), .int (nar .char 32), .int (nar .char i4), .int (nar .char i5), .int (nar .char 32), .int (nar .char 99), .int (nar .char 111), .int (nar .char 117), .int (nar .char 110), .int (nar .char 116), .int (nar .char 101), .int (nar .char 114), .int (nar .char 10), .int (nar .char i4), .int (nar .char i5), .int (nar .char 32), .int (nar .char 0), .int (nar .char 0), .int (nar .char 0), .int (nar .char 0), .int (nar .char 0), .int (nar .char 0), .int (nar .char 0), .int (nar .char 0), .int (nar .char 0), .int (nar .char 0), .int (nar .char 0), .int 0, .int 0, .int 0, .int 0, .int 0, .int 0, .int 0, .int 0, .int 0, .int 0] (.int 0) := Arv.set Ar_b4 q_b4 S_b4 N_b4 H_b4 G_b4 (fits_nar_char _) W49 44 rfl (Nat.le_of_ble_eq_true rfl)
  have K49 : Keep h0 h49 [] := K48.wr W49 (Or.inr sz_b4)
  have N49 := Fr.snoc X49 N48 g_b4
  obtain ⟨cl_b4_379, Ar_b4, q_b4, S_b4, N_b4, H_b4, G_b4⟩ := V_b4_49
  have hin379 : ¬ ((45 : Int32) < 0 ∨ cl_b4_379.slots.size ≤ ((45 : Int32)).toNatClampNeg) := inb_of S_b4 ⟨by decide, by decide⟩
  obtain ⟨T50, h50, X50, e50, W50, st50⟩ := stC X49 hx hZ e49 Ar_b4 (j := (45 : Int32)) hin379 (g := (mkF m 379 #[s0, s1, s2, s3, .val (.int i4), .val (.int i5), .val (.int i6), .val (.int i7), s8, s9, s10, s11, s12, s13, s14, s15, s16, s17] [.int 0, .int 45, .ref b4, .ref b4])) rfl rfl (hb hby at_379)
  have V_b4_50 : Arv Z h50 b4 k4 .char (55 : Int32) [.int (nar .char 35), .int (nar .char 32), .int (nar .char 72), .int (nar .char 69), .int (nar .char 76), .int (nar .char 80), .int (nar .char 32), .int (nar .char i4), .int (nar .char i5), .int (nar .char 32), .int (nar .char i6), .int (nar .char i7), .int (nar .char 10), .int (nar .char 35), .int (nar .char 32), .int (nar .char 84), .int (nar .char 89), .int (nar .char 80), .int (nar .char 69), .int (nar .char 32), .int (nar .char i4), .int (nar .char i5), .int (nar .char 32), .int (nar .char 99), .int (nar .char 111), .int (nar .char 117), .int (nar .char 110), .int (nar .char 116), .int (nar .char 101), .int (nar .char 114), .int (nar .char 10), .int (nar .char i4), .int (nar .char i5), .int (nar .char 32), .int (nar .char 0), .int (nar .char 0), .int (nar .char 0), .int (nar .char 0), .int (nar .char 0), .int (nar .char 0), .int (nar .char 0), .int (nar .char 0), .int (nar .char 0), .int (nar .char 0), .int (nar .char 0), .int (nar .char 0), .int 0, .int 0, .int 0, .int 0, .int 0, .int 0, .int 0, .int 0, .int 0] (.int 0) := Arv.set Ar_b4 q_b4 S_b4 N_b4 H_b4 G_b4 (fits_nar_char _) W50 45 rfl (Nat.le_of_ble_eq_true rfl)
  have K50 : Keep h0 h50 [] := K49.wr W50 (Or.inr sz_b4)
  have N50 := Fr.snoc X50 N49 g_b4
  obtain ⟨cl_b4_384, Ar_b4, q_b4, S_b4, N_b4, H_b4, G_b4⟩ := V_b4_50
  have hin384 : ¬ ((46 : Int32) < 0 ∨ cl_b4_384.slots.size ≤ ((46 : Int32)).toNatClampNeg) := inb_of S_b4 ⟨by decide, by decide⟩
  obtain ⟨T51, h51, X51, e51, W51, st51⟩ := stC X50 hx hZ e50 Ar_b4 (j := (46 : Int32)) hin384 (g := (mkF m 384 #[s0, s1, s2, s3, .val (.int i4), .val (.int i5), .val (.int i6), .val (.int i7), s8, s9, s10, s11, s12, s13, s14, s15, s16, s17] [.int 0, .int 46, .ref b4, .ref b4])) rfl rfl (hb hby at_384)
  have V_b4_51 : Arv Z h51 b4 k4 .char (55 : Int32) [.int (nar .char 35), .int (nar .char 32), .int (nar .char 72), .int (nar .char 69), .int (nar .char 76), .int (nar .char 80), .int (nar .char 32), .int (nar .char i4), .int (nar .char i5), .int (nar .char 32), .int (nar .char i6), .int (nar .char i7), .int (nar .char 10), .int (nar .char 35), .int (nar .char 32), .int (nar .char 84), .int (nar .char 89), .int (nar .char 80), .int (nar .char 69), .int (nar .char 32), .int (nar .char i4), .int (nar .char i5), .int (nar .char 32), .int (nar .char 99), .int (nar .char 111), .int (nar .char 117), .int (nar .char 110), .int (nar .char 116), .int (nar .char 101), .int (nar .char 114), .int (nar .char 10), .int (nar .char i4), .int (nar .char i5), .int (nar .char 32), .int (nar .char 0), .int (nar .char 0), .int (nar .char 0), .int (nar .char 0), .int (nar .char 0), .int (nar .char 0), .int (nar .char 0), .int (nar .char 0), .int (nar .char 0), .int (nar .char 0), .int (nar .char 0), .int (nar .char 0), .int (nar .char 0), .int 0, .int 0, .int 0, .int 0, .int 0, .int 0, .int 0, .int 0] (.int 0) := Arv.set Ar_b4 q_b4 S_b4 N_b4 H_b4 G_b4 (fits_nar_char _) W51 46 rfl (Nat.le_of_ble_eq_true rfl)
  have K51 : Keep h0 h51 [] := K50.wr W51 (Or.inr sz_b4)
  have N51 := Fr.snoc X51 N50 g_b4
  obtain ⟨cl_b4_389, Ar_b4, q_b4, S_b4, N_b4, H_b4, G_b4⟩ := V_b4_51
  have hin389 : ¬ ((47 : Int32) < 0 ∨ cl_b4_389.slots.size ≤ ((47 : Int32)).toNatClampNeg) := inb_of S_b4 ⟨by decide, by decide⟩
  obtain ⟨T52, h52, X52, e52, W52, st52⟩ := stC X51 hx hZ e51 Ar_b4 (j := (47 : Int32)) hin389 (g := (mkF m 389 #[s0, s1, s2, s3, .val (.int i4), .val (.int i5), .val (.int i6), .val (.int i7), s8, s9, s10, s11, s12, s13, s14, s15, s16, s17] [.int 0, .int 47, .ref b4, .ref b4])) rfl rfl (hb hby at_389)
  have V_b4_52 : Arv Z h52 b4 k4 .char (55 : Int32) [.int (nar .char 35), .int (nar .char 32), .int (nar .char 72), .int (nar .char 69), .int (nar .char 76), .int (nar .char 80), .int (nar .char 32), .int (nar .char i4), .int (nar .char i5), .int (nar .char 32), .int (nar .char i6), .int (nar .char i7), .int (nar .char 10), .int (nar .char 35), .int (nar .char 32), .int (nar .char 84), .int (nar .char 89), .int (nar .char 80), .int (nar .char 69), .int (nar .char 32), .int (nar .char i4), .int (nar .char i5), .int (nar .char 32), .int (nar .char 99), .int (nar .char 111), .int (nar .char 117), .int (nar .char 110), .int (nar .char 116), .int (nar .char 101), .int (nar .char 114), .int (nar .char 10), .int (nar .char i4), .int (nar .char i5), .int (nar .char 32), .int (nar .char 0), .int (nar .char 0), .int (nar .char 0), .int (nar .char 0), .int (nar .char 0), .int (nar .char 0), .int (nar .char 0), .int (nar .char 0), .int (nar .char 0), .int (nar .char 0), .int (nar .char 0), .int (nar .char 0), .int (nar .char 0), .int (nar .char 0), .int 0, .int 0, .int 0, .int 0, .int 0, .int 0, .int 0] (.int 0) := Arv.set Ar_b4 q_b4 S_b4 N_b4 H_b4 G_b4 (fits_nar_char _) W52 47 rfl (Nat.le_of_ble_eq_true rfl)
  have K52 : Keep h0 h52 [] := K51.wr W52 (Or.inr sz_b4)
  have N52 := Fr.snoc X52 N51 g_b4
  obtain ⟨cl_b4_394, Ar_b4, q_b4, S_b4, N_b4, H_b4, G_b4⟩ := V_b4_52
  have hin394 : ¬ ((48 : Int32) < 0 ∨ cl_b4_394.slots.size ≤ ((48 : Int32)).toNatClampNeg) := inb_of S_b4 ⟨by decide, by decide⟩
  obtain ⟨T53, h53, X53, e53, W53, st53⟩ := stC X52 hx hZ e52 Ar_b4 (j := (48 : Int32)) hin394 (g := (mkF m 394 #[s0, s1, s2, s3, .val (.int i4), .val (.int i5), .val (.int i6), .val (.int i7), s8, s9, s10, s11, s12, s13, s14, s15, s16, s17] [.int 0, .int 48, .ref b4, .ref b4])) rfl rfl (hb hby at_394)
  have V_b4_53 : Arv Z h53 b4 k4 .char (55 : Int32) [.int (nar .char 35), .int (nar .char 32), .int (nar .char 72), .int (nar .char 69), .int (nar .char 76), .int (nar .char 80), .int (nar .char 32), .int (nar .char i4), .int (nar .char i5), .int (nar .char 32), .int (nar .char i6), .int (nar .char i7), .int (nar .char 10), .int (nar .char 35), .int (nar .char 32), .int (nar .char 84), .int (nar .char 89), .int (nar .char 80), .int (nar .char 69), .int (nar .char 32), .int (nar .char i4), .int (nar .char i5), .int (nar .char 32), .int (nar .char 99), .int (nar .char 111), .int (nar .char 117), .int (nar .char 110), .int (nar .char 116), .int (nar .char 101), .int (nar .char 114), .int (nar .char 10), .int (nar .char i4), .int (nar .char i5), .int (nar .char 32), .int (nar .char 0), .int (nar .char 0), .int (nar .char 0), .int (nar .char 0), .int (nar .char 0), .int (nar .char 0), .int (nar .char 0), .int (nar .char 0), .int (nar .char 0), .int (nar .char 0), .int (nar .char 0), .int (nar .char 0), .int (nar .char 0), .int (nar .char 0), .int (nar .char 0), .int 0, .int 0, .int 0, .int 0, .int 0, .int 0] (.int 0) := Arv.set Ar_b4 q_b4 S_b4 N_b4 H_b4 G_b4 (fits_nar_char _) W53 48 rfl (Nat.le_of_ble_eq_true rfl)
  have K53 : Keep h0 h53 [] := K52.wr W53 (Or.inr sz_b4)
  have N53 := Fr.snoc X53 N52 g_b4
  obtain ⟨cl_b4_399, Ar_b4, q_b4, S_b4, N_b4, H_b4, G_b4⟩ := V_b4_53
  have hin399 : ¬ ((49 : Int32) < 0 ∨ cl_b4_399.slots.size ≤ ((49 : Int32)).toNatClampNeg) := inb_of S_b4 ⟨by decide, by decide⟩
  obtain ⟨T54, h54, X54, e54, W54, st54⟩ := stC X53 hx hZ e53 Ar_b4 (j := (49 : Int32)) hin399 (g := (mkF m 399 #[s0, s1, s2, s3, .val (.int i4), .val (.int i5), .val (.int i6), .val (.int i7), s8, s9, s10, s11, s12, s13, s14, s15, s16, s17] [.int 0, .int 49, .ref b4, .ref b4])) rfl rfl (hb hby at_399)
  have V_b4_54 : Arv Z h54 b4 k4 .char (55 : Int32) [.int (nar .char 35), .int (nar .char 32), .int (nar .char 72), .int (nar .char 69), .int (nar .char 76), .int (nar .char 80), .int (nar .char 32), .int (nar .char i4), .int (nar .char i5), .int (nar .char 32), .int (nar .char i6), .int (nar .char i7), .int (nar .char 10), .int (nar .char 35), .int (nar .char 32), .int (nar .char 84), .int (nar .char 89), .int (nar .char 80), .int (nar .char 69), .int (nar .char 32), .int (nar .char i4), .int (nar .char i5), .int (nar .char 32), .int (nar .char 99), .int (nar .char 111), .int (nar .char 117), .int (nar .char 110), .int (nar .char 116), .int (nar .char 101), .int (nar .char 114), .int (nar .char 10), .int (nar .char i4), .int (nar .char i5), .int (nar .char 32), .int (nar .char 0), .int (nar .char 0), .int (nar .char 0), .int (nar .char 0), .int (nar .char 0), .int (nar .char 0), .int (nar .char 0), .int (nar .char 0), .int (nar .char 0), .int (nar .char 0), .int (nar .char 0), .int (nar .char 0), .int (nar .char 0), .int (nar .char 0), .int (nar .char 0), .int (nar .char 0), .int 0, .int 0, .int 0, .int 0, .int 0] (.int 0) := Arv.set Ar_b4 q_b4 S_b4 N_b4 H_b4 G_b4 (fits_nar_char _) W54 49 rfl (Nat.le_of_ble_eq_true rfl)
  have K54 : Keep h0 h54 [] := K53.wr W54 (Or.inr sz_b4)
  have N54 := Fr.snoc X54 N53 g_b4
  obtain ⟨cl_b4_404, Ar_b4, q_b4, S_b4, N_b4, H_b4, G_b4⟩ := V_b4_54
  have hin404 : ¬ ((50 : Int32) < 0 ∨ cl_b4_404.slots.size ≤ ((50 : Int32)).toNatClampNeg) := inb_of S_b4 ⟨by decide, by decide⟩
  obtain ⟨T55, h55, X55, e55, W55, st55⟩ := stC X54 hx hZ e54 Ar_b4 (j := (50 : Int32)) hin404 (g := (mkF m 404 #[s0, s1, s2, s3, .val (.int i4), .val (.int i5), .val (.int i6), .val (.int i7), s8, s9, s10, s11, s12, s13, s14, s15, s16, s17] [.int 0, .int 50, .ref b4, .ref b4])) rfl rfl (hb hby at_404)
  have V_b4_55 : Arv Z h55 b4 k4 .char (55 : Int32) [.int (nar .char 35), .int (nar .char 32), .int (nar .char 72), .int (nar .char 69), .int (nar .char 76), .int (nar .char 80), .int (nar .char 32), .int (nar .char i4), .int (nar .char i5), .int (nar .char 32), .int (nar .char i6), .int (nar .char i7), .int (nar .char 10), .int (nar .char 35), .int (nar .char 32), .int (nar .char 84), .int (nar .char 89), .int (nar .char 80), .int (nar .char 69), .int (nar .char 32), .int (nar .char i4), .int (nar .char i5), .int (nar .char 32), .int (nar .char 99), .int (nar .char 111), .int (nar .char 117), .int (nar .char 110), .int (nar .char 116), .int (nar .char 101), .int (nar .char 114), .int (nar .char 10), .int (nar .char i4), .int (nar .char i5), .int (nar .char 32), .int (nar .char 0), .int (nar .char 0), .int (nar .char 0), .int (nar .char 0), .int (nar .char 0), .int (nar .char 0), .int (nar .char 0), .int (nar .char 0), .int (nar .char 0), .int (nar .char 0), .int (nar .char 0), .int (nar .char 0), .int (nar .char 0), .int (nar .char 0), .int (nar .char 0), .int (nar .char 0), .int (nar .char 0), .int 0, .int 0, .int 0, .int 0] (.int 0) := Arv.set Ar_b4 q_b4 S_b4 N_b4 H_b4 G_b4 (fits_nar_char _) W55 50 rfl (Nat.le_of_ble_eq_true rfl)
  have K55 : Keep h0 h55 [] := K54.wr W55 (Or.inr sz_b4)
  have N55 := Fr.snoc X55 N54 g_b4
  obtain ⟨cl_b4_409, Ar_b4, q_b4, S_b4, N_b4, H_b4, G_b4⟩ := V_b4_55
  have hin409 : ¬ ((51 : Int32) < 0 ∨ cl_b4_409.slots.size ≤ ((51 : Int32)).toNatClampNeg) := inb_of S_b4 ⟨by decide, by decide⟩
  obtain ⟨T56, h56, X56, e56, W56, st56⟩ := stC X55 hx hZ e55 Ar_b4 (j := (51 : Int32)) hin409 (g := (mkF m 409 #[s0, s1, s2, s3, .val (.int i4), .val (.int i5), .val (.int i6), .val (.int i7), s8, s9, s10, s11, s12, s13, s14, s15, s16, s17] [.int 0, .int 51, .ref b4, .ref b4])) rfl rfl (hb hby at_409)
  have V_b4_56 : Arv Z h56 b4 k4 .char (55 : Int32) [.int (nar .char 35), .int (nar .char 32), .int (nar .char 72), .int (nar .char 69), .int (nar .char 76), .int (nar .char 80), .int (nar .char 32), .int (nar .char i4), .int (nar .char i5), .int (nar .char 32), .int (nar .char i6), .int (nar .char i7), .int (nar .char 10), .int (nar .char 35), .int (nar .char 32), .int (nar .char 84), .int (nar .char 89), .int (nar .char 80), .int (nar .char 69), .int (nar .char 32), .int (nar .char i4), .int (nar .char i5), .int (nar .char 32), .int (nar .char 99), .int (nar .char 111), .int (nar .char 117), .int (nar .char 110), .int (nar .char 116), .int (nar .char 101), .int (nar .char 114), .int (nar .char 10), .int (nar .char i4), .int (nar .char i5), .int (nar .char 32), .int (nar .char 0), .int (nar .char 0), .int (nar .char 0), .int (nar .char 0), .int (nar .char 0), .int (nar .char 0), .int (nar .char 0), .int (nar .char 0), .int (nar .char 0), .int (nar .char 0), .int (nar .char 0), .int (nar .char 0), .int (nar .char 0), .int (nar .char 0), .int (nar .char 0), .int (nar .char 0), .int (nar .char 0), .int (nar .char 0), .int 0, .int 0, .int 0] (.int 0) := Arv.set Ar_b4 q_b4 S_b4 N_b4 H_b4 G_b4 (fits_nar_char _) W56 51 rfl (Nat.le_of_ble_eq_true rfl)
  have K56 : Keep h0 h56 [] := K55.wr W56 (Or.inr sz_b4)
  have N56 := Fr.snoc X56 N55 g_b4
  obtain ⟨cl_b4_414, Ar_b4, q_b4, S_b4, N_b4, H_b4, G_b4⟩ := V_b4_56
  have hin414 : ¬ ((52 : Int32) < 0 ∨ cl_b4_414.slots.size ≤ ((52 : Int32)).toNatClampNeg) := inb_of S_b4 ⟨by decide, by decide⟩
  obtain ⟨T57, h57, X57, e57, W57, st57⟩ := stC X56 hx hZ e56 Ar_b4 (j := (52 : Int32)) hin414 (g := (mkF m 414 #[s0, s1, s2, s3, .val (.int i4), .val (.int i5), .val (.int i6), .val (.int i7), s8, s9, s10, s11, s12, s13, s14, s15, s16, s17] [.int 0, .int 52, .ref b4, .ref b4])) rfl rfl (hb hby at_414)
  have V_b4_57 : Arv Z h57 b4 k4 .char (55 : Int32) [.int (nar .char 35), .int (nar .char 32), .int (nar .char 72), .int (nar .char 69), .int (nar .char 76), .int (nar .char 80), .int (nar .char 32), .int (nar .char i4), .int (nar .char i5), .int (nar .char 32), .int (nar .char i6), .int (nar .char i7), .int (nar .char 10), .int (nar .char 35), .int (nar .char 32), .int (nar .char 84), .int (nar .char 89), .int (nar .char 80), .int (nar .char 69), .int (nar .char 32), .int (nar .char i4), .int (nar .char i5), .int (nar .char 32), .int (nar .char 99), .int (nar .char 111), .int (nar .char 117), .int (nar .char 110), .int (nar .char 116), .int (nar .char 101), .int (nar .char 114), .int (nar .char 10), .int (nar .char i4), .int (nar .char i5), .int (nar .char 32), .int (nar .char 0), .int (nar .char 0), .int (nar .char 0), .int (nar .char 0), .int (nar .char 0), .int (nar .char 0), .int (nar .char 0), .int (nar .char 0), .int (nar .char 0), .int (nar .char 0), .int (nar .char 0), .int (nar .char 0), .int (nar .char 0), .int (nar .char 0), .int (nar .char 0), .int (nar .char 0), .int (nar .char 0), .int (nar .char 0), .int (nar .char 0), .int 0, .int 0] (.int 0) := Arv.set Ar_b4 q_b4 S_b4 N_b4 H_b4 G_b4 (fits_nar_char _) W57 52 rfl (Nat.le_of_ble_eq_true rfl)
  have K57 : Keep h0 h57 [] := K56.wr W57 (Or.inr sz_b4)
  have N57 := Fr.snoc X57 N56 g_b4
  obtain ⟨cl_b4_419, Ar_b4, q_b4, S_b4, N_b4, H_b4, G_b4⟩ := V_b4_57
  have hin419 : ¬ ((53 : Int32) < 0 ∨ cl_b4_419.slots.size ≤ ((53 : Int32)).toNatClampNeg) := inb_of S_b4 ⟨by decide, by decide⟩
  obtain ⟨T58, h58, X58, e58, W58, st58⟩ := stC X57 hx hZ e57 Ar_b4 (j := (53 : Int32)) hin419 (g := (mkF m 419 #[s0, s1, s2, s3, .val (.int i4), .val (.int i5), .val (.int i6), .val (.int i7), s8, s9, s10, s11, s12, s13, s14, s15, s16, s17] [.int 0, .int 53, .ref b4, .ref b4])) rfl rfl (hb hby at_419)
  have V_b4_58 : Arv Z h58 b4 k4 .char (55 : Int32) [.int (nar .char 35), .int (nar .char 32), .int (nar .char 72), .int (nar .char 69), .int (nar .char 76), .int (nar .char 80), .int (nar .char 32), .int (nar .char i4), .int (nar .char i5), .int (nar .char 32), .int (nar .char i6), .int (nar .char i7), .int (nar .char 10), .int (nar .char 35), .int (nar .char 32), .int (nar .char 84), .int (nar .char 89), .int (nar .char 80), .int (nar .char 69), .int (nar .char 32), .int (nar .char i4), .int (nar .char i5), .int (nar .char 32), .int (nar .char 99), .int (nar .char 111), .int (nar .char 117), .int (nar .char 110), .int (nar .char 116), .int (nar .char 101), .int (nar .char 114), .int (nar .char 10), .int (nar .char i4), .int (nar .char i5), .int (nar .char 32), .int (nar .char 0), .int (nar .char 0), .int (nar .char 0), .int (nar .char 0), .int (nar .char 0), .int (nar .char 0), .int (nar .char 0), .int (nar .char 0), .int (nar .char 0), .int (nar .char 0), .int (nar .char 0), .int (nar .char 0), .int (nar .char 0), .int (nar .char 0), .int (nar .char 0), .int (nar .char 0), .int (nar .char 0), .int (nar .char 0), .int (nar .char 0), .int (nar .char 0), .int 0] (.int 0) := Arv.set Ar_b4 q_b4 S_b4 N_b4 H_b4 G_b4 (fits_nar_char _) W58 53 rfl (Nat.le_of_ble_eq_true rfl)
  have K58 : Keep h0 h58 [] := K57.wr W58 (Or.inr sz_b4)
  have N58 := Fr.snoc X58 N57 g_b4
  obtain ⟨cl_b4_424, Ar_b4, q_b4, S_b4, N_b4, H_b4, G_b4⟩ := V_b4_58
  have hin424 : ¬ ((54 : Int32) < 0 ∨ cl_b4_424.slots.size ≤ ((54 : Int32)).toNatClampNeg) := inb_of S_b4 ⟨by decide, by decide⟩
  obtain ⟨T59, h59, X59, e59, W59, st59⟩ := stC X58 hx hZ e58 Ar_b4 (j := (54 : Int32)) hin424 (g := (mkF m 424 #[s0, s1, s2, s3, .val (.int i4), .val (.int i5), .val (.int i6), .val (.int i7), s8, s9, s10, s11, s12, s13, s14, s15, s16, s17] [.int 0, .int 54, .ref b4, .ref b4])) rfl rfl (hb hby at_424)
  have V_b4_59 : Arv Z h59 b4 k4 .char (55 : Int32) [.int (nar .char 35), .int (nar .char 32), .int (nar .char 72), .int (nar .char 69), .int (nar .char 76), .int (nar .char 80), .int (nar .char 32), .int (nar .char i4), .int (nar .char i5), .int (nar .char 32), .int (nar .char i6), .int (nar .char i7), .int (nar .char 10), .int (nar .char 35), .int (nar .char 32), .int (nar .char 84), .int (nar .char 89), .int (nar .char 80), .int (nar .char 69), .int (nar .char 32), .int (nar .char i4), .int (nar .char i5), .int (nar .char 32), .int (nar .char 99), .int (nar .char 111), .int (nar .char 117), .int (nar .char 110), .int (nar .char 116), .int (nar .char 101), .int (nar .char 114), .int (nar .char 10), .int (nar .char i4), .int (nar .char i5), .int (nar .char 32), .int (nar .char 0), .int (nar .char 0), .int (nar .char 0), .int (nar .char 0), .int (nar .char 0), .int (nar .char 0), .int (nar .char 0), .int (nar .char 0), .int (nar .char 0), .int (nar .char 0), .int (nar .char 0), .int (nar .char 0), .int (nar .char 0), .int (nar .char 0), .int (nar .char 0), .int (nar .char 0), .int (nar .char 0), .int (nar .char 0), .int (nar .char 0), .int (nar .char 0), .int (nar .char 0)] (.int 0) := Arv.set Ar_b4 q_b4 S_b4 N_b4 H_b4 G_b4 (fits_nar_char _) W59 54 rfl (Nat.le_of_ble_eq_true rfl)
  have K59 : Keep h0 h59 [] := K58.wr W59 (Or.inr sz_b4)
  have N59 := Fr.snoc X59 N58 g_b4
  refine ⟨T59, _, k4, X59, N59, by rw [e59]; exact K59, by rw [e59, ← g4]; exact V_b4_59, fun target kt => ?_⟩
  refine XS.bipush X0.here hx rfl (hb hby at_118) ?_
  refine st4 _ ?_
  refine XS.dup X4.here hx rfl (hb hby at_122) rfl rfl ?_
  refine XS.iconst X4.here hx rfl (hb hby at_123) ?_
  refine XS.bipush X4.here hx rfl (hb hby at_124) ?_
  refine st5 _ ?_
  refine XS.dup X5.here hx rfl (hb hby at_127) rfl rfl ?_
  refine XS.iconst X5.here hx rfl (hb hby at_128) ?_
  refine XS.bipush X5.here hx rfl (hb hby at_129) ?_
  refine st6 _ ?_
  refine XS.dup X6.here hx rfl (hb hby at_132) rfl rfl ?_
  refine XS.iconst X6.here hx rfl (hb hby at_133) ?_
  refine XS.bipush X6.here hx rfl (hb hby at_134) ?_
  refine st7 _ ?_
  refine XS.dup X7.here hx rfl (hb hby at_137) rfl rfl ?_
  refine XS.iconst X7.here hx rfl (hb hby at_138) ?_
  refine XS.bipush X7.here hx rfl (hb hby at_139) ?_
  refine st8 _ ?_
  refine XS.dup X8.here hx rfl (hb hby at_142) rfl rfl ?_
  refine XS.iconst X8.here hx rfl (hb hby at_143) ?_
  refine XS.bipush X8.here hx rfl (hb hby at_144) ?_
  refine st9 _ ?_
  refine XS.dup X9.here hx rfl (hb hby at_147) rfl rfl ?_
  refine XS.iconst X9.here hx rfl (hb hby at_148) ?_
  refine XS.bipush X9.here hx rfl (hb hby at_149) ?_
  refine st10 _ ?_
  refine XS.dup X10.here hx rfl (hb hby at_152) rfl rfl ?_
  refine XS.bipush X10.here hx rfl (hb hby at_153) ?_
  refine XS.bipush X10.here hx rfl (hb hby at_155) ?_
  refine st11 _ ?_
  refine XS.dup X11.here hx rfl (hb hby at_158) rfl rfl ?_
  refine XS.bipush X11.here hx rfl (hb hby at_159) ?_
  refine XS.iload X11.here hx rfl (hb hby at_161) rfl ?_
  refine st12 _ ?_
  refine XS.dup X12.here hx rfl (hb hby at_164) rfl rfl ?_
  refine XS.bipush X12.here hx rfl (hb hby at_165) ?_
  refine XS.iload X12.here hx rfl (hb hby at_167) rfl ?_
  refine st13 _ ?_
  refine XS.dup X13.here hx rfl (hb hby at_170) rfl rfl ?_
  refine XS.bipush X13.here hx rfl (hb hby at_171) ?_
  refine XS.bipush X13.here hx rfl (hb hby at_173) ?_
  refine st14 _ ?_
  refine XS.dup X14.here hx rfl (hb hby at_176) rfl rfl ?_
  refine XS.bipush X14.here hx rfl (hb hby at_177) ?_
  refine XS.iload X14.here hx rfl (hb hby at_179) rfl ?_
  refine st15 _ ?_
  refine XS.dup X15.here hx rfl (hb hby at_182) rfl rfl ?_
  refine XS.bipush X15.here hx rfl (hb hby at_183) ?_
  refine XS.iload X15.here hx rfl (hb hby at_185) rfl ?_
  refine st16 _ ?_
  refine XS.dup X16.here hx rfl (hb hby at_188) rfl rfl ?_
  refine XS.bipush X16.here hx rfl (hb hby at_189) ?_
  refine XS.bipush X16.here hx rfl (hb hby at_191) ?_
  refine st17 _ ?_
  refine XS.dup X17.here hx rfl (hb hby at_194) rfl rfl ?_
  refine XS.bipush X17.here hx rfl (hb hby at_195) ?_
  refine XS.bipush X17.here hx rfl (hb hby at_197) ?_
  refine st18 _ ?_
  refine XS.dup X18.here hx rfl (hb hby at_200) rfl rfl ?_
  refine XS.bipush X18.here hx rfl (hb hby at_201) ?_
  refine XS.bipush X18.here hx rfl (hb hby at_203) ?_
  refine st19 _ ?_
  refine XS.dup X19.here hx rfl (hb hby at_206) rfl rfl ?_
  refine XS.bipush X19.here hx rfl (hb hby at_207) ?_
  refine XS.bipush X19.here hx rfl (hb hby at_209) ?_
  refine st20 _ ?_
  refine XS.dup X20.here hx rfl (hb hby at_212) rfl rfl ?_
  refine XS.bipush X20.here hx rfl (hb hby at_213) ?_
  refine XS.bipush X20.here hx rfl (hb hby at_215) ?_
  refine st21 _ ?_
  refine XS.dup X21.here hx rfl (hb hby at_218) rfl rfl ?_
  refine XS.bipush X21.here hx rfl (hb hby at_219) ?_
  refine XS.bipush X21.here hx rfl (hb hby at_221) ?_
  refine st22 _ ?_
  refine XS.dup X22.here hx rfl (hb hby at_224) rfl rfl ?_
  refine XS.bipush X22.here hx rfl (hb hby at_225) ?_
  refine XS.bipush X22.here hx rfl (hb hby at_227) ?_
  refine st23 _ ?_
  refine XS.dup X23.here hx rfl (hb hby at_230) rfl rfl ?_
  refine XS.bipush X23.here hx rfl (hb hby at_231) ?_
  refine XS.bipush X23.here hx rfl (hb hby at_233) ?_
  refine st24 _ ?_
  refine XS.dup X24.here hx rfl (hb hby at_236) rfl rfl ?_
  refine XS.bipush X24.here hx rfl (hb hby at_237) ?_
  refine XS.iload X24.here hx rfl (hb hby at_239) rfl ?_
  refine st25 _ ?_
  refine XS.dup X25.here hx rfl (hb hby at_242) rfl rfl ?_
  refine XS.bipush X25.here hx rfl (hb hby at_243) ?_
  refine XS.iload X25.here hx rfl (hb hby at_245) rfl ?_
  refine st26 _ ?_
  refine XS.dup X26.here hx rfl (hb hby at_248) rfl rfl ?_
  refine XS.bipush X26.here hx rfl (hb hby at_249) ?_
  refine XS.bipush X26.here hx rfl (hb hby at_251) ?_
  refine st27 _ ?_
  refine XS.dup X27.here hx rfl (hb hby at_254) rfl rfl ?_
  refine XS.bipush X27.here hx rfl (hb hby at_255) ?_
  refine XS.bipush X27.here hx rfl (hb hby at_257) ?_
  refine st28 _ ?_
  refine XS.dup X28.here hx rfl (hb hby at_260) rfl rfl ?_
  refine XS.bipush X28.here hx rfl (hb hby at_261) ?_
  refine XS.bipush X28.here hx rfl (hb hby at_263) ?_
  refine st29 _ ?_
  refine XS.dup X29.here hx rfl (hb hby at_266) rfl rfl ?_
  refine XS.bipush X29.here hx rfl (hb hby at_267) ?_
  refine XS.bipush X29.here hx rfl (hb hby at_269) ?_
  refine st30 _ ?_
  refine XS.dup X30.here hx rfl (hb hby at_272) rfl rfl ?_
  refine XS.bipush X30.here hx rfl (hb hby at_273) ?_
  refine XS.bipush X30.here hx rfl (hb hby at_275) ?_
  refine st31 _ ?_
  refine XS.dup X31.here hx rfl (hb hby at_278) rfl rfl ?_
  refine XS.bipush X31.here hx rfl (hb hby at_279) ?_
  refine XS.bipush X31.here hx rfl (hb hby at_281) ?_
  refine st32 _ ?_
  refine XS.dup X32.here hx rfl (hb hby at_284) rfl rfl ?_
  refine XS.bipush X32.here hx rfl (hb hby at_285) ?_
  refine XS.bipush X32.here hx rfl (hb hby at_287) ?_
  refine st33 _ ?_
  refine XS.dup X33.here hx rfl (hb hby at_290) rfl rfl ?_
  refine XS.bipush X33.here hx rfl (hb hby at_291) ?_
  refine XS.bipush X33.here hx rfl (hb hby at_293) ?_
  refine st34 _ ?_
  refine XS.dup X34.here hx rfl (hb hby at_296) rfl rfl ?_
  refine XS.bipush X34.here hx rfl (hb hby at_297) ?_
  refine XS.bipush X34.here hx rfl (hb hby at_299) ?_
  refine st35 _ ?_
  refine XS.dup X35.here hx rfl (hb hby at_302) rfl rfl ?_
  refine XS.bipush X35.here hx rfl (hb hby at_303) ?_
  refine XS.iload X35.here hx rfl (hb hby at_305) rfl ?_
  refine st36 _ ?_
  refine XS.dup X36.here hx rfl (hb hby at_308) rfl rfl ?_
  refine XS.bipush X36.here hx rfl (hb hby at_309) ?_
  refine XS.iload X36.here hx rfl (hb hby at_311) rfl ?_
  refine st37 _ ?_
  refine XS.dup X37.here hx rfl (hb hby at_314) rfl rfl ?_
  refine XS.bipush X37.here hx rfl (hb hby at_315) ?_
  refine XS.bipush X37.here hx rfl (hb hby at_317) ?_
  refine st38 _ ?_
  refine XS.dup X38.here hx rfl (hb hby at_320) rfl rfl ?_
  refine XS.bipush X38.here hx rfl (hb hby at_321) ?_
  refine XS.iconst X38.here hx rfl (hb hby at_323) ?_
  refine st39 _ ?_
  refine XS.dup X39.here hx rfl (hb hby at_325) rfl rfl ?_
  refine XS.bipush X39.here hx rfl (hb hby at_326) ?_
  refine XS.iconst X39.here hx rfl (hb hby at_328) ?_
  refine st40 _ ?_
  refine XS.dup X40.here hx rfl (hb hby at_330) rfl rfl ?_
  refine XS.bipush X40.here hx rfl (hb hby at_331) ?_
  refine XS.iconst X40.here hx rfl (hb hby at_333) ?_
  refine st41 _ ?_
  refine XS.dup X41.here hx rfl (hb hby at_335) rfl rfl ?_
  refine XS.bipush X41.here hx rfl (hb hby at_336) ?_
  refine XS.iconst X41.here hx rfl (hb hby at_338) ?_
  refine st42 _ ?_
  refine XS.dup X42.here hx rfl (hb hby at_340) rfl rfl ?_
  refine XS.bipush X42.here hx rfl (hb hby at_341) ?_
  refine XS.iconst X42.here hx rfl (hb hby at_343) ?_
  refine st43 _ ?_
  refine XS.dup X43.here hx rfl (hb hby at_345) rfl rfl ?_
  refine XS.bipush X43.here hx rfl (hb hby at_346) ?_
  refine XS.iconst X43.here hx rfl (hb hby at_348) ?_
  refine st44 _ ?_
  refine XS.dup X44.here hx rfl (hb hby at_350) rfl rfl ?_
  refine XS.bipush X44.here hx rfl (hb hby at_351) ?_
  refine XS.iconst X44.here hx rfl (hb hby at_353) ?_
  refine st45 _ ?_
  refine XS.dup X45.here hx rfl (hb hby at_355) rfl rfl ?_
  refine XS.bipush X45.here hx rfl (hb hby at_356) ?_
  refine XS.iconst X45.here hx rfl (hb hby at_358) ?_
  refine st46 _ ?_
  refine XS.dup X46.here hx rfl (hb hby at_360) rfl rfl ?_
  refine XS.bipush X46.here hx rfl (hb hby at_361) ?_
  refine XS.iconst X46.here hx rfl (hb hby at_363) ?_
  refine st47 _ ?_
  refine XS.dup X47.here hx rfl (hb hby at_365) rfl rfl ?_
  refine XS.bipush X47.here hx rfl (hb hby at_366) ?_
  refine XS.iconst X47.here hx rfl (hb hby at_368) ?_
  refine st48 _ ?_
  refine XS.dup X48.here hx rfl (hb hby at_370) rfl rfl ?_
  refine XS.bipush X48.here hx rfl (hb hby at_371) ?_
  refine XS.iconst X48.here hx rfl (hb hby at_373) ?_
  refine st49 _ ?_
  refine XS.dup X49.here hx rfl (hb hby at_375) rfl rfl ?_
  refine XS.bipush X49.here hx rfl (hb hby at_376) ?_
  refine XS.iconst X49.here hx rfl (hb hby at_378) ?_
  refine st50 _ ?_
  refine XS.dup X50.here hx rfl (hb hby at_380) rfl rfl ?_
  refine XS.bipush X50.here hx rfl (hb hby at_381) ?_
  refine XS.iconst X50.here hx rfl (hb hby at_383) ?_
  refine st51 _ ?_
  refine XS.dup X51.here hx rfl (hb hby at_385) rfl rfl ?_
  refine XS.bipush X51.here hx rfl (hb hby at_386) ?_
  refine XS.iconst X51.here hx rfl (hb hby at_388) ?_
  refine st52 _ ?_
  refine XS.dup X52.here hx rfl (hb hby at_390) rfl rfl ?_
  refine XS.bipush X52.here hx rfl (hb hby at_391) ?_
  refine XS.iconst X52.here hx rfl (hb hby at_393) ?_
  refine st53 _ ?_
  refine XS.dup X53.here hx rfl (hb hby at_395) rfl rfl ?_
  refine XS.bipush X53.here hx rfl (hb hby at_396) ?_
  refine XS.iconst X53.here hx rfl (hb hby at_398) ?_
  refine st54 _ ?_
  refine XS.dup X54.here hx rfl (hb hby at_400) rfl rfl ?_
  refine XS.bipush X54.here hx rfl (hb hby at_401) ?_
  refine XS.iconst X54.here hx rfl (hb hby at_403) ?_
  refine st55 _ ?_
  refine XS.dup X55.here hx rfl (hb hby at_405) rfl rfl ?_
  refine XS.bipush X55.here hx rfl (hb hby at_406) ?_
  refine XS.iconst X55.here hx rfl (hb hby at_408) ?_
  refine st56 _ ?_
  refine XS.dup X56.here hx rfl (hb hby at_410) rfl rfl ?_
  refine XS.bipush X56.here hx rfl (hb hby at_411) ?_
  refine XS.iconst X56.here hx rfl (hb hby at_413) ?_
  refine st57 _ ?_
  refine XS.dup X57.here hx rfl (hb hby at_415) rfl rfl ?_
  refine XS.bipush X57.here hx rfl (hb hby at_416) ?_
  refine XS.iconst X57.here hx rfl (hb hby at_418) ?_
  refine st58 _ ?_
  refine XS.dup X58.here hx rfl (hb hby at_420) rfl rfl ?_
  refine XS.bipush X58.here hx rfl (hb hby at_421) ?_
  refine XS.iconst X58.here hx rfl (hb hby at_423) ?_
  refine st59 _ ?_
  refine XS.astore X59.here hx rfl (hb hby at_425) rfl rfl (l' := #[s0, s1, s2, s3, .val (.int i4), .val (.int i5), .val (.int i6), .val (.int i7), s8, s9, s10, s11, .val (.ref b4), s13, s14, s15, s16, s17]) (os0_425_own_e hs12) ?_
  subst g4
  exact kt
theorem os0_556_own_pw {s0 : Slot} {s1 : Slot} {s2 : Slot} {s3 : Slot} {s4 : Slot} {s5 : Slot} {s6 : Slot} {s7 : Slot} {s8 : Slot} {s9 : Slot} {s10 : Slot} {s11 : Slot} {s12 : Slot} {s13 : Slot} {s14 : Slot} {s15 : Slot} {s16 : Slot} {s17 : Slot} {v : Addr} (h : One s13) : storeLocals #[s0, s1, s2, s3, s4, s5, s6, s7, s8, s9, s10, s11, s12, s13, s14, s15, s16, s17] 13 (.ref v) = some #[s0, s1, s2, s3, s4, s5, s6, s7, s8, s9, s10, s11, s12, .val (.ref v), s14, s15, s16, s17] := by
  rcases h with rfl | ⟨w, rfl, hw⟩
  · rfl
  · cases w <;> first | rfl | (simp [Value.category] at hw)
theorem own_pw {p : Program} {l : Launch} {e : Env} {s : State} {m : MethodId} {args : Array Value} {below : List Frame} {meth : Method} {c : Code} {T0 : State} {locs : List Loc} {Z : State} {a0 : Array Value} {h0 : Heap} (s0 : Slot) (s1 : Slot) (s2 : Slot) (s3 : Slot) (s4 : Slot) (s5 : Slot) (s6 : Slot) (s7 : Slot) (s8 : Slot) (s9 : Slot) (s10 : Slot) (s11 : Slot) (s12 : Slot) (s13 : Slot) (s14 : Slot) (s15 : Slot) (s16 : Slot) (s17 : Slot) (n0 : Nat)
    (X0 : Stand p l e own_R0 s m args below meth c T0 locs 38 1858) (hx : p.tables.exec = Jvm.exec) (hZ : Z.Warmed39 s.vm) (hw : zH Z a0) (hby : c.code = code) (hml : c.maxLocals = 18) (hown : s.vm.findClass "com/example/dealt/dealt/metrics/ExpositionCounterPinLaw" = some m.cls) (e0 : T0.heap = h0) (Z0 : n0 ≤ h0.size) (N0 : Fr n0 locs) (hs13 : One s13) :
    ∃ (T' : State) (locs' : List Loc) (k : ClassId), Stand p l e own_R0 s m args below meth c T' locs' (38 + 1) (1858 + 19) ∧ Fr n0 locs' ∧ Keep h0 T'.heap [] ∧ Arv Z T'.heap h0.size k .long (19 : Int32) (own_p.map Value.long) (.long 0) ∧
      ∀ target, Steps p.tables e below (T'.setTop (mkF m 558 #[s0, s1, s2, s3, s4, s5, s6, s7, s8, s9, s10, s11, s12, .val (.ref h0.size), s14, s15, s16, s17] [])) target → Steps p.tables e below (T0.setTop (mkF m 427 #[s0, s1, s2, s3, s4, s5, s6, s7, s8, s9, s10, s11, s12, s13, s14, s15, s16, s17] [])) target := by
  obtain ⟨T4, h4, k4, X4, e4, E4, A4, st4⟩ := newP X0 hx hZ (zW hw 224 rfl) e0 (g := (mkF m 429 #[s0, s1, s2, s3, s4, s5, s6, s7, s8, s9, s10, s11, s12, s13, s14, s15, s16, s17] [.int 19])) rfl (hb hby at_429) rfl (by decide) (cap := 19) (by decide) (by decide) (by decide) (by decide)
  obtain ⟨b4, g4⟩ : ∃ z, z = h0.size := ⟨_, rfl⟩
  rw [← g4] at A4 st4
  have V_b4 : Arv Z h4 b4 k4 .long (19 : Int32) [.long 0, .long 0, .long 0, .long 0, .long 0, .long 0, .long 0, .long 0, .long 0, .long 0, .long 0, .long 0, .long 0, .long 0, .long 0, .long 0, .long 0, .long 0, .long 0] (.long 0) := (Arv.new A4 (by decide)).pad (pad_rep [] (.long 0) 19)
  have g_b4 : n0 ≤ b4 := Nat.le_trans Z0 (Nat.le_of_eq g4.symm)
  have sz_b4 : h0.size ≤ b4 := (Nat.le_trans (Keep.refl h0 []).1 (Nat.le_of_eq g4.symm))
  have K4 : Keep h0 h4 [] := (Keep.refl h0 []).ext E4
  obtain ⟨cl_b4_434, Ar_b4, q_b4, S_b4, N_b4, H_b4, G_b4⟩ := V_b4
  have hin434 : ¬ ((0 : Int32) < 0 ∨ cl_b4_434.slots.size ≤ ((0 : Int32)).toNatClampNeg) := inb_of S_b4 ⟨by decide, by decide⟩
  obtain ⟨T5, h5, X5, e5, W5, st5⟩ := stJ X4 hx hZ e4 Ar_b4 (j := (0 : Int32)) hin434 (g := (mkF m 434 #[s0, s1, s2, s3, s4, s5, s6, s7, s8, s9, s10, s11, s12, s13, s14, s15, s16, s17] [.long 1, .int 0, .ref b4, .ref b4])) rfl rfl (hb hby at_434)
  have V_b4_5 : Arv Z h5 b4 k4 .long (19 : Int32) [.long 1, .long 0, .long 0, .long 0, .long 0, .long 0, .long 0, .long 0, .long 0, .long 0, .long 0, .long 0, .long 0, .long 0, .long 0, .long 0, .long 0, .long 0, .long 0] (.long 0) := Arv.set Ar_b4 q_b4 S_b4 N_b4 H_b4 G_b4 rfl W5 0 rfl (Nat.le_of_ble_eq_true rfl)
  have K5 : Keep h0 h5 [] := K4.wr W5 (Or.inr sz_b4)
  have N5 := Fr.snoc X5 N0 g_b4
  obtain ⟨cl_b4_440, Ar_b4, q_b4, S_b4, N_b4, H_b4, G_b4⟩ := V_b4_5
  have hin440 : ¬ ((1 : Int32) < 0 ∨ cl_b4_440.slots.size ≤ ((1 : Int32)).toNatClampNeg) := inb_of S_b4 ⟨by decide, by decide⟩
  obtain ⟨T6, h6, X6, e6, W6, st6⟩ := stJ X5 hx hZ e5 Ar_b4 (j := (1 : Int32)) hin440 (g := (mkF m 440 #[s0, s1, s2, s3, s4, s5, s6, s7, s8, s9, s10, s11, s12, s13, s14, s15, s16, s17] [.long 10, .int 1, .ref b4, .ref b4])) rfl rfl (hb hby at_440)
  have V_b4_6 : Arv Z h6 b4 k4 .long (19 : Int32) [.long 1, .long 10, .long 0, .long 0, .long 0, .long 0, .long 0, .long 0, .long 0, .long 0, .long 0, .long 0, .long 0, .long 0, .long 0, .long 0, .long 0, .long 0, .long 0] (.long 0) := Arv.set Ar_b4 q_b4 S_b4 N_b4 H_b4 G_b4 rfl W6 1 rfl (Nat.le_of_ble_eq_true rfl)
  have K6 : Keep h0 h6 [] := K5.wr W6 (Or.inr sz_b4)
  have N6 := Fr.snoc X6 N5 g_b4
  obtain ⟨cl_b4_446, Ar_b4, q_b4, S_b4, N_b4, H_b4, G_b4⟩ := V_b4_6
  have hin446 : ¬ ((2 : Int32) < 0 ∨ cl_b4_446.slots.size ≤ ((2 : Int32)).toNatClampNeg) := inb_of S_b4 ⟨by decide, by decide⟩
  obtain ⟨T7, h7, X7, e7, W7, st7⟩ := stJ X6 hx hZ e6 Ar_b4 (j := (2 : Int32)) hin446 (g := (mkF m 446 #[s0, s1, s2, s3, s4, s5, s6, s7, s8, s9, s10, s11, s12, s13, s14, s15, s16, s17] [.long 100, .int 2, .ref b4, .ref b4])) rfl rfl (hb hby at_446)
  have V_b4_7 : Arv Z h7 b4 k4 .long (19 : Int32) [.long 1, .long 10, .long 100, .long 0, .long 0, .long 0, .long 0, .long 0, .long 0, .long 0, .long 0, .long 0, .long 0, .long 0, .long 0, .long 0, .long 0, .long 0, .long 0] (.long 0) := Arv.set Ar_b4 q_b4 S_b4 N_b4 H_b4 G_b4 rfl W7 2 rfl (Nat.le_of_ble_eq_true rfl)
  have K7 : Keep h0 h7 [] := K6.wr W7 (Or.inr sz_b4)
  have N7 := Fr.snoc X7 N6 g_b4
  obtain ⟨cl_b4_452, Ar_b4, q_b4, S_b4, N_b4, H_b4, G_b4⟩ := V_b4_7
  have hin452 : ¬ ((3 : Int32) < 0 ∨ cl_b4_452.slots.size ≤ ((3 : Int32)).toNatClampNeg) := inb_of S_b4 ⟨by decide, by decide⟩
  obtain ⟨T8, h8, X8, e8, W8, st8⟩ := stJ X7 hx hZ e7 Ar_b4 (j := (3 : Int32)) hin452 (g := (mkF m 452 #[s0, s1, s2, s3, s4, s5, s6, s7, s8, s9, s10, s11, s12, s13, s14, s15, s16, s17] [.long 1000, .int 3, .ref b4, .ref b4])) rfl rfl (hb hby at_452)
  have V_b4_8 : Arv Z h8 b4 k4 .long (19 : Int32) [.long 1, .long 10, .long 100, .long 1000, .long 0, .long 0, .long 0, .long 0, .long 0, .long 0, .long 0, .long 0, .long 0, .long 0, .long 0, .long 0, .long 0, .long 0, .long 0] (.long 0) := Arv.set Ar_b4 q_b4 S_b4 N_b4 H_b4 G_b4 rfl W8 3 rfl (Nat.le_of_ble_eq_true rfl)
  have K8 : Keep h0 h8 [] := K7.wr W8 (Or.inr sz_b4)
  have N8 := Fr.snoc X8 N7 g_b4
  obtain ⟨cl_b4_458, Ar_b4, q_b4, S_b4, N_b4, H_b4, G_b4⟩ := V_b4_8
  have hin458 : ¬ ((4 : Int32) < 0 ∨ cl_b4_458.slots.size ≤ ((4 : Int32)).toNatClampNeg) := inb_of S_b4 ⟨by decide, by decide⟩
  obtain ⟨T9, h9, X9, e9, W9, st9⟩ := stJ X8 hx hZ e8 Ar_b4 (j := (4 : Int32)) hin458 (g := (mkF m 458 #[s0, s1, s2, s3, s4, s5, s6, s7, s8, s9, s10, s11, s12, s13, s14, s15, s16, s17] [.long 10000, .int 4, .ref b4, .ref b4])) rfl rfl (hb hby at_458)
  have V_b4_9 : Arv Z h9 b4 k4 .long (19 : Int32) [.long 1, .long 10, .long 100, .long 1000, .long 10000, .long 0, .long 0, .long 0, .long 0, .long 0, .long 0, .long 0, .long 0, .long 0, .long 0, .long 0, .long 0, .long 0, .long 0] (.long 0) := Arv.set Ar_b4 q_b4 S_b4 N_b4 H_b4 G_b4 rfl W9 4 rfl (Nat.le_of_ble_eq_true rfl)
  have K9 : Keep h0 h9 [] := K8.wr W9 (Or.inr sz_b4)
  have N9 := Fr.snoc X9 N8 g_b4
  obtain ⟨cl_b4_464, Ar_b4, q_b4, S_b4, N_b4, H_b4, G_b4⟩ := V_b4_9
  have hin464 : ¬ ((5 : Int32) < 0 ∨ cl_b4_464.slots.size ≤ ((5 : Int32)).toNatClampNeg) := inb_of S_b4 ⟨by decide, by decide⟩
  obtain ⟨T10, h10, X10, e10, W10, st10⟩ := stJ X9 hx hZ e9 Ar_b4 (j := (5 : Int32)) hin464 (g := (mkF m 464 #[s0, s1, s2, s3, s4, s5, s6, s7, s8, s9, s10, s11, s12, s13, s14, s15, s16, s17] [.long 100000, .int 5, .ref b4, .ref b4])) rfl rfl (hb hby at_464)
  have V_b4_10 : Arv Z h10 b4 k4 .long (19 : Int32) [.long 1, .long 10, .long 100, .long 1000, .long 10000, .long 100000, .long 0, .long 0, .long 0, .long 0, .long 0, .long 0, .long 0, .long 0, .long 0, .long 0, .long 0, .long 0, .long 0] (.long 0) := Arv.set Ar_b4 q_b4 S_b4 N_b4 H_b4 G_b4 rfl W10 5 rfl (Nat.le_of_ble_eq_true rfl)
  have K10 : Keep h0 h10 [] := K9.wr W10 (Or.inr sz_b4)
  have N10 := Fr.snoc X10 N9 g_b4
  obtain ⟨cl_b4_471, Ar_b4, q_b4, S_b4, N_b4, H_b4, G_b4⟩ := V_b4_10
  have hin471 : ¬ ((6 : Int32) < 0 ∨ cl_b4_471.slots.size ≤ ((6 : Int32)).toNatClampNeg) := inb_of S_b4 ⟨by decide, by decide⟩
  obtain ⟨T11, h11, X11, e11, W11, st11⟩ := stJ X10 hx hZ e10 Ar_b4 (j := (6 : Int32)) hin471 (g := (mkF m 471 #[s0, s1, s2, s3, s4, s5, s6, s7, s8, s9, s10, s11, s12, s13, s14, s15, s16, s17] [.long 1000000, .int 6, .ref b4, .ref b4])) rfl rfl (hb hby at_471)
  have V_b4_11 : Arv Z h11 b4 k4 .long (19 : Int32) [.long 1, .long 10, .long 100, .long 1000, .long 10000, .long 100000, .long 1000000, .long 0, .long 0, .long 0, .long 0, .long 0, .long 0, .long 0, .long 0, .long 0, .long 0, .long 0, .long 0] (.long 0) := Arv.set Ar_b4 q_b4 S_b4 N_b4 H_b4 G_b4 rfl W11 6 rfl (Nat.le_of_ble_eq_true rfl)
  have K11 : Keep h0 h11 [] := K10.wr W11 (Or.inr sz_b4)
  have N11 := Fr.snoc X11 N10 g_b4
  obtain ⟨cl_b4_478, Ar_b4, q_b4, S_b4, N_b4, H_b4, G_b4⟩ := V_b4_11
  have hin478 : ¬ ((7 : Int32) < 0 ∨ cl_b4_478.slots.size ≤ ((7 : Int32)).toNatClampNeg) := inb_of S_b4 ⟨by decide, by decide⟩
  obtain ⟨T12, h12, X12, e12, W12, st12⟩ := stJ X11 hx hZ e11 Ar_b4 (j := (7 : Int32)) hin478 (g := (mkF m 478 #[s0, s1, s2, s3, s4, s5, s6, s7, s8, s9, s10, s11, s12, s13, s14, s15, s16, s17] [.long 10000000, .int 7, .ref b4, .ref b4])) rfl rfl (hb hby at_478)
  have V_b4_12 : Arv Z h12 b4 k4 .long (19 : Int32) [.long 1, .long 10, .long 100, .long 1000, .long 10000, .long 100000, .long 1000000, .long 10000000, .long 0, .long 0, .long 0, .long 0, .long 0, .long 0, .long 0, .long 0, .long 0, .long 0, .long 0] (.long 0) := Arv.set Ar_b4 q_b4 S_b4 N_b4 H_b4 G_b4 rfl W12 7 rfl (Nat.le_of_ble_eq_true rfl)
  have K12 : Keep h0 h12 [] := K11.wr W12 (Or.inr sz_b4)
  have N12 := Fr.snoc X12 N11 g_b4
  obtain ⟨cl_b4_485, Ar_b4, q_b4, S_b4, N_b4, H_b4, G_b4⟩ := V_b4_12
  have hin485 : ¬ ((8 : Int32) < 0 ∨ cl_b4_485.slots.size ≤ ((8 : Int32)).toNatClampNeg) := inb_of S_b4 ⟨by decide, by decide⟩
  obtain ⟨T13, h13, X13, e13, W13, st13⟩ := stJ X12 hx hZ e12 Ar_b4 (j := (8 : Int32)) hin485 (g := (mkF m 485 #[s0, s1, s2, s3, s4, s5, s6, s7, s8, s9, s10, s11, s12, s13, s14, s15, s16, s17] [.long 100000000, .int 8, .ref b4, .ref b4])) rfl rfl (hb hby at_485)
  have V_b4_13 : Arv Z h13 b4 k4 .long (19 : Int32) [.long 1, .long 10, .long 100, .long 1000, .long 10000, .long 100000, .long 1000000, .long 10000000, .long 100000000, .long 0, .long 0, .long 0, .long 0, .long 0, .long 0, .long 0, .long 0, .long 0, .long 0] (.long 0) := Arv.set Ar_b4 q_b4 S_b4 N_b4 H_b4 G_b4 rfl W13 8 rfl (Nat.le_of_ble_eq_true rfl)
  have K13 : Keep h0 h13 [] := K12.wr W13 (Or.inr sz_b4)
  have N13 := Fr.snoc X13 N12 g_b4
  obtain ⟨cl_b4_492, Ar_b4, q_b4, S_b4, N_b4, H_b4, G_b4⟩ := V_b4_13
  have hin492 : ¬ ((9 : Int32) < 0 ∨ cl_b4_492.slots.size ≤ ((9 : Int32)).toNatClampNeg) := inb_of S_b4 ⟨by decide, by decide⟩
  obtain ⟨T14, h14, X14, e14, W14, st14⟩ := stJ X13 hx hZ e13 Ar_b4 (j := (9 : Int32)) hin492 (g := (mkF m 492 #[s0, s1, s2, s3, s4, s5, s6, s7, s8, s9, s10, s11, s12, s13, s14, s15, s16, s17] [.long 1000000000, .int 9, .ref b4, .ref b4])) rfl rfl (hb hby at_492)
  have V_b4_14 : Arv Z h14 b4 k4 .long (19 : Int32) [.long 1, .long 10, .long 100, .long 1000, .long 10000, .long 100000, .long 1000000, .long 10000000, .long 100000000, .long 1000000000, .long 0, .long 0, .long 0, .long 0, .long 0, .long 0, .long 0, .long 0, .long 0] (.long 0) := Arv.set Ar_b4 q_b4 S_b4 N_b4 H_b4 G_b4 rfl W14 9 rfl (Nat.le_of_ble_eq_true rfl)
  have K14 : Keep h0 h14 [] := K13.wr W14 (Or.inr sz_b4)
  have N14 := Fr.snoc X14 N13 g_b4
  obtain ⟨cl_b4_499, Ar_b4, q_b4, S_b4, N_b4, H_b4, G_b4⟩ := V_b4_14
  have hin499 : ¬ ((10 : Int32) < 0 ∨ cl_b4_499.slots.size ≤ ((10 : Int32)).toNatClampNeg) := inb_of S_b4 ⟨by decide, by decide⟩
  obtain ⟨T15, h15, X15, e15, W15, st15⟩ := stJ X14 hx hZ e14 Ar_b4 (j := (10 : Int32)) hin499 (g := (mkF m 499 #[s0, s1, s2, s3, s4, s5, s6, s7, s8, s9, s10, s11, s12, s13, s14, s15, s16, s17] [.long 10000000000, .int 10, .ref b4, .ref b4])) rfl rfl (hb hby at_499)
  have V_b4_15 : Arv Z h15 b4 k4 .long (19 : Int32) [.long 1, .long 10, .long 100, .long 1000, .long 10000, .long 100000, .long 1000000, .long 10000000, .long 100000000, .long 1000000000, .long 10000000000, .long 0, .long 0, .long 0, .long 0, .long 0, .long 0, .long 0, .long 0] (.long 0) := Arv.set Ar_b4 q_b4 S_b4 N_b4 H_b4 G_b4 rfl W15 10 rfl (Nat.le_of_ble_eq_true rfl)
  have K15 : Keep h0 h15 [] := K14.wr W15 (Or.inr sz_b4)
  have N15 := Fr.snoc X15 N14 g_b4
  obtain ⟨cl_b4_506, Ar_b4, q_b4, S_b4, N_b4, H_b4, G_b4⟩ := V_b4_15
  have hin506 : ¬ ((11 : Int32) < 0 ∨ cl_b4_506.slots.size ≤ ((11 : Int32)).toNatClampNeg) := inb_of S_b4 ⟨by decide, by decide⟩
  obtain ⟨T16, h16, X16, e16, W16, st16⟩ := stJ X15 hx hZ e15 Ar_b4 (j := (11 : Int32)) hin506 (g := (mkF m 506 #[s0, s1, s2, s3, s4, s5, s6, s7, s8, s9, s10, s11, s12, s13, s14, s15, s16, s17] [.long 100000000000, .int 11, .ref b4, .ref b4])) rfl rfl (hb hby at_506)
  have V_b4_16 : Arv Z h16 b4 k4 .long (19 : Int32) [.long 1, .long 10, .long 100, .long 1000, .long 10000, .long 100000, .long 1000000, .long 10000000, .long 100000000, .long 1000000000, .long 10000000000, .long 100000000000, .long 0, .long 0, .long 0, .long 0, .long 0, .long 0, .long 0] (.long 0) := Arv.set Ar_b4 q_b4 S_b4 N_b4 H_b4 G_b4 rfl W16 11 rfl (Nat.le_of_ble_eq_true rfl)
  have K16 : Keep h0 h16 [] := K15.wr W16 (Or.inr sz_b4)
  have N16 := Fr.snoc X16 N15 g_b4
  obtain ⟨cl_b4_513, Ar_b4, q_b4, S_b4, N_b4, H_b4, G_b4⟩ := V_b4_16
  have hin513 : ¬ ((12 : Int32) < 0 ∨ cl_b4_513.slots.size ≤ ((12 : Int32)).toNatClampNeg) := inb_of S_b4 ⟨by decide, by decide⟩
  obtain ⟨T17, h17, X17, e17, W17, st17⟩ := stJ X16 hx hZ e16 Ar_b4 (j := (12 : Int32)) hin513 (g := (mkF m 513 #[s0, s1, s2, s3, s4, s5, s6, s7, s8, s9, s10, s11, s12, s13, s14, s15, s16, s17] [.long 1000000000000, .int 12, .ref b4, .ref b4])) rfl rfl (hb hby at_513)
  have V_b4_17 : Arv Z h17 b4 k4 .long (19 : Int32) [.long 1, .long 10, .long 100, .long 1000, .long 10000, .long 100000, .long 1000000, .long 10000000, .long 100000000, .long 1000000000, .long 10000000000, .long 100000000000, .long 1000000000000, .long 0, .long 0, .long 0, .long 0, .long 0, .long 0] (.long 0) := Arv.set Ar_b4 q_b4 S_b4 N_b4 H_b4 G_b4 rfl W17 12 rfl (Nat.le_of_ble_eq_true rfl)
  have K17 : Keep h0 h17 [] := K16.wr W17 (Or.inr sz_b4)
  have N17 := Fr.snoc X17 N16 g_b4
  obtain ⟨cl_b4_520, Ar_b4, q_b4, S_b4, N_b4, H_b4, G_b4⟩ := V_b4_17
  have hin520 : ¬ ((13 : Int32) < 0 ∨ cl_b4_520.slots.size ≤ ((13 : Int32)).toNatClampNeg) := inb_of S_b4 ⟨by decide, by decide⟩
  obtain ⟨T18, h18, X18, e18, W18, st18⟩ := stJ X17 hx hZ e17 Ar_b4 (j := (13 : Int32)) hin520 (g := (mkF m 520 #[s0, s1, s2, s3, s4, s5, s6, s7, s8, s9, s10, s11, s12, s13, s14, s15, s16, s17] [.long 10000000000000, .int 13, .ref b4, .ref b4])) rfl rfl (hb hby at_520)
  have V_b4_18 : Arv Z h18 b4 k4 .long (19 : Int32) [.long 1, .long 10, .long 100, .long 1000, .long 10000, .long 100000, .long 1000000, .long 10000000, .long 100000000, .long 1000000000, .long 10000000000, .long 100000000000, .long 1000000000000, .long 10000000000000, .long 0, .long 0, .long 0, .long 0, .long 0] (.long 0) := Arv.set Ar_b4 q_b4 S_b4 N_b4 H_b4 G_b4 rfl W18 13 rfl (Nat.le_of_ble_eq_true rfl)
  have K18 : Keep h0 h18 [] := K17.wr W18 (Or.inr sz_b4)
  have N18 := Fr.snoc X18 N17 g_b4
  obtain ⟨cl_b4_527, Ar_b4, q_b4, S_b4, N_b4, H_b4, G_b4⟩ := V_b4_18
  have hin527 : ¬ ((14 : Int32) < 0 ∨ cl_b4_527.slots.size ≤ ((14 : Int32)).toNatClampNeg) := inb_of S_b4 ⟨by decide, by decide⟩
  obtain ⟨T19, h19, X19, e19, W19, st19⟩ := stJ X18 hx hZ e18 Ar_b4 (j := (14 : Int32)) hin527 (g := (mkF m 527 #[s0, s1, s2, s3, s4, s5, s6, s7, s8, s9, s10, s11, s12, s13, s14, s15, s16, s17] [.long 100000000000000, .int 14, .ref b4, .ref b4])) rfl rfl (hb hby at_527)
  have V_b4_19 : Arv Z h19 b4 k4 .long (19 : Int32) [.long 1, .long 10, .long 100, .long 1000, .long 10000, .long 100000, .long 1000000, .long 10000000, .long 100000000, .long 1000000000, .long 10000000000, .long 100000000000, .long 1000000000000, .long 10000000000000, .long 100000000000000, .long 0, .long 0, .long 0, .long 0] (.long 0) := Arv.set Ar_b4 q_b4 S_b4 N_b4 H_b4 G_b4 rfl W19 14 rfl (Nat.le_of_ble_eq_true rfl)
  have K19 : Keep h0 h19 [] := K18.wr W19 (Or.inr sz_b4)
  have N19 := Fr.snoc X19 N18 g_b4
  obtain ⟨cl_b4_534, Ar_b4, q_b4, S_b4, N_b4, H_b4, G_b4⟩ := V_b4_19
  have hin534 : ¬ ((15 : Int32) < 0 ∨ cl_b4_534.slots.size ≤ ((15 : Int32)).toNatClampNeg) := inb_of S_b4 ⟨by decide, by decide⟩
  obtain ⟨T20, h20, X20, e20, W20, st20⟩ := stJ X19 hx hZ e19 Ar_b4 (j := (15 : Int32)) hin534 (g := (mkF m 534 #[s0, s1, s2, s3, s4, s5, s6, s7, s8, s9, s10, s11, s12, s13, s14, s15, s16, s17] [.long 1000000000000000, .int 15, .ref b4, .ref b4])) rfl rfl (hb hby at_534)
  have V_b4_20 : Arv Z h20 b4 k4 .long (19 : Int32) [.long 1, .long 10, .long 100, .long 1000, .long 10000, .long 100000, .long 1000000, .long 10000000, .long 100000000, .long 1000000000, .long 10000000000, .long 100000000000, .long 1000000000000, .long 10000000000000, .long 100000000000000, .long 1000000000000000, .long 0, .long 0, .long 0] (.long 0) := Arv.set Ar_b4 q_b4 S_b4 N_b4 H_b4 G_b4 rfl W20 15 rfl (Nat.le_of_ble_eq_true rfl)
  have K20 : Keep h0 h20 [] := K19.wr W20 (Or.inr sz_b4)
  have N20 := Fr.snoc X20 N19 g_b4
  obtain ⟨cl_b4_541, Ar_b4, q_b4, S_b4, N_b4, H_b4, G_b4⟩ := V_b4_20
  have hin541 : ¬ ((16 : Int32) < 0 ∨ cl_b4_541.slots.size ≤ ((16 : Int32)).toNatClampNeg) := inb_of S_b4 ⟨by decide, by decide⟩
  obtain ⟨T21, h21, X21, e21, W21, st21⟩ := stJ X20 hx hZ e20 Ar_b4 (j := (16 : Int32)) hin541 (g := (mkF m 541 #[s0, s1, s2, s3, s4, s5, s6, s7, s8, s9, s10, s11, s12, s13, s14, s15, s16, s17] [.long 10000000000000000, .int 16, .ref b4, .ref b4])) rfl rfl (hb hby at_541)
  have V_b4_21 : Arv Z h21 b4 k4 .long (19 : Int32) [.long 1, .long 10, .long 100, .long 1000, .long 10000, .long 100000, .long 1000000, .long 10000000, .long 100000000, .long 1000000000, .long 10000000000, .long 100000000000, .long 1000000000000, .long 10000000000000, .long 100000000000000, .long 1000000000000000, .long 10000000000000000, .long 0, .long 0] (.long 0) := Arv.set Ar_b4 q_b4 S_b4 N_b4 H_b4 G_b4 rfl W21 16 rfl (Nat.le_of_ble_eq_true rfl)
  have K21 : Keep h0 h21 [] := K20.wr W21 (Or.inr sz_b4)
  have N21 := Fr.snoc X21 N20 g_b4
  obtain ⟨cl_b4_548, Ar_b4, q_b4, S_b4, N_b4, H_b4, G_b4⟩ := V_b4_21
  have hin548 : ¬ ((17 : Int32) < 0 ∨ cl_b4_548.slots.size ≤ ((17 : Int32)).toNatClampNeg) := inb_of S_b4 ⟨by decide, by decide⟩
  obtain ⟨T22, h22, X22, e22, W22, st22⟩ := stJ X21 hx hZ e21 Ar_b4 (j := (17 : Int32)) hin548 (g := (mkF m 548 #[s0, s1, s2, s3, s4, s5, s6, s7, s8, s9, s10, s11, s12, s13, s14, s15, s16, s17] [.long 100000000000000000, .int 17, .ref b4, .ref b4])) rfl rfl (hb hby at_548)
  have V_b4_22 : Arv Z h22 b4 k4 .long (19 : Int32) [.long 1, .long 10, .long 100, .long 1000, .long 10000, .long 100000, .long 1000000, .long 10000000, .long 100000000, .long 1000000000, .long 10000000000, .long 100000000000, .long 1000000000000, .long 10000000000000, .long 100000000000000, .long 1000000000000000, .long 10000000000000000, .long 100000000000000000, .long 0] (.long 0) := Arv.set Ar_b4 q_b4 S_b4 N_b4 H_b4 G_b4 rfl W22 17 rfl (Nat.le_of_ble_eq_true rfl)
  have K22 : Keep h0 h22 [] := K21.wr W22 (Or.inr sz_b4)
  have N22 := Fr.snoc X22 N21 g_b4
  obtain ⟨cl_b4_555, Ar_b4, q_b4, S_b4, N_b4, H_b4, G_b4⟩ := V_b4_22
  have hin555 : ¬ ((18 : Int32) < 0 ∨ cl_b4_555.slots.size ≤ ((18 : Int32)).toNatClampNeg) := inb_of S_b4 ⟨by decide, by decide⟩
  obtain ⟨T23, h23, X23, e23, W23, st23⟩ := stJ X22 hx hZ e22 Ar_b4 (j := (18 : Int32)) hin555 (g := (mkF m 555 #[s0, s1, s2, s3, s4, s5, s6, s7, s8, s9, s10, s11, s12, s13, s14, s15, s16, s17] [.long 1000000000000000000, .int 18, .ref b4, .ref b4])) rfl rfl (hb hby at_555)
  have V_b4_23 : Arv Z h23 b4 k4 .long (19 : Int32) [.long 1, .long 10, .long 100, .long 1000, .long 10000, .long 100000, .long 1000000, .long 10000000, .long 100000000, .long 1000000000, .long 10000000000, .long 100000000000, .long 1000000000000, .long 10000000000000, .long 100000000000000, .long 1000000000000000, .long 10000000000000000, .long 100000000000000000, .long 1000000000000000000] (.long 0) := Arv.set Ar_b4 q_b4 S_b4 N_b4 H_b4 G_b4 rfl W23 18 rfl (Nat.le_of_ble_eq_true rfl)
  have K23 : Keep h0 h23 [] := K22.wr W23 (Or.inr sz_b4)
  have N23 := Fr.snoc X23 N22 g_b4
  refine ⟨T23, _, k4, X23, N23, by rw [e23]; exact K23, by rw [e23, ← g4]; exact V_b4_23, fun target kt => ?_⟩
  refine XS.bipush X0.here hx rfl (hb hby at_427) ?_
  refine st4 _ ?_
  refine XS.dup X4.here hx rfl (hb hby at_431) rfl rfl ?_
  refine XS.iconst X4.here hx rfl (hb hby at_432) ?_
  refine XS.lconst X4.here hx rfl (hb hby at_433) ?_
  refine st5 _ ?_
  refine XS.dup X5.here hx rfl (hb hby at_435) rfl rfl ?_
  refine XS.iconst X5.here hx rfl (hb hby at_436) ?_
  refine X5.ldc2Long hx hown (zT hZ hw 225 rfl) (g := (mkF m 437 #[s0, s1, s2, s3, s4, s5, s6, s7, s8, s9, s10, s11, s12, s13, s14, s15, s16, s17] [.int 1, .ref b4, .ref b4])) rfl (hb hby at_437) _ ?_
  refine st6 _ ?_
  refine XS.dup X6.here hx rfl (hb hby at_441) rfl rfl ?_
  refine XS.iconst X6.here hx rfl (hb hby at_442) ?_
  refine X6.ldc2Long hx hown (zT hZ hw 226 rfl) (g := (mkF m 443 #[s0, s1, s2, s3, s4, s5, s6, s7, s8, s9, s10, s11, s12, s13, s14, s15, s16, s17] [.int 2, .ref b4, .ref b4])) rfl (hb hby at_443) _ ?_
  refine st7 _ ?_
  refine XS.dup X7.here hx rfl (hb hby at_447) rfl rfl ?_
  refine XS.iconst X7.here hx rfl (hb hby at_448) ?_
  refine X7.ldc2Long hx hown (zT hZ hw 227 rfl) (g := (mkF m 449 #[s0, s1, s2, s3, s4, s5, s6, s7, s8, s9, s10, s11, s12, s13, s14, s15, s16, s17] [.int 3, .ref b4, .ref b4])) rfl (hb hby at_449) _ ?_
  refine st8 _ ?_
  refine XS.dup X8.here hx rfl (hb hby at_453) rfl rfl ?_
  refine XS.iconst X8.here hx rfl (hb hby at_454) ?_
  refine X8.ldc2Long hx hown (zT hZ hw 228 rfl) (g := (mkF m 455 #[s0, s1, s2, s3, s4, s5, s6, s7, s8, s9, s10, s11, s12, s13, s14, s15, s16, s17] [.int 4, .ref b4, .ref b4])) rfl (hb hby at_455) _ ?_
  refine st9 _ ?_
  refine XS.dup X9.here hx rfl (hb hby at_459) rfl rfl ?_
  refine XS.iconst X9.here hx rfl (hb hby at_460) ?_
  refine X9.ldc2Long hx hown (zT hZ hw 229 rfl) (g := (mkF m 461 #[s0, s1, s2, s3, s4, s5, s6, s7, s8, s9, s10, s11, s12, s13, s14, s15, s16, s17] [.int 5, .ref b4, .ref b4])) rfl (hb hby at_461) _ ?_
  refine st10 _ ?_
  refine XS.dup X10.here hx rfl (hb hby at_465) rfl rfl ?_
  refine XS.bipush X10.here hx rfl (hb hby at_466) ?_
  refine X10.ldc2Long hx hown (zT hZ hw 230 rfl) (g := (mkF m 468 #[s0, s1, s2, s3, s4, s5, s6, s7, s8, s9, s10, s11, s12, s13, s14, s15, s16, s17] [.int 6, .ref b4, .ref b4])) rfl (hb hby at_468) _ ?_
  refine st11 _ ?_
  refine XS.dup X11.here hx rfl (hb hby at_472) rfl rfl ?_
  refine XS.bipush X11.here hx rfl (hb hby at_473) ?_
  refine X11.ldc2Long hx hown (zT hZ hw 231 rfl) (g := (mkF m 475 #[s0, s1, s2, s3, s4, s5, s6, s7, s8, s9, s10, s11, s12, s13, s14, s15, s16, s17] [.int 7, .ref b4, .ref b4])) rfl (hb hby at_475) _ ?_
  refine st12 _ ?_
  refine XS.dup X12.here hx rfl (hb hby at_479) rfl rfl ?_
  refine XS.bipush X12.here hx rfl (hb hby at_480) ?_
  refine X12.ldc2Long hx hown (zT hZ hw 232 rfl) (g := (mkF m 482 #[s0, s1, s2, s3, s4, s5, s6, s7, s8, s9, s10, s11, s12, s13, s14, s15, s16, s17] [.int 8, .ref b4, .ref b4])) rfl (hb hby at_482) _ ?_
  refine st13 _ ?_
  refine XS.dup X13.here hx rfl (hb hby at_486) rfl rfl ?_
  refine XS.bipush X13.here hx rfl (hb hby at_487) ?_
  refine X13.ldc2Long hx hown (zT hZ hw 233 rfl) (g := (mkF m 489 #[s0, s1, s2, s3, s4, s5, s6, s7, s8, s9, s10, s11, s12, s13, s14, s15, s16, s17] [.int 9, .ref b4, .ref b4])) rfl (hb hby at_489) _ ?_
  refine st14 _ ?_
  refine XS.dup X14.here hx rfl (hb hby at_493) rfl rfl ?_
  refine XS.bipush X14.here hx rfl (hb hby at_494) ?_
  refine X14.ldc2Long hx hown (zT hZ hw 234 rfl) (g := (mkF m 496 #[s0, s1, s2, s3, s4, s5, s6, s7, s8, s9, s10, s11, s12, s13, s14, s15, s16, s17] [.int 10, .ref b4, .ref b4])) rfl (hb hby at_496) _ ?_
  refine st15 _ ?_
  refine XS.dup X15.here hx rfl (hb hby at_500) rfl rfl ?_
  refine XS.bipush X15.here hx rfl (hb hby at_501) ?_
  refine X15.ldc2Long hx hown (zT hZ hw 235 rfl) (g := (mkF m 503 #[s0, s1, s2, s3, s4, s5, s6, s7, s8, s9, s10, s11, s12, s13, s14, s15, s16, s17] [.int 11, .ref b4, .ref b4])) rfl (hb hby at_503) _ ?_
  refine st16 _ ?_
  refine XS.dup X16.here hx rfl (hb hby at_507) rfl rfl ?_
  refine XS.bipush X16.here hx rfl (hb hby at_508) ?_
  refine X16.ldc2Long hx hown (zT hZ hw 236 rfl) (g := (mkF m 510 #[s0, s1, s2, s3, s4, s5, s6, s7, s8, s9, s10, s11, s12, s13, s14, s15, s16, s17] [.int 12, .ref b4, .ref b4])) rfl (hb hby at_510) _ ?_
  refine st17 _ ?_
  refine XS.dup X17.here hx rfl (hb hby at_514) rfl rfl ?_
  refine XS.bipush X17.here hx rfl (hb hby at_515) ?_
  refine X17.ldc2Long hx hown (zT hZ hw 237 rfl) (g := (mkF m 517 #[s0, s1, s2, s3, s4, s5, s6, s7, s8, s9, s10, s11, s12, s13, s14, s15, s16, s17] [.int 13, .ref b4, .ref b4])) rfl (hb hby at_517) _ ?_
  refine st18 _ ?_
  refine XS.dup X18.here hx rfl (hb hby at_521) rfl rfl ?_
  refine XS.bipush X18.here hx rfl (hb hby at_522) ?_
  refine X18.ldc2Long hx hown (zT hZ hw 238 rfl) (g := (mkF m 524 #[s0, s1, s2, s3, s4, s5, s6, s7, s8, s9, s10, s11, s12, s13, s14, s15, s16, s17] [.int 14, .ref b4, .ref b4])) rfl (hb hby at_524) _ ?_
  refine st19 _ ?_
  refine XS.dup X19.here hx rfl (hb hby at_528) rfl rfl ?_
  refine XS.bipush X19.here hx rfl (hb hby at_529) ?_
  refine X19.ldc2Long hx hown (zT hZ hw 239 rfl) (g := (mkF m 531 #[s0, s1, s2, s3, s4, s5, s6, s7, s8, s9, s10, s11, s12, s13, s14, s15, s16, s17] [.int 15, .ref b4, .ref b4])) rfl (hb hby at_531) _ ?_
  refine st20 _ ?_
  refine XS.dup X20.here hx rfl (hb hby at_535) rfl rfl ?_
  refine XS.bipush X20.here hx rfl (hb hby at_536) ?_
  refine X20.ldc2Long hx hown (zT hZ hw 240 rfl) (g := (mkF m 538 #[s0, s1, s2, s3, s4, s5, s6, s7, s8, s9, s10, s11, s12, s13, s14, s15, s16, s17] [.int 16, .ref b4, .ref b4])) rfl (hb hby at_538) _ ?_
  refine st21 _ ?_
  refine XS.dup X21.here hx rfl (hb hby at_542) rfl rfl ?_
  refine XS.bipush X21.here hx rfl (hb hby at_543) ?_
  refine X21.ldc2Long hx hown (zT hZ hw 241 rfl) (g := (mkF m 545 #[s0, s1, s2, s3, s4, s5, s6, s7, s8, s9, s10, s11, s12, s13, s14, s15, s16, s17] [.int 17, .ref b4, .ref b4])) rfl (hb hby at_545) _ ?_
  refine st22 _ ?_
  refine XS.dup X22.here hx rfl (hb hby at_549) rfl rfl ?_
  refine XS.bipush X22.here hx rfl (hb hby at_550) ?_
  refine X22.ldc2Long hx hown (zT hZ hw 242 rfl) (g := (mkF m 552 #[s0, s1, s2, s3, s4, s5, s6, s7, s8, s9, s10, s11, s12, s13, s14, s15, s16, s17] [.int 18, .ref b4, .ref b4])) rfl (hb hby at_552) _ ?_
  refine st23 _ ?_
  refine XS.astore X23.here hx rfl (hb hby at_556) rfl rfl (l' := #[s0, s1, s2, s3, s4, s5, s6, s7, s8, s9, s10, s11, s12, .val (.ref b4), s14, s15, s16, s17]) (os0_556_own_pw hs13) ?_
  subst g4
  exact kt
theorem own_pint : ∀ j, j < 19 → (own_p.getD j 0).toInt = 10 ^ j := by decide +kernel
/-- v's size is nn -/
def own_Ab (v : Int64) (nn : Nat) : Prop := nn ≤ 2 ^ 63 ∧ ((v < 0 ∧ v.toInt = -(nn : Int)) ∨ (¬ v < 0 ∧ v.toInt = (nn : Int) ∧ nn < 2 ^ 63))
theorem own_ab (v : Int64) (nn : Nat) (hn : nn ≤ 2 ^ 63) (h : (if v < 0 then v else -v) = Jvm.Free.SBG.negL nn) : own_Ab v nn := by
  have e := congrArg Int64.toInt h
  rw [Jvm.Free.SBG.negL_toInt hn] at e
  refine ⟨hn, ?_⟩
  by_cases hv : v < 0
  · rw [if_pos hv] at e; exact Or.inl ⟨hv, e⟩
  · rw [if_neg hv, Int64.toInt_neg] at e
    have h0 : ¬ v.toInt < 0 := by rw [Int64.lt_iff_toInt_lt] at hv; exact hv
    have h1 := v.toInt_lt
    rw [Jvm.Free.SBG.bmL (by omega) (by omega)] at e
    exact Or.inr ⟨hv, by omega, by omega⟩
theorem own_div (v p : Int64) (nn j : Nat) (ha : own_Ab v nn) (hp : p.toInt = 10 ^ j) : own_Ab (v / p) (nn / 10 ^ j) ∨ (nn / 10 ^ j = 0 ∧ v / p = 0) := by
  have hpp : (0 : Int) < 10 ^ j := by have : (0 : Nat) < 10 ^ j := Nat.pow_pos (by omega); exact_mod_cast this
  obtain ⟨hn, hv⟩ := ha
  have hle : nn / 10 ^ j ≤ nn := Nat.div_le_self _ _
  have hdiv : (v / p).toInt = (v.toInt.tdiv (10 ^ j)).bmod (2 ^ 64) := by rw [Int64.toInt_div, hp]
  have cast : ((10 : Int) ^ j) = (((10 ^ j : Nat)) : Int) := by norm_cast
  rcases hv with ⟨hv, e⟩ | ⟨hv, e, h63⟩
  · rw [e, cast, Int.neg_tdiv, ← Int.ofNat_tdiv] at hdiv
    generalize nn / 10 ^ j = d at *
    rw [Jvm.Free.SBG.bmL (by omega) (by omega)] at hdiv
    by_cases hz : d = 0
    · exact Or.inr ⟨hz, by apply Int64.toInt_inj.mp; rw [hdiv, hz]; rfl⟩
    · exact Or.inl ⟨by omega, Or.inl ⟨by rw [Int64.lt_iff_toInt_lt, hdiv]; show _ < (0 : Int); omega, hdiv⟩⟩
  · rw [e, cast, ← Int.ofNat_tdiv] at hdiv
    generalize nn / 10 ^ j = d at *
    rw [Jvm.Free.SBG.bmL (by omega) (by omega)] at hdiv
    exact Or.inl ⟨by omega, Or.inr ⟨by rw [Int64.lt_iff_toInt_lt, hdiv]; show ¬ _ < (0 : Int); omega, hdiv, by omega⟩⟩
def own_nz (v p : Int64) : Int32 := if v / p = 0 then 0 else 1
theorem own_nz_eq (v p : Int64) (nn j : Nat) (ha : own_Ab v nn) (hp : p.toInt = 10 ^ j) : own_nz v p = Int32.ofNat (if 10 ^ j ≤ nn then 1 else 0) := by
  have hpos : 0 < 10 ^ j := Nat.pow_pos (by omega)
  have key : v / p = 0 ↔ nn / 10 ^ j = 0 := by
    rcases own_div v p nn j ha hp with h | h
    · obtain ⟨-, ⟨h1, h2⟩ | ⟨h1, h2, -⟩⟩ := h
      · constructor
        · intro q; rw [q] at h1; exact absurd h1 (by decide)
        · intro q; rw [q] at h2; apply Int64.toInt_inj.mp; rw [h2]; rfl
      · constructor
        · intro q; rw [q] at h2; have : (0 : Int64).toInt = 0 := rfl; rw [this] at h2; omega
        · intro q; rw [q] at h2; apply Int64.toInt_inj.mp; rw [h2]; rfl
    · exact ⟨fun _ => h.1, fun _ => h.2⟩
  unfold own_nz
  by_cases h : 10 ^ j ≤ nn
  · rw [if_pos h, if_neg]
    · rfl
    · rw [key]; have := Nat.div_pos h hpos; omega
  · rw [if_neg h, if_pos]
    · rfl
    · rw [key]; exact Nat.div_eq_of_lt (by omega)
def own_rem (v p : Int64) : Int64 := (v / p) - ((v / p) / (10 : Int64)) * (10 : Int64)
def own_abs (x : Int64) : Int64 := if x < 0 then -x else x
theorem own_dig (v p : Int64) (nn j : Nat) (ha : own_Ab v nn) (hp : p.toInt = 10 ^ j) : (own_abs (own_rem v p)).toInt = ((nn / 10 ^ j % 10 : Nat) : Int) := by
  have h10 : (10 : Int64).toInt = 10 := by decide
  have mulT : ∀ a b : Int64, (a * b).toInt = (a.toInt * b.toInt).bmod (2 ^ 64) := fun a b => Int64.toInt_mul a b
  have subT : ∀ a b : Int64, (a - b).toInt = (a.toInt - b.toInt).bmod (2 ^ 64) := fun a b => Int64.toInt_sub a b
  rcases own_div v p nn j ha hp with h | h
  · generalize hd : nn / 10 ^ j = d at *
    generalize hx : v / p = x at *
    obtain ⟨hdn, h⟩ := h
    have r : (own_rem v p).toInt = x.toInt - (x.toInt.tdiv 10) * 10 := by
      unfold own_rem
      rw [hx, subT, mulT, Int64.toInt_div, h10]
      rcases h with ⟨-, e⟩ | ⟨-, e, -⟩
      · rw [e, Int.neg_tdiv, show (10 : Int) = ((10 : Nat) : Int) from rfl, ← Int.ofNat_tdiv]
        rw [Jvm.Free.SBG.bmL (x := -((d / 10 : Nat) : Int)) (by omega) (by omega), Jvm.Free.SBG.bmL (x := -((d / 10 : Nat) : Int) * ((10 : Nat) : Int)) (by omega) (by omega), Jvm.Free.SBG.bmL (by omega) (by omega)]
      · rw [e, show (10 : Int) = ((10 : Nat) : Int) from rfl, ← Int.ofNat_tdiv]
        rw [Jvm.Free.SBG.bmL (x := ((d / 10 : Nat) : Int)) (by omega) (by omega), Jvm.Free.SBG.bmL (x := ((d / 10 : Nat) : Int) * ((10 : Nat) : Int)) (by omega) (by omega), Jvm.Free.SBG.bmL (by omega) (by omega)]
    unfold own_abs
    rcases h with ⟨-, e⟩ | ⟨-, e, -⟩
    · rw [e, Int.neg_tdiv, show (10 : Int) = ((10 : Nat) : Int) from rfl, ← Int.ofNat_tdiv] at r
      by_cases hl : own_rem v p < 0
      · rw [if_pos hl, Int64.toInt_neg, r, Jvm.Free.SBG.bmL (by omega) (by omega)]; omega
      · rw [if_neg hl]
        rw [Int64.lt_iff_toInt_lt, r] at hl
        have : ¬ (-(d : Int) - -((d / 10 : Nat) : Int) * ((10 : Nat) : Int) < 0) := hl
        rw [r]; omega
    · rw [e, show (10 : Int) = ((10 : Nat) : Int) from rfl, ← Int.ofNat_tdiv] at r
      by_cases hl : own_rem v p < 0
      · rw [Int64.lt_iff_toInt_lt, r] at hl
        have : (d : Int) - ((d / 10 : Nat) : Int) * ((10 : Nat) : Int) < 0 := hl
        omega
      · rw [if_neg hl, r]; omega
  · unfold own_abs own_rem
    rw [h.2, h.1]
    decide
def own_ch (v p : Int64) : Int32 := nar .char (((48 : Int32) + ((own_abs (own_rem v p)).toInt32)).toUInt32.toUInt16.toUInt32.toInt32)
theorem own_ch_eq (v p : Int64) (nn j : Nat) (ha : own_Ab v nn) (hp : p.toInt = 10 ^ j) : own_ch v p = Int32.ofNat (48 + nn / 10 ^ j % 10) := by
  have h := own_dig v p nn j ha hp
  have hlt : nn / 10 ^ j % 10 < 10 := Nat.mod_lt _ (by omega)
  generalize nn / 10 ^ j % 10 = d at *
  have e : own_abs (own_rem v p) = Int64.ofNat d := by
    apply Int64.toInt_inj.mp
    rw [h, Int64.toInt_ofNat_of_lt (by omega)]
  unfold own_ch
  rw [e]
  exact (by decide +kernel : ∀ d : Fin 10, nar .char (((48 : Int32) + ((Int64.ofNat d.val).toInt32)).toUInt32.toUInt16.toUInt32.toInt32) = Int32.ofNat (48 + d.val)) ⟨d, hlt⟩
theorem own_dg : ∀ (f n : Nat), n < 100 ^ f → ∀ j, 1 ≤ j → (10 ^ j ≤ n ↔ j < Jvm.Free.SBG.wN f n) := by
  intro f
  induction f with
  | zero => intro n hn j hj; have : n = 0 := by simp at hn; exact hn
            subst this
            have hp : 0 < 10 ^ j := Nat.pow_pos (by omega)
            simp only [Jvm.Free.SBG.wN]; omega
  | succ f ih =>
    intro n hn j hj
    simp only [Jvm.Free.SBG.wN]
    by_cases h : 100 ≤ n
    · rw [if_pos h]
      have hf : n / 100 < 100 ^ f := Nat.div_lt_of_lt_mul (by rw [Nat.pow_succ, Nat.mul_comm] at hn; exact hn)
      have h1 : 1 ≤ Jvm.Free.SBG.wN f (n / 100) := by
        cases f with
        | zero => simp at hf; omega
        | succ f => exact Jvm.Free.SBG.wN_pos f _
      obtain rfl | rfl | ⟨k, rfl⟩ : j = 1 ∨ j = 2 ∨ ∃ k, j = k + 3 := by
        by_cases a : j = 1
        · exact Or.inl a
        · by_cases b : j = 2
          · exact Or.inr (Or.inl b)
          · exact Or.inr (Or.inr ⟨j - 3, by omega⟩)
      · constructor
        · intro _; omega
        · intro _; simp; omega
      · constructor
        · intro _; omega
        · intro _; simp; omega
      · have := ih (n / 100) hf (k + 1) (by omega)
        rw [Nat.le_div_iff_mul_le (by omega), show 10 ^ (k + 1) * 100 = 10 ^ (k + 3) by rw [show k + 3 = (k + 1) + 2 by omega, Nat.pow_add _ (k + 1) 2]] at this
        rw [this]; omega
    · rw [if_neg h]
      obtain rfl | ⟨k, rfl⟩ : j = 1 ∨ ∃ k, j = k + 2 := by
        by_cases a : j = 1
        · exact Or.inl a
        · exact Or.inr ⟨j - 2, by omega⟩
      · by_cases h9 : 9 < n
        · rw [if_pos h9]; simp; omega
        · rw [if_neg h9]; simp; omega
      · have hp : 1 ≤ 10 ^ k := Nat.pow_pos (by omega)
        have e : 10 ^ (k + 2) = 10 ^ k * 100 := Nat.pow_add 10 k 2
        rw [e]
        by_cases h9 : 9 < n
        · rw [if_pos h9]; omega
        · rw [if_neg h9]; omega
theorem own_dgL (n : Nat) (hn : n ≤ 2 ^ 63) (j : Nat) (hj : 1 ≤ j) : 10 ^ j ≤ n ↔ j < Jvm.Free.SBG.digitsL n := own_dg 10 n (by
  have : (100 : Nat) ^ 10 = 100000000000000000000 := by decide
  omega) j hj
theorem own_dg19 (n : Nat) (hn : n ≤ 2 ^ 63) : 1 ≤ Jvm.Free.SBG.digitsL n ∧ Jvm.Free.SBG.digitsL n ≤ 19 := by
  refine ⟨(Jvm.Free.SBG.digitsL_pos n).1, ?_⟩
  have := own_dgL n hn 19 (by omega)
  have e : (10 : Nat) ^ 19 = 10000000000000000000 := by decide
  rw [e] at this
  omega
def own_nj (D j : Nat) : Int32 := Int32.ofNat (if j < D then 1 else 0)
theorem own_nd : ∀ D, D < 20 → 1 ≤ D → ((1 : Int32) + own_nj D 1 + own_nj D 2 + own_nj D 3 + own_nj D 4 + own_nj D 5 + own_nj D 6 + own_nj D 7 + own_nj D 8 + own_nj D 9 + own_nj D 10 + own_nj D 11 + own_nj D 12 + own_nj D 13 + own_nj D 14 + own_nj D 15 + own_nj D 16 + own_nj D 17 + own_nj D 18) = Int32.ofNat D := by decide +kernel
theorem own_nzj (v p : Int64) (nn j : Nat) (ha : own_Ab v nn) (hp : p.toInt = 10 ^ j) (hj : 1 ≤ j) : own_nz v p = own_nj (Jvm.Free.SBG.digitsL nn) j := by
  rw [own_nz_eq v p nn j ha hp]
  unfold own_nj
  by_cases h : 10 ^ j ≤ nn
  · rw [if_pos h, if_pos ((own_dgL nn ha.1 j hj).mp h)]
  · rw [if_neg h, if_neg (fun q => h ((own_dgL nn ha.1 j hj).mpr q))]
def own_put (es : List Int32) (s nd i : Nat) (ch : Int32) : List Int32 := if i < nd then es.set (s + nd - 1 - i) ch else es
def l44 : List (Nat × Instr × Nat) := [(0, .lload_n 0, 1), (1, .lload_n 2, 1), (2, .ldiv, 1), (3, .lconst 0, 1), (4, .lcmp, 1), (5, .ifCond .eq 7, 3), (12, .iconst 0, 1), (13, .ireturn, 1), (8, .iconst 1, 1), (9, .goto 4, 3)]
theorem D44 {c : Code} (h : c.code = method_3_code) : zQ c l44 := zD h (by decide +kernel)
theorem pn_44 : plainName "com/example/dealt/dealt/metrics/ExpositionCounterPinLaw" = true := by first | (simp [plainName, overriddenIn]; done) | decide +kernel
theorem ef_44 (m : MethodId) (x0 : Int64) (x1 : Int64) : entryFrame m #[(.long x0), (.long x1)] 4 = mkF m 0 #[.val (.long x0), .second, .val (.long x1), .second] [] := by first | (simp [entryFrame, mkF, argsToLocals, Value.category]; done) | rfl
theorem r44a (l : Launch) (Z : State) (a0 : Array Value) (hw : zH Z a0) (ws : List Jvm.Cond) (q1 : Int64) (q2 : Int64) (h0 : Heap) (n0 : Nat) (Z0 : n0 ≤ h0.size) (hnz2 : ¬ (q2 = (0 : Int64))) (hc5 : (lcmpW (q1 / q2) (0 : Int64)) = (0 : Int32)) :
    zM l Z h0 ws y_3 method_3_code 4 (some .int) (zr 0 0 0 0) #[(.long q1), (.long q2)] (QR (some (.int 0)) h0 n0) := by
  refine MetFree.of_bodySF (plainFor_of_name pn_44) hisR ?_
  intro p e s m args below meth c s₁ Bd hml0 hP hK
  obtain ⟨rfl, hZ, hh⟩ := hP
  have hx := Bd.exec
  have hby := Bd.bytes
  have hml : c.maxLocals = 4 := hml0
  have hown : s.vm.findClass "com/example/dealt/dealt/metrics/ExpositionCounterPinLaw" = some m.cls := findClass_of_methodNamed Bd.named
  have X0 : Stand p l e (zr 0 0 0 0) s m #[(.long q1), (.long q2)] below meth c s₁ [] 0 0 := Stand.of_body Bd
  have e0 : s₁.heap = h0 := by rw [← hh, Bd.state]; rfl
  have N0 := Fr.nil n0
  have pre0 := zP p e below s₁ (ef_44 m q1 q2)
  obtain ⟨fs, hr, hrun, hended, hW, hsame⟩ := X0.leave (v := some (.int 0)) (fun h => by rw [Bd.returns] at h; cases h)
  refine ⟨_, _, pre0 _ ?_, hrun, hended, _, _, rfl, ?_, ⟨_, rfl⟩, hW, hsame.mono (by decide) (by decide)⟩
  · refine XS.lloadN X0.here hx rfl (D44 hby 0 rfl) rfl ?_
    refine XS.lloadN X0.here hx rfl (D44 hby 1 rfl) rfl ?_
    refine XS.ldiv X0.here hx rfl (D44 hby 2 rfl) rfl hnz2 ?_
    refine XS.lconst X0.here hx rfl (D44 hby 3 rfl) ?_
    refine XS.lcmp X0.here hx rfl (D44 hby 4 rfl) rfl ?_
    refine XS.ifYes X0.here hx rfl (pc0 := 5) (pc' := 12) rfl (D44 hby 5 rfl) rfl ((if0 _ _).trans (teq hc5).1) (by decide) (by decide) ?_
    refine XS.iconst X0.here hx rfl (D44 hby 6 rfl) ?_
    exact retI X0 hx Bd.returns (D44 hby 7 rfl) hr
  · show QR (some (.int 0)) h0 n0 _ s₁.heap _
    rw [e0]
    exact ⟨rfl, N0, rfl⟩
theorem r44b (l : Launch) (Z : State) (a0 : Array Value) (hw : zH Z a0) (ws : List Jvm.Cond) (q1 : Int64) (q2 : Int64) (h0 : Heap) (n0 : Nat) (Z0 : n0 ≤ h0.size) (hnz2 : ¬ (q2 = (0 : Int64))) (hc5 : ¬ ((lcmpW (q1 / q2) (0 : Int64)) = (0 : Int32))) :
    zM l Z h0 ws y_3 method_3_code 4 (some .int) (zr 0 0 0 0) #[(.long q1), (.long q2)] (QR (some (.int 1)) h0 n0) := by
  refine MetFree.of_bodySF (plainFor_of_name pn_44) hisR ?_
  intro p e s m args below meth c s₁ Bd hml0 hP hK
  obtain ⟨rfl, hZ, hh⟩ := hP
  have hx := Bd.exec
  have hby := Bd.bytes
  have hml : c.maxLocals = 4 := hml0
  have hown : s.vm.findClass "com/example/dealt/dealt/metrics/ExpositionCounterPinLaw" = some m.cls := findClass_of_methodNamed Bd.named
  have X0 : Stand p l e (zr 0 0 0 0) s m #[(.long q1), (.long q2)] below meth c s₁ [] 0 0 := Stand.of_body Bd
  have e0 : s₁.heap = h0 := by rw [← hh, Bd.state]; rfl
  have N0 := Fr.nil n0
  have pre0 := zP p e below s₁ (ef_44 m q1 q2)
  obtain ⟨fs, hr, hrun, hended, hW, hsame⟩ := X0.leave (v := some (.int 1)) (fun h => by rw [Bd.returns] at h; cases h)
  refine ⟨_, _, pre0 _ ?_, hrun, hended, _, _, rfl, ?_, ⟨_, rfl⟩, hW, hsame.mono (by decide) (by decide)⟩
  · refine XS.lloadN X0.here hx rfl (D44 hby 0 rfl) rfl ?_
    refine XS.lloadN X0.here hx rfl (D44 hby 1 rfl) rfl ?_
    refine XS.ldiv X0.here hx rfl (D44 hby 2 rfl) rfl hnz2 ?_
    refine XS.lconst X0.here hx rfl (D44 hby 3 rfl) ?_
    refine XS.lcmp X0.here hx rfl (D44 hby 4 rfl) rfl ?_
    refine XS.ifNo X0.here hx rfl (D44 hby 5 rfl) rfl ((if0 _ _).trans (feq hc5).1) ?_
    refine XS.iconst X0.here hx rfl (D44 hby 8 rfl) ?_
    refine XS.goto X0.here hx rfl (pc0 := 9) (pc' := 13) rfl (D44 hby 9 rfl) (by decide) (by decide) ?_
    exact retI X0 hx Bd.returns (D44 hby 7 rfl) hr
  · show QR (some (.int 1)) h0 n0 _ s₁.heap _
    rw [e0]
    exact ⟨rfl, N0, rfl⟩
def l46 : List (Nat × Instr × Nat) := [(0, .lload_n 0, 1), (1, .lconst 0, 1), (2, .lcmp, 1), (3, .ifCond .ge 8, 3), (11, .lload_n 0, 1), (12, .lreturn, 1), (6, .lload_n 0, 1), (7, .lneg, 1), (8, .goto 4, 3)]
theorem D46 {c : Code} (h : c.code = jdk_29_method_61_code) : zQ c l46 := zD h (by decide +kernel)
theorem ef_46 (m : MethodId) (x0 : Int64) : entryFrame m #[(.long x0)] 2 = mkF m 0 #[.val (.long x0), .second] [] := by first | (simp [entryFrame, mkF, argsToLocals, Value.category]; done) | rfl
theorem r46a (l : Launch) (Z : State) (a0 : Array Value) (hw : zH Z a0) (ws : List Jvm.Cond) (q1 : Int64) (h0 : Heap) (n0 : Nat) (Z0 : n0 ≤ h0.size) (hc3 : ¬ ((lcmpW q1 (0 : Int64)) < (0 : Int32))) :
    zM l Z h0 ws y_15 jdk_29_method_61_code 2 (some .long) (zr 0 0 0 0) #[(.long q1)] (QR (some (.long q1)) h0 n0) := by
  refine MetFree.of_bodySF (Jvm.Free.JP.mathPlain rfl (by decide +kernel)) hisR ?_
  intro p e s m args below meth c s₁ Bd hml0 hP hK
  obtain ⟨rfl, hZ, hh⟩ := hP
  have hx := Bd.exec
  have hby := Bd.bytes
  have hml : c.maxLocals = 2 := hml0
  have hown : s.vm.findClass "java/lang/Math" = some m.cls := findClass_of_methodNamed Bd.named
  have X0 : Stand p l e (zr 0 0 0 0) s m #[(.long q1)] below meth c s₁ [] 0 0 := Stand.of_body Bd
  have e0 : s₁.heap = h0 := by rw [← hh, Bd.state]; rfl
  have N0 := Fr.nil n0
  have pre0 := zP p e below s₁ (ef_46 m q1)
  obtain ⟨fs, hr, hrun, hended, hW, hsame⟩ := X0.leave (v := some (.long q1)) (fun h => by rw [Bd.returns] at h; cases h)
  refine ⟨_, _, pre0 _ ?_, hrun, hended, _, _, rfl, ?_, ⟨_, rfl⟩, hW, hsame.mono (by decide) (by decide)⟩
  · refine XS.lloadN X0.here hx rfl (D46 hby 0 rfl) rfl ?_
    refine XS.lconst X0.here hx rfl (D46 hby 1 rfl) ?_
    refine XS.lcmp X0.here hx rfl (D46 hby 2 rfl) rfl ?_
    refine XS.ifYes X0.here hx rfl (pc0 := 3) (pc' := 11) rfl (D46 hby 3 rfl) rfl ((if0 _ _).trans (flt hc3).2.1) (by decide) (by decide) ?_
    refine XS.lloadN X0.here hx rfl (D46 hby 4 rfl) rfl ?_
    jvm_step X0.here [X0.here.top, hx, (D46 hby 5 rfl), X0.method', Bd.returns, narrow]
    first | (intro acts; rw [hr _ acts rfl rfl rfl]) | rw [hr _ _ rfl rfl rfl]
    exact Steps.refl _
  · show QR (some (.long q1)) h0 n0 _ s₁.heap _
    rw [e0]
    exact ⟨rfl, N0, rfl⟩
theorem r46b (l : Launch) (Z : State) (a0 : Array Value) (hw : zH Z a0) (ws : List Jvm.Cond) (q1 : Int64) (h0 : Heap) (n0 : Nat) (Z0 : n0 ≤ h0.size) (hc3 : (lcmpW q1 (0 : Int64)) < (0 : Int32)) :
    zM l Z h0 ws y_15 jdk_29_method_61_code 2 (some .long) (zr 0 0 0 0) #[(.long q1)] (QR (some (.long (-q1))) h0 n0) := by
  refine MetFree.of_bodySF (Jvm.Free.JP.mathPlain rfl (by decide +kernel)) hisR ?_
  intro p e s m args below meth c s₁ Bd hml0 hP hK
  obtain ⟨rfl, hZ, hh⟩ := hP
  have hx := Bd.exec
  have hby := Bd.bytes
  have hml : c.maxLocals = 2 := hml0
  have hown : s.vm.findClass "java/lang/Math" = some m.cls := findClass_of_methodNamed Bd.named
  have X0 : Stand p l e (zr 0 0 0 0) s m #[(.long q1)] below meth c s₁ [] 0 0 := Stand.of_body Bd
  have e0 : s₁.heap = h0 := by rw [← hh, Bd.state]; rfl
  have N0 := Fr.nil n0
  have pre0 := zP p e below s₁ (ef_46 m q1)
  obtain ⟨fs, hr, hrun, hended, hW, hsame⟩ := X0.leave (v := some (.long (-q1))) (fun h => by rw [Bd.returns] at h; cases h)
  refine ⟨_, _, pre0 _ ?_, hrun, hended, _, _, rfl, ?_, ⟨_, rfl⟩, hW, hsame.mono (by decide) (by decide)⟩
  · refine XS.lloadN X0.here hx rfl (D46 hby 0 rfl) rfl ?_
    refine XS.lconst X0.here hx rfl (D46 hby 1 rfl) ?_
    refine XS.lcmp X0.here hx rfl (D46 hby 2 rfl) rfl ?_
    refine XS.ifNo X0.here hx rfl (D46 hby 3 rfl) rfl ((if0 _ _).trans (tlt hc3).2.1) ?_
    refine XS.lloadN X0.here hx rfl (D46 hby 6 rfl) rfl ?_
    refine XS.lneg X0.here hx rfl (D46 hby 7 rfl) rfl ?_
    refine XS.goto X0.here hx rfl (pc0 := 8) (pc' := 12) rfl (D46 hby 8 rfl) (by decide) (by decide) ?_
    jvm_step X0.here [X0.here.top, hx, (D46 hby 5 rfl), X0.method', Bd.returns, narrow]
    first | (intro acts; rw [hr _ acts rfl rfl rfl]) | rw [hr _ _ rfl rfl rfl]
    exact Steps.refl _
  · show QR (some (.long (-q1))) h0 n0 _ s₁.heap _
    rw [e0]
    exact ⟨rfl, N0, rfl⟩
theorem r44 (l : Launch) (Z : State) (a0 : Array Value) (hw : zH Z a0) (ws : List Jvm.Cond) (q1 q2 : Int64) (vv : Int32) (h0 : Heap) (n0 : Nat) (Z0 : n0 ≤ h0.size) (hnz : ¬ q2 = 0) (hv : own_nz q1 q2 = vv) :
    zM l Z h0 ws y_3 method_3_code 4 (some .int) (zr 0 0 0 0) #[(.long q1), (.long q2)] (QR (some (.int vv)) h0 n0) := by
  subst hv
  by_cases h : q1 / q2 = 0
  · rw [show own_nz q1 q2 = 0 from if_pos h]; exact r44a l Z a0 hw ws q1 q2 h0 n0 Z0 hnz ((lw_eq _ _).mpr h)
  · rw [show own_nz q1 q2 = 1 from if_neg h]; exact r44b l Z a0 hw ws q1 q2 h0 n0 Z0 hnz (fun q => h ((lw_eq _ _).mp q))
theorem r46 (l : Launch) (Z : State) (a0 : Array Value) (hw : zH Z a0) (ws : List Jvm.Cond) (q1 : Int64) (h0 : Heap) (n0 : Nat) (Z0 : n0 ≤ h0.size) :
    zM l Z h0 ws y_15 jdk_29_method_61_code 2 (some .long) (zr 0 0 0 0) #[(.long q1)] (QR (some (.long (own_abs q1))) h0 n0) := by
  by_cases h : q1 < 0
  · rw [show own_abs q1 = -q1 from if_pos h]; exact r46b l Z a0 hw ws q1 h0 n0 Z0 ((lw_lt _ _).mpr h)
  · rw [show own_abs q1 = q1 from if_neg h]; exact r46a l Z a0 hw ws q1 h0 n0 Z0 (fun q => h ((lw_lt _ _).mp q))
def Q45 (Z : State) (a1 : Addr) (kd : ClassId) (es : List Int32) (h0 : Heap) (n0 : Nat) (v : Option Value) (h : Heap) (L : List Loc) : Prop := v = none ∧ Fr n0 L ∧ Keep h0 h [a1] ∧ Arv Z h a1 kd .char (55 : Int32) (es.map Value.int) (.int 0)
def l45 : List (Nat × Instr × Nat) := [(0, .iload_n 3, 1), (1, .iload_n 2, 1), (2, .if_icmp .ge 29, 3), (31, .return_, 1), (5, .aload_n 0, 1), (6, .iload_n 1, 1), (7, .iload_n 2, 1), (8, .iadd, 1), (9, .iconst 1, 1), (10, .isub, 1), (11, .iload_n 3, 1), (12, .isub, 1), (13, .bipush 48, 2), (15, .lload 4, 2), (17, .lload 6, 2), (19, .ldiv, 1), (20, .ldc2_w 23, 3), (23, .lrem, 1), (24, .invokestatic 77, 3), (27, .l2i, 1), (28, .iadd, 1), (29, .i2c, 1), (30, .castore, 1)]
theorem D45 {c : Code} (h : c.code = method_4_code) : zQ c l45 := zD h (by decide +kernel)
theorem ef_45 (m : MethodId) (x0 : Addr) (x1 : Int32) (x2 : Int32) (x3 : Int32) (x4 : Int64) (x5 : Int64) : entryFrame m #[.ref x0, .int x1, .int x2, .int x3, (.long x4), (.long x5)] 8 = mkF m 0 #[.val (.ref x0), .val (.int x1), .val (.int x2), .val (.int x3), .val (.long x4), .second, .val (.long x5), .second] [] := by first | (simp [entryFrame, mkF, argsToLocals, Value.category]; done) | rfl
theorem r45a (l : Launch) (Z : State) (a0 : Array Value) (hw : zH Z a0) (ws : List Jvm.Cond) (a1 : Addr) (s_ nd i_ : Nat) (q5 q6 : Int64) (es : List Int32) (kd : ClassId) (h0 : Heap) (n0 : Nat) (Z0 : n0 ≤ h0.size) (V : Arv Z h0 a1 kd .char (55 : Int32) (es.map Value.int) (.int 0)) (he : es.length = 55) (g_a1 : n0 ≤ a1) (hs : s_ + nd ≤ 54) (hi : i_ < 19) (hnz : ¬ q6 = 0) (hc : nd ≤ i_) :
    zM l Z h0 ws y_2 method_4_code 8 none (zr 1 0 0 16) #[.ref a1, (.int (Int32.ofNat s_)), (.int (Int32.ofNat nd)), (.int (Int32.ofNat i_)), (.long q5), (.long q6)] (Q45 Z a1 kd es h0 n0) := by
  refine MetFree.of_bodySF (plainFor_of_name pn_44) hisR ?_
  intro p e s m args below meth c s₁ Bd hml0 hP hK
  obtain ⟨rfl, hZ, hh⟩ := hP
  have hx := Bd.exec
  have hc2 : ¬ ((Int32.ofNat i_) < (Int32.ofNat nd)) := fun q => by have := (own_lt _ _ (by omega) (by omega)).mp q; omega
  have hby := Bd.bytes
  have hml : c.maxLocals = 8 := hml0
  have hown : s.vm.findClass "com/example/dealt/dealt/metrics/ExpositionCounterPinLaw" = some m.cls := findClass_of_methodNamed Bd.named
  have X0 : Stand p l e (zr 1 0 0 16) s m #[.ref a1, (.int (Int32.ofNat s_)), (.int (Int32.ofNat nd)), (.int (Int32.ofNat i_)), (.long q5), (.long q6)] below meth c s₁ [] 0 0 := Stand.of_body Bd
  have e0 : s₁.heap = h0 := by rw [← hh, Bd.state]; rfl
  have N0 := Fr.nil n0
  have pre0 := zP p e below s₁ (ef_45 m a1 (Int32.ofNat s_) (Int32.ofNat nd) (Int32.ofNat i_) q5 q6)
  obtain ⟨fs, hr, hrun, hended, hW, hsame⟩ := X0.leave (v := none) (fun _ => rfl)
  refine ⟨_, _, pre0 _ ?_, hrun, hended, _, _, rfl, ?_, ⟨_, rfl⟩, hW, hsame.mono (by decide) (by decide)⟩
  · refine XS.iloadN X0.here hx rfl (D45 hby 0 rfl) rfl ?_
    refine XS.iloadN X0.here hx rfl (D45 hby 1 rfl) rfl ?_
    refine XS.icmpYes X0.here hx rfl (pc0 := 2) (pc' := 31) rfl (D45 hby 2 rfl) rfl (flt hc2).2.1 (by decide) (by decide) ?_
    exact X0.returnOut hx Bd.returns (D45 hby 3 rfl) hr
  · show Q45 Z a1 kd es h0 n0 _ s₁.heap _
    rw [e0]
    exact ⟨rfl, N0, Keep.refl _ _, V⟩
theorem pd_45_37 : parseMethodDescriptor "(J)J" = some ⟨[.long], some .long⟩ := by decide +kernel
theorem r45b (l : Launch) (Z : State) (a0 : Array Value) (hw : zH Z a0) (ws : List Jvm.Cond) (a1 : Addr) (s_ nd i_ : Nat) (q5 q6 : Int64) (es : List Int32) (kd : ClassId) (h0 : Heap) (n0 : Nat) (Z0 : n0 ≤ h0.size) (V : Arv Z h0 a1 kd .char (55 : Int32) (es.map Value.int) (.int 0)) (he : es.length = 55) (g_a1 : n0 ≤ a1) (hs : s_ + nd ≤ 54) (hi : i_ < 19) (hnz : ¬ q6 = 0) (hc : i_ < nd) :
    zM l Z h0 ws y_2 method_4_code 8 none (zr 1 0 0 16) #[.ref a1, (.int (Int32.ofNat s_)), (.int (Int32.ofNat nd)), (.int (Int32.ofNat i_)), (.long q5), (.long q6)] (Q45 Z a1 kd (es.set (s_ + nd - 1 - i_) (own_ch q5 q6)) h0 n0) := by
  refine MetFree.of_bodySF (plainFor_of_name pn_44) hisR ?_
  intro p e s m args below meth c s₁ Bd hml0 hP hK
  obtain ⟨rfl, hZ, hh⟩ := hP
  have hx := Bd.exec
  have hc2 : (Int32.ofNat i_) < (Int32.ofNat nd) := (own_lt _ _ (by omega) (by omega)).mpr hc
  have eI : ((((Int32.ofNat s_) + (Int32.ofNat nd)) - (1 : Int32)) - (Int32.ofNat i_)) = Int32.ofNat (s_ + nd - 1 - i_) := by rw [← Int32.ofNat_add, show (1 : Int32) = Int32.ofNat 1 from rfl, own_sub 1 (s_ + nd) (by omega), own_sub i_ (s_ + nd - 1) (by omega)]
  have xI : ((((Int32.ofNat s_) + (Int32.ofNat nd)) - (1 : Int32)) - (Int32.ofNat i_)).toNatClampNeg = s_ + nd - 1 - i_ := by rw [eI]; exact own_cl _ (by omega)
  have hnz19 : ¬ (q6 = (0 : Int64)) := hnz
  have hnz23 : ¬ ((10 : Int64) = (0 : Int64)) := by decide
  obtain ⟨cl_a1, Ar_a1, qa, Sa, Na, Ha, Ga⟩ := id V
  have hin30 : ¬ (((((Int32.ofNat s_) + (Int32.ofNat nd)) - (1 : Int32)) - (Int32.ofNat i_)) < 0 ∨ cl_a1.slots.size ≤ (((((Int32.ofNat s_) + (Int32.ofNat nd)) - (1 : Int32)) - (Int32.ofNat i_))).toNatClampNeg) := by
    rw [xI, Sa]; intro q_
    rcases q_ with q_ | q_
    · rw [eI] at q_; exact own_nn _ (by omega) q_
    · have : (55 : Int32).toNatClampNeg = 55 := by decide
      omega
  have hby := Bd.bytes
  have hml : c.maxLocals = 8 := hml0
  have hown : s.vm.findClass "com/example/dealt/dealt/metrics/ExpositionCounterPinLaw" = some m.cls := findClass_of_methodNamed Bd.named
  have X0 : Stand p l e (zr 1 0 0 16) s m #[.ref a1, (.int (Int32.ofNat s_)), (.int (Int32.ofNat nd)), (.int (Int32.ofNat i_)), (.long q5), (.long q6)] below meth c s₁ [] 0 0 := Stand.of_body Bd
  have e0 : s₁.heap = h0 := by rw [← hh, Bd.state]; rfl
  have N0 := Fr.nil n0
  have pre0 := zP p e below s₁ (ef_45 m a1 (Int32.ofNat s_) (Int32.ofNat nd) (Int32.ofNat i_) q5 q6)
  obtain ⟨_, _, ⟨T7, L7, k7, n7⟩, -, X7, ⟨Lc7, hQ7, l7, y7, z7⟩, st7⟩ := Jvm.LawKit.callS X0 hx (y := y_15) hown (zT hZ hw 250 rfl) (zT hZ hw 251 rfl) (zT hZ hw 147 rfl) (zT hZ hw 252 rfl) (by decide) (backOf (W := 3) (r46 l Z a0 hw [] ((q5 / q6) - ((q5 / q6) / (10 : Int64)) * (10 : Int64)) h0 n0 Z0) hZ (zW hw 252 rfl) (zW hw 147 rfl) (by decide) (by decide)) (g := (mkF m 24 #[.val (.ref a1), .val (.int (Int32.ofNat s_)), .val (.int (Int32.ofNat nd)), .val (.int (Int32.ofNat i_)), .val (.long q5), .second, .val (.long q6), .second] [(.long ((q5 / q6) - ((q5 / q6) / (10 : Int64)) * (10 : Int64))), .int 48, (.int ((((Int32.ofNat s_) + (Int32.ofNat nd)) - (1 : Int32)) - (Int32.ofNat i_))), .ref a1])) rfl (by rw [hml]; rfl) (argsL := [(.long ((q5 / q6) - ((q5 / q6) / (10 : Int64)) * (10 : Int64)))]) (rest := [.int 48, (.int ((((Int32.ofNat s_) + (Int32.ofNat nd)) - (1 : Int32)) - (Int32.ofNat i_))), .ref a1]) (lenOf pd_45_37 rfl) rfl (Nat.le_of_eq rfl) (D45 hby 18 rfl) (fun _ _ => ⟨rfl, e0, (by decide : 0 + 0 ≤ _), (by decide : 0 + 0 ≤ _)⟩)
  dsimp only [Pt.U, Pt.locs, Pt.cells, Pt.slots] at X7 l7 y7 z7 st7 hQ7
  subst l7 y7 z7
  obtain ⟨rfl, N7q, e7⟩ := hQ7
  have N7 := Fr.app N0 N7q
  obtain ⟨T8, h8, X8, e8, W8, st8⟩ := stC X7 hx hZ e7 Ar_a1 (j := ((((Int32.ofNat s_) + (Int32.ofNat nd)) - (1 : Int32)) - (Int32.ofNat i_))) hin30 (g := (mkF m 30 #[.val (.ref a1), .val (.int (Int32.ofNat s_)), .val (.int (Int32.ofNat nd)), .val (.int (Int32.ofNat i_)), .val (.long q5), .second, .val (.long q6), .second] [(.int (((48 : Int32) + ((own_abs (own_rem q5 q6)).toInt32)).toUInt32.toUInt16.toUInt32.toInt32)), (.int ((((Int32.ofNat s_) + (Int32.ofNat nd)) - (1 : Int32)) - (Int32.ofNat i_))), .ref a1])) rfl rfl (D45 hby 22 rfl)
  have N8 := Fr.snoc X8 N7 g_a1
  have K8 : Keep h0 h8 [a1] := (Keep.refl h0 [a1]).wr W8 (Or.inl (List.mem_of_getElem? (i := 0) rfl))
  obtain ⟨fs, hr, hrun, hended, hW, hsame⟩ := X8.leave (v := none) (fun _ => rfl)
  refine ⟨_, _, pre0 _ ?_, hrun, hended, _, _, rfl, ?_, ⟨_, rfl⟩, hW, hsame.mono (by decide) (by decide)⟩
  · refine XS.iloadN X0.here hx rfl (D45 hby 0 rfl) rfl ?_
    refine XS.iloadN X0.here hx rfl (D45 hby 1 rfl) rfl ?_
    refine XS.icmpNo X0.here hx rfl (D45 hby 2 rfl) rfl (tlt hc2).2.1 ?_
    refine XS.aloadN X0.here hx rfl (D45 hby 4 rfl) rfl rfl ?_
    refine XS.iloadN X0.here hx rfl (D45 hby 5 rfl) rfl ?_
    refine XS.iloadN X0.here hx rfl (D45 hby 6 rfl) rfl ?_
    refine XS.iadd X0.here hx rfl (D45 hby 7 rfl) rfl ?_
    refine XS.iconst X0.here hx rfl (D45 hby 8 rfl) ?_
    refine XS.isub X0.here hx rfl (D45 hby 9 rfl) rfl ?_
    refine XS.iloadN X0.here hx rfl (D45 hby 10 rfl) rfl ?_
    refine XS.isub X0.here hx rfl (D45 hby 11 rfl) rfl ?_
    refine XS.bipush X0.here hx rfl (D45 hby 12 rfl) ?_
    refine XS.lload X0.here hx rfl (D45 hby 13 rfl) rfl ?_
    refine XS.lload X0.here hx rfl (D45 hby 14 rfl) rfl ?_
    refine XS.ldiv X0.here hx rfl (D45 hby 15 rfl) rfl hnz19 ?_
    refine X0.ldc2Long hx hown (zT hZ hw 225 rfl) (g := (mkF m 20 #[.val (.ref a1), .val (.int (Int32.ofNat s_)), .val (.int (Int32.ofNat nd)), .val (.int (Int32.ofNat i_)), .val (.long q5), .second, .val (.long q6), .second] [(.long (q5 / q6)), .int 48, (.int ((((Int32.ofNat s_) + (Int32.ofNat nd)) - (1 : Int32)) - (Int32.ofNat i_))), .ref a1])) rfl (D45 hby 16 rfl) _ ?_
    refine XS.lrem X0.here hx rfl (D45 hby 17 rfl) rfl hnz23 ?_
    refine st7 _ ?_
    refine XS.l2i X7.here hx rfl (D45 hby 19 rfl) rfl ?_
    refine XS.iadd X7.here hx rfl (D45 hby 20 rfl) rfl ?_
    refine XS.i2c X7.here hx rfl (D45 hby 21 rfl) rfl ?_
    refine st8 _ ?_
    exact X8.returnOut hx Bd.returns (D45 hby 3 rfl) hr
  · show Q45 Z a1 kd (es.set (s_ + nd - 1 - i_) (own_ch q5 q6)) h0 n0 _ T8.heap _
    rw [e8]
    refine ⟨rfl, N8, K8, ?_⟩
    have V8 := Arv.set Ar_a1 qa Sa Na Ha Ga (fits_nar_char _) W8 _ xI (by rw [List.length_map]; omega)
    rw [List.map_set]
    exact V8
theorem r45 (l : Launch) (Z : State) (a0 : Array Value) (hw : zH Z a0) (ws : List Jvm.Cond) (p2 p3 p4 : Int32) (a1 : Addr) (s_ nd i_ : Nat) (q5 q6 : Int64) (es : List Int32) (kd : ClassId) (h0 : Heap) (n0 : Nat) (Z0 : n0 ≤ h0.size) (V : Arv Z h0 a1 kd .char (55 : Int32) (es.map Value.int) (.int 0)) (he : es.length = 55) (g_a1 : n0 ≤ a1) (hs : s_ + nd ≤ 54) (hi : i_ < 19) (hnz : ¬ q6 = 0) (e2 : p2 = Int32.ofNat s_) (e3 : p3 = Int32.ofNat nd) (e4 : p4 = Int32.ofNat i_) :
    zM l Z h0 ws y_2 method_4_code 8 none (zr 1 0 0 16) #[.ref a1, .int p2, .int p3, .int p4, (.long q5), (.long q6)] (Q45 Z a1 kd (own_put es s_ nd i_ (own_ch q5 q6)) h0 n0) := by
  subst e2 e3 e4
  unfold own_put
  by_cases h : i_ < nd
  · rw [if_pos h]; exact r45b l Z a0 hw ws a1 s_ nd i_ q5 q6 es kd h0 n0 Z0 V he g_a1 hs hi hnz h
  · rw [if_neg h]; exact r45a l Z a0 hw ws a1 s_ nd i_ q5 q6 es kd h0 n0 Z0 V he g_a1 hs hi hnz (by omega)
theorem os0_569_own_ngn {s0 : Slot} {s1 : Slot} {z2 : Value} {s4 : Slot} {s5 : Slot} {s6 : Slot} {s7 : Slot} {s8 : Slot} {s9 : Slot} {s10 : Slot} {s11 : Slot} {z12 : Value} {s13 : Slot} {s14 : Slot} {s15 : Slot} {s16 : Slot} {s17 : Slot} {v : Int32} (h : One s14) : storeLocals #[s0, s1, .val z2, .second, s4, s5, s6, s7, s8, s9, s10, s11, .val z12, s13, s14, s15, s16, s17] 14 (.int v) = some #[s0, s1, .val z2, .second, s4, s5, s6, s7, s8, s9, s10, s11, .val z12, s13, .val (.int v), s15, s16, s17] := by
  rcases h with rfl | ⟨w, rfl, hw⟩
  · rfl
  · cases w <;> first | rfl | (simp [Value.category] at hw)
theorem own_ngn {p : Program} {l : Launch} {e : Env} {s : State} {m : MethodId} {args : Array Value} {below : List Frame} {meth : Method} {c : Code} {T0 : State} {locs : List Loc} {cells slots : Nat} {Z : State} {a0 : Array Value} {h0 : Heap} (s0 : Slot) (s1 : Slot) (j2 : Int64) (s4 : Slot) (s5 : Slot) (s6 : Slot) (s7 : Slot) (s8 : Slot) (s9 : Slot) (s10 : Slot) (s11 : Slot) (o12 : Addr) (s13 : Slot) (s14 : Slot) (s15 : Slot) (s16 : Slot) (s17 : Slot) (es : List Int32) (ke : ClassId) (n0 : Nat)
    (X0 : Stand p l e own_R0 s m args below meth c T0 locs cells slots) (hx : p.tables.exec = Jvm.exec) (hZ : Z.Warmed39 s.vm) (hw : zH Z a0) (hby : c.code = code) (hml : c.maxLocals = 18) (hown : s.vm.findClass "com/example/dealt/dealt/metrics/ExpositionCounterPinLaw" = some m.cls) (e0 : T0.heap = h0) (V12 : Arv Z h0 o12 ke .char (55 : Int32) (es.map Value.int) (.int 0)) (he : es.length = 55) (Z0 : n0 ≤ h0.size) (N0 : Fr n0 locs) (hcl : cells ≤ own_R0.cells) (hsl : slots ≤ own_R0.slots) (hs14 : One s14) (g_o12 : n0 ≤ o12) (hc561 : (lcmpW j2 (0 : Int64)) < (0 : Int32)) (hc574 : (lcmpW j2 (0 : Int64)) < (0 : Int32)) :
    ∃ (T' : State) (locs' : List Loc), Stand p l e own_R0 s m args below meth c T' locs' cells slots ∧ Fr n0 locs' ∧ Keep h0 T'.heap [o12] ∧ Arv Z T'.heap o12 ke .char (55 : Int32) ((es.set 34 (nar .char 45)).map Value.int) (.int 0) ∧
      ∀ target, Steps p.tables e below (T'.setTop (mkF m 584 #[s0, s1, .val (.long j2), .second, s4, s5, s6, s7, s8, s9, s10, s11, .val (.ref o12), s13, .val (.int 1), s15, s16, s17] [])) target → Steps p.tables e below (T0.setTop (mkF m 558 #[s0, s1, .val (.long j2), .second, s4, s5, s6, s7, s8, s9, s10, s11, .val (.ref o12), s13, s14, s15, s16, s17] [])) target := by
  obtain ⟨cl_o12, Ar_o12, q12, S12, N12_, H12, G12⟩ := id V12
  have x55 : (55 : Int32).toNatClampNeg = 55 := by decide
  have xI : (34 : Int32).toNatClampNeg = 34 := by decide
  have xn : ¬ (34 : Int32) < 0 := by decide
  have hin583 : ¬ ((34 : Int32) < 0 ∨ cl_o12.slots.size ≤ ((34 : Int32)).toNatClampNeg) := by rw [S12, x55, xI]; exact fun q_ => q_.elim xn (by omega)
  obtain ⟨T4, h4, X4, e4, W4, st4⟩ := stC X0 hx hZ e0 Ar_o12 (j := (34 : Int32)) hin583 (g := (mkF m 583 #[s0, s1, .val (.long j2), .second, s4, s5, s6, s7, s8, s9, s10, s11, .val (.ref o12), s13, .val (.int 1), s15, s16, s17] [.int 45, .int 34, .ref o12])) rfl rfl (hb hby at_583)
  have N4 := Fr.snoc X4 N0 g_o12
  have K4 : Keep h0 h4 [o12] := (Keep.refl h0 [o12]).wr W4 (Or.inl (List.mem_of_getElem? (i := 0) rfl))
  refine ⟨T4, _, X4, N4, by rw [e4]; exact K4, ?_, fun target kt => ?_⟩
  · rw [e4, List.map_set]; exact Arv.set Ar_o12 q12 S12 N12_ H12 G12 (fits_nar_char _) W4 _ xI (by rw [List.length_map]; omega)
  refine XS.lloadN X0.here hx rfl (hb hby at_558) rfl ?_
  refine XS.lconst X0.here hx rfl (hb hby at_559) ?_
  refine XS.lcmp X0.here hx rfl (hb hby at_560) rfl ?_
  refine XS.ifNo X0.here hx rfl (hb hby at_561) rfl ((if0 _ _).trans (tlt hc561).2.1) ?_
  refine XS.iconst X0.here hx rfl (hb hby at_564) ?_
  refine XS.goto X0.here hx rfl (pc0 := 565) (pc' := 569) rfl (hb hby at_565) (by decide) (by decide) ?_
  refine XS.istore X0.here hx rfl (hb hby at_569) rfl (l' := #[s0, s1, .val (.long j2), .second, s4, s5, s6, s7, s8, s9, s10, s11, .val (.ref o12), s13, .val (.int 1), s15, s16, s17]) (os0_569_own_ngn hs14) ?_
  refine XS.lloadN X0.here hx rfl (hb hby at_571) rfl ?_
  refine XS.lconst X0.here hx rfl (hb hby at_572) ?_
  refine XS.lcmp X0.here hx rfl (hb hby at_573) rfl ?_
  refine XS.ifNo X0.here hx rfl (hb hby at_574) rfl ((if0 _ _).trans (tlt hc574).2.1) ?_
  refine XS.aload X0.here hx rfl (hb hby at_577) rfl rfl ?_
  refine XS.bipush X0.here hx rfl (hb hby at_579) ?_
  refine XS.bipush X0.here hx rfl (hb hby at_581) ?_
  refine st4 _ ?_
  exact kt
theorem os0_569_own_ngp {s0 : Slot} {s1 : Slot} {z2 : Value} {s4 : Slot} {s5 : Slot} {s6 : Slot} {s7 : Slot} {s8 : Slot} {s9 : Slot} {s10 : Slot} {s11 : Slot} {s12 : Slot} {s13 : Slot} {s14 : Slot} {s15 : Slot} {s16 : Slot} {s17 : Slot} {v : Int32} (h : One s14) : storeLocals #[s0, s1, .val z2, .second, s4, s5, s6, s7, s8, s9, s10, s11, s12, s13, s14, s15, s16, s17] 14 (.int v) = some #[s0, s1, .val z2, .second, s4, s5, s6, s7, s8, s9, s10, s11, s12, s13, .val (.int v), s15, s16, s17] := by
  rcases h with rfl | ⟨w, rfl, hw⟩
  · rfl
  · cases w <;> first | rfl | (simp [Value.category] at hw)
theorem own_ngp {p : Program} {l : Launch} {e : Env} {s : State} {m : MethodId} {args : Array Value} {below : List Frame} {meth : Method} {c : Code} {T0 : State} {locs : List Loc} {cells slots : Nat} {Z : State} {a0 : Array Value} {h0 : Heap} (s0 : Slot) (s1 : Slot) (j2 : Int64) (s4 : Slot) (s5 : Slot) (s6 : Slot) (s7 : Slot) (s8 : Slot) (s9 : Slot) (s10 : Slot) (s11 : Slot) (s12 : Slot) (s13 : Slot) (s14 : Slot) (s15 : Slot) (s16 : Slot) (s17 : Slot)
    (X0 : Stand p l e own_R0 s m args below meth c T0 locs cells slots) (hx : p.tables.exec = Jvm.exec) (hZ : Z.Warmed39 s.vm) (hw : zH Z a0) (hby : c.code = code) (hml : c.maxLocals = 18) (hown : s.vm.findClass "com/example/dealt/dealt/metrics/ExpositionCounterPinLaw" = some m.cls) (e0 : T0.heap = h0) (hs14 : One s14) (hc561 : ¬ ((lcmpW j2 (0 : Int64)) < (0 : Int32))) (hc574 : ¬ ((lcmpW j2 (0 : Int64)) < (0 : Int32))) :
    ∃ (T' : State), Stand p l e own_R0 s m args below meth c T' locs cells slots ∧ T'.heap = h0 ∧
      ∀ target, Steps p.tables e below (T'.setTop (mkF m 584 #[s0, s1, .val (.long j2), .second, s4, s5, s6, s7, s8, s9, s10, s11, s12, s13, .val (.int 0), s15, s16, s17] [])) target → Steps p.tables e below (T0.setTop (mkF m 558 #[s0, s1, .val (.long j2), .second, s4, s5, s6, s7, s8, s9, s10, s11, s12, s13, s14, s15, s16, s17] [])) target := by
  refine ⟨T0, X0, e0, fun target kt => ?_⟩
  refine XS.lloadN X0.here hx rfl (hb hby at_558) rfl ?_
  refine XS.lconst X0.here hx rfl (hb hby at_559) ?_
  refine XS.lcmp X0.here hx rfl (hb hby at_560) rfl ?_
  refine XS.ifYes X0.here hx rfl (pc0 := 561) (pc' := 568) rfl (hb hby at_561) rfl ((if0 _ _).trans (flt hc561).2.1) (by decide) (by decide) ?_
  refine XS.iconst X0.here hx rfl (hb hby at_568) ?_
  refine XS.istore X0.here hx rfl (hb hby at_569) rfl (l' := #[s0, s1, .val (.long j2), .second, s4, s5, s6, s7, s8, s9, s10, s11, s12, s13, .val (.int 0), s15, s16, s17]) (os0_569_own_ngp hs14) ?_
  refine XS.lloadN X0.here hx rfl (hb hby at_571) rfl ?_
  refine XS.lconst X0.here hx rfl (hb hby at_572) ?_
  refine XS.lcmp X0.here hx rfl (hb hby at_573) rfl ?_
  refine XS.ifYes X0.here hx rfl (pc0 := 574) (pc' := 584) rfl (hb hby at_574) rfl ((if0 _ _).trans (flt hc574).2.1) (by decide) (by decide) ?_
  exact kt
theorem os0_1097_own_fin {s0 : Slot} {s1 : Slot} {s2 : Slot} {s3 : Slot} {s4 : Slot} {s5 : Slot} {s6 : Slot} {s7 : Slot} {s8 : Slot} {s9 : Slot} {s10 : Slot} {s11 : Slot} {z12 : Value} {s13 : Slot} {s14 : Slot} {z15 : Value} {z16 : Value} {s17 : Slot} {v : Int32} (h : One s17) : storeLocals #[s0, s1, s2, s3, s4, s5, s6, s7, s8, s9, s10, s11, .val z12, s13, s14, .val z15, .val z16, s17] 17 (.int v) = some #[s0, s1, s2, s3, s4, s5, s6, s7, s8, s9, s10, s11, .val z12, s13, s14, .val z15, .val z16, .val (.int v)] := by
  rcases h with rfl | ⟨w, rfl, hw⟩
  · rfl
  · cases w <;> first | rfl | (simp [Value.category] at hw)
theorem own_fin {p : Program} {l : Launch} {e : Env} {s : State} {m : MethodId} {args : Array Value} {below : List Frame} {meth : Method} {c : Code} {T0 : State} {locs : List Loc} {cells slots : Nat} {Z : State} {a0 : Array Value} {h0 : Heap} (s0 : Slot) (s1 : Slot) (s2 : Slot) (s3 : Slot) (s4 : Slot) (s5 : Slot) (s6 : Slot) (s7 : Slot) (s8 : Slot) (s9 : Slot) (s10 : Slot) (s11 : Slot) (o12 : Addr) (s13 : Slot) (s14 : Slot) (i15 : Int32) (i16 : Int32) (s17 : Slot) (es : List Int32) (ke : ClassId) (s_ nd : Nat) (n0 : Nat)
    (X0 : Stand p l e own_R0 s m args below meth c T0 locs cells slots) (hx : p.tables.exec = Jvm.exec) (hZ : Z.Warmed39 s.vm) (hw : zH Z a0) (hby : c.code = code) (hml : c.maxLocals = 18) (hown : s.vm.findClass "com/example/dealt/dealt/metrics/ExpositionCounterPinLaw" = some m.cls) (e0 : T0.heap = h0) (V12 : Arv Z h0 o12 ke .char (55 : Int32) (es.map Value.int) (.int 0)) (he : es.length = 55) (h16 : i16 = Int32.ofNat s_) (h15 : i15 = Int32.ofNat nd) (hs54 : s_ + nd ≤ 54) (Z0 : n0 ≤ h0.size) (N0 : Fr n0 locs) (hcl : cells ≤ own_R0.cells) (hsl : slots ≤ own_R0.slots) (g_o12 : n0 ≤ o12) (hs17 : One s17) :
    ∃ (T' : State) (locs' : List Loc), Stand p l e own_R0 s m args below meth c T' locs' cells slots ∧ Fr n0 locs' ∧ Keep h0 T'.heap [o12] ∧ Arv Z T'.heap o12 ke .char (55 : Int32) ((es.set (s_ + nd) (nar .char 10)).map Value.int) (.int 0) ∧
      ∀ target, Steps p.tables e below (T'.setTop (mkF m 1099 #[s0, s1, s2, s3, s4, s5, s6, s7, s8, s9, s10, s11, .val (.ref o12), s13, s14, .val (.int i15), .val (.int i16), .val (.int ((i16 + i15) + (1 : Int32)))] [])) target → Steps p.tables e below (T0.setTop (mkF m 1080 #[s0, s1, s2, s3, s4, s5, s6, s7, s8, s9, s10, s11, .val (.ref o12), s13, s14, .val (.int i15), .val (.int i16), s17] [])) target := by
  obtain ⟨cl_o12, Ar_o12, q12, S12, N12_, H12, G12⟩ := id V12
  have x55 : (55 : Int32).toNatClampNeg = 55 := by decide
  have xE : (i16 + i15) = Int32.ofNat (s_ + nd) := by rw [h16, h15, ← Int32.ofNat_add]
  have xI : (i16 + i15).toNatClampNeg = s_ + nd := by rw [xE]; exact own_cl _ (by omega)
  have xn : ¬ (i16 + i15) < 0 := by rw [xE]; exact own_nn _ (by omega)
  have hin1089 : ¬ ((i16 + i15) < 0 ∨ cl_o12.slots.size ≤ ((i16 + i15)).toNatClampNeg) := by rw [S12, x55, xI]; exact fun q_ => q_.elim xn (by omega)
  obtain ⟨T4, h4, X4, e4, W4, st4⟩ := stC X0 hx hZ e0 Ar_o12 (j := (i16 + i15)) hin1089 (g := (mkF m 1089 #[s0, s1, s2, s3, s4, s5, s6, s7, s8, s9, s10, s11, .val (.ref o12), s13, s14, .val (.int i15), .val (.int i16), s17] [.int 10, (.int (i16 + i15)), .ref o12])) rfl rfl (hb hby at_1089)
  have N4 := Fr.snoc X4 N0 g_o12
  have K4 : Keep h0 h4 [o12] := (Keep.refl h0 [o12]).wr W4 (Or.inl (List.mem_of_getElem? (i := 0) rfl))
  refine ⟨T4, _, X4, N4, by rw [e4]; exact K4, ?_, fun target kt => ?_⟩
  · rw [e4, List.map_set]; exact Arv.set Ar_o12 q12 S12 N12_ H12 G12 (fits_nar_char _) W4 _ xI (by rw [List.length_map]; omega)
  refine XS.aload X0.here hx rfl (hb hby at_1080) rfl rfl ?_
  refine XS.iload X0.here hx rfl (hb hby at_1082) rfl ?_
  refine XS.iload X0.here hx rfl (hb hby at_1084) rfl ?_
  refine XS.iadd X0.here hx rfl (hb hby at_1086) rfl ?_
  refine XS.bipush X0.here hx rfl (hb hby at_1087) ?_
  refine st4 _ ?_
  refine XS.iload X4.here hx rfl (hb hby at_1090) rfl ?_
  refine XS.iload X4.here hx rfl (hb hby at_1092) rfl ?_
  refine XS.iadd X4.here hx rfl (hb hby at_1094) rfl ?_
  refine XS.iconst X4.here hx rfl (hb hby at_1095) ?_
  refine XS.iadd X4.here hx rfl (hb hby at_1096) rfl ?_
  refine XS.istore X4.here hx rfl (hb hby at_1097) rfl (l' := #[s0, s1, s2, s3, s4, s5, s6, s7, s8, s9, s10, s11, .val (.ref o12), s13, s14, .val (.int i15), .val (.int i16), .val (.int ((i16 + i15) + (1 : Int32)))]) (os0_1097_own_fin hs17) ?_
  exact kt
theorem pd_0_35 : parseMethodDescriptor "(JJ)I" = some ⟨[.long, .long], some .int⟩ := by decide +kernel
theorem os0_760_own_nzs {s0 : Slot} {s1 : Slot} {z2 : Value} {s4 : Slot} {s5 : Slot} {s6 : Slot} {s7 : Slot} {s8 : Slot} {s9 : Slot} {s10 : Slot} {s11 : Slot} {s12 : Slot} {z13 : Value} {z14 : Value} {s15 : Slot} {s16 : Slot} {s17 : Slot} {v : Int32} (h : One s15) : storeLocals #[s0, s1, .val z2, .second, s4, s5, s6, s7, s8, s9, s10, s11, s12, .val z13, .val z14, s15, s16, s17] 15 (.int v) = some #[s0, s1, .val z2, .second, s4, s5, s6, s7, s8, s9, s10, s11, s12, .val z13, .val z14, .val (.int v), s16, s17] := by
  rcases h with rfl | ⟨w, rfl, hw⟩
  · rfl
  · cases w <;> first | rfl | (simp [Value.category] at hw)
theorem os0_767_own_nzs {s0 : Slot} {s1 : Slot} {z2 : Value} {s4 : Slot} {s5 : Slot} {s6 : Slot} {s7 : Slot} {s8 : Slot} {s9 : Slot} {s10 : Slot} {s11 : Slot} {s12 : Slot} {z13 : Value} {z14 : Value} {z15 : Value} {s16 : Slot} {s17 : Slot} {v : Int32} (h : One s16) : storeLocals #[s0, s1, .val z2, .second, s4, s5, s6, s7, s8, s9, s10, s11, s12, .val z13, .val z14, .val z15, s16, s17] 16 (.int v) = some #[s0, s1, .val z2, .second, s4, s5, s6, s7, s8, s9, s10, s11, s12, .val z13, .val z14, .val z15, .val (.int v), s17] := by
  rcases h with rfl | ⟨w, rfl, hw⟩
  · rfl
  · cases w <;> first | rfl | (simp [Value.category] at hw)
theorem own_nzs {p : Program} {l : Launch} {e : Env} {s : State} {m : MethodId} {args : Array Value} {below : List Frame} {meth : Method} {c : Code} {T0 : State} {locs : List Loc} {cells slots : Nat} {Z : State} {a0 : Array Value} {h0 : Heap} (s0 : Slot) (s1 : Slot) (j2 : Int64) (s4 : Slot) (s5 : Slot) (s6 : Slot) (s7 : Slot) (s8 : Slot) (s9 : Slot) (s10 : Slot) (s11 : Slot) (s12 : Slot) (o13 : Addr) (i14 : Int32) (s15 : Slot) (s16 : Slot) (s17 : Slot) (nn : Nat) (kp : ClassId) (n0 : Nat)
    (X0 : Stand p l e own_R0 s m args below meth c T0 locs cells slots) (hx : p.tables.exec = Jvm.exec) (hZ : Z.Warmed39 s.vm) (hw : zH Z a0) (hby : c.code = code) (hml : c.maxLocals = 18) (hown : s.vm.findClass "com/example/dealt/dealt/metrics/ExpositionCounterPinLaw" = some m.cls) (e0 : T0.heap = h0) (V13 : Arv Z h0 o13 kp .long (19 : Int32) (own_p.map Value.long) (.long 0)) (ha : own_Ab j2 nn) (Z0 : n0 ≤ h0.size) (N0 : Fr n0 locs) (hcl : cells ≤ own_R0.cells) (hsl : slots ≤ own_R0.slots) (hs15 : One s15) (hs16 : One s16) :
    ∃ (T' : State) (locs' : List Loc), Stand p l e own_R0 s m args below meth c T' locs' cells slots ∧ Fr n0 locs' ∧ T'.heap = h0 ∧
      ∀ target, Steps p.tables e below (T'.setTop (mkF m 769 #[s0, s1, .val (.long j2), .second, s4, s5, s6, s7, s8, s9, s10, s11, s12, .val (.ref o13), .val (.int i14), .val (.int (((((((((((((((((((1 : Int32) + (own_nj (Jvm.Free.SBG.digitsL nn) 1)) + (own_nj (Jvm.Free.SBG.digitsL nn) 2)) + (own_nj (Jvm.Free.SBG.digitsL nn) 3)) + (own_nj (Jvm.Free.SBG.digitsL nn) 4)) + (own_nj (Jvm.Free.SBG.digitsL nn) 5)) + (own_nj (Jvm.Free.SBG.digitsL nn) 6)) + (own_nj (Jvm.Free.SBG.digitsL nn) 7)) + (own_nj (Jvm.Free.SBG.digitsL nn) 8)) + (own_nj (Jvm.Free.SBG.digitsL nn) 9)) + (own_nj (Jvm.Free.SBG.digitsL nn) 10)) + (own_nj (Jvm.Free.SBG.digitsL nn) 11)) + (own_nj (Jvm.Free.SBG.digitsL nn) 12)) + (own_nj (Jvm.Free.SBG.digitsL nn) 13)) + (own_nj (Jvm.Free.SBG.digitsL nn) 14)) + (own_nj (Jvm.Free.SBG.digitsL nn) 15)) + (own_nj (Jvm.Free.SBG.digitsL nn) 16)) + (own_nj (Jvm.Free.SBG.digitsL nn) 17)) + (own_nj (Jvm.Free.SBG.digitsL nn) 18))), .val (.int ((34 : Int32) + i14)), s17] [])) target → Steps p.tables e below (T0.setTop (mkF m 584 #[s0, s1, .val (.long j2), .second, s4, s5, s6, s7, s8, s9, s10, s11, s12, .val (.ref o13), .val (.int i14), s15, s16, s17] [])) target := by
  obtain ⟨cl_o13, Ar_o13, q13, S13, N13_, H13, G13⟩ := id V13
  have hin589 : ¬ ((1 : Int32) < 0 ∨ cl_o13.slots.size ≤ ((1 : Int32)).toNatClampNeg) := inb_of S13 ⟨by decide, by decide⟩
  have hat589 : cl_o13.slots[((1 : Int32)).toNatClampNeg]? = some (.long 10) := H13.at hin589 rfl
  have hin598 : ¬ ((2 : Int32) < 0 ∨ cl_o13.slots.size ≤ ((2 : Int32)).toNatClampNeg) := inb_of S13 ⟨by decide, by decide⟩
  have hat598 : cl_o13.slots[((2 : Int32)).toNatClampNeg]? = some (.long 100) := H13.at hin598 rfl
  have hin607 : ¬ ((3 : Int32) < 0 ∨ cl_o13.slots.size ≤ ((3 : Int32)).toNatClampNeg) := inb_of S13 ⟨by decide, by decide⟩
  have hat607 : cl_o13.slots[((3 : Int32)).toNatClampNeg]? = some (.long 1000) := H13.at hin607 rfl
  have hin616 : ¬ ((4 : Int32) < 0 ∨ cl_o13.slots.size ≤ ((4 : Int32)).toNatClampNeg) := inb_of S13 ⟨by decide, by decide⟩
  have hat616 : cl_o13.slots[((4 : Int32)).toNatClampNeg]? = some (.long 10000) := H13.at hin616 rfl
  have hin625 : ¬ ((5 : Int32) < 0 ∨ cl_o13.slots.size ≤ ((5 : Int32)).toNatClampNeg) := inb_of S13 ⟨by decide, by decide⟩
  have hat625 : cl_o13.slots[((5 : Int32)).toNatClampNeg]? = some (.long 100000) := H13.at hin625 rfl
  have hin635 : ¬ ((6 : Int32) < 0 ∨ cl_o13.slots.size ≤ ((6 : Int32)).toNatClampNeg) := inb_of S13 ⟨by decide, by decide⟩
  have hat635 : cl_o13.slots[((6 : Int32)).toNatClampNeg]? = some (.long 1000000) := H13.at hin635 rfl
  have hin645 : ¬ ((7 : Int32) < 0 ∨ cl_o13.slots.size ≤ ((7 : Int32)).toNatClampNeg) := inb_of S13 ⟨by decide, by decide⟩
  have hat645 : cl_o13.slots[((7 : Int32)).toNatClampNeg]? = some (.long 10000000) := H13.at hin645 rfl
  have hin655 : ¬ ((8 : Int32) < 0 ∨ cl_o13.slots.size ≤ ((8 : Int32)).toNatClampNeg) := inb_of S13 ⟨by decide, by decide⟩
  have hat655 : cl_o13.slots[((8 : Int32)).toNatClampNeg]? = some (.long 100000000) := H13.at hin655 rfl
  have hin665 : ¬ ((9 : Int32) < 0 ∨ cl_o13.slots.size ≤ ((9 : Int32)).toNatClampNeg) := inb_of S13 ⟨by decide, by decide⟩
  have hat665 : cl_o13.slots[((9 : Int32)).toNatClampNeg]? = some (.long 1000000000) := H13.at hin665 rfl
  have hin675 : ¬ ((10 : Int32) < 0 ∨ cl_o13.slots.size ≤ ((10 : Int32)).toNatClampNeg) := inb_of S13 ⟨by decide, by decide⟩
  have hat675 : cl_o13.slots[((10 : Int32)).toNatClampNeg]? = some (.long 10000000000) := H13.at hin675 rfl
  have hin685 : ¬ ((11 : Int32) < 0 ∨ cl_o13.slots.size ≤ ((11 : Int32)).toNatClampNeg) := inb_of S13 ⟨by decide, by decide⟩
  have hat685 : cl_o13.slots[((11 : Int32)).toNatClampNeg]? = some (.long 100000000000) := H13.at hin685 rfl
  have hin695 : ¬ ((12 : Int32) < 0 ∨ cl_o13.slots.size ≤ ((12 : Int32)).toNatClampNeg) := inb_of S13 ⟨by decide, by decide⟩
  have hat695 : cl_o13.slots[((12 : Int32)).toNatClampNeg]? = some (.long 1000000000000) := H13.at hin695 rfl
  have hin705 : ¬ ((13 : Int32) < 0 ∨ cl_o13.slots.size ≤ ((13 : Int32)).toNatClampNeg) := inb_of S13 ⟨by decide, by decide⟩
  have hat705 : cl_o13.slots[((13 : Int32)).toNatClampNeg]? = some (.long 10000000000000) := H13.at hin705 rfl
  have hin715 : ¬ ((14 : Int32) < 0 ∨ cl_o13.slots.size ≤ ((14 : Int32)).toNatClampNeg) := inb_of S13 ⟨by decide, by decide⟩
  have hat715 : cl_o13.slots[((14 : Int32)).toNatClampNeg]? = some (.long 100000000000000) := H13.at hin715 rfl
  have hin725 : ¬ ((15 : Int32) < 0 ∨ cl_o13.slots.size ≤ ((15 : Int32)).toNatClampNeg) := inb_of S13 ⟨by decide, by decide⟩
  have hat725 : cl_o13.slots[((15 : Int32)).toNatClampNeg]? = some (.long 1000000000000000) := H13.at hin725 rfl
  have hin735 : ¬ ((16 : Int32) < 0 ∨ cl_o13.slots.size ≤ ((16 : Int32)).toNatClampNeg) := inb_of S13 ⟨by decide, by decide⟩
  have hat735 : cl_o13.slots[((16 : Int32)).toNatClampNeg]? = some (.long 10000000000000000) := H13.at hin735 rfl
  have hin745 : ¬ ((17 : Int32) < 0 ∨ cl_o13.slots.size ≤ ((17 : Int32)).toNatClampNeg) := inb_of S13 ⟨by decide, by decide⟩
  have hat745 : cl_o13.slots[((17 : Int32)).toNatClampNeg]? = some (.long 100000000000000000) := H13.at hin745 rfl
  have hin755 : ¬ ((18 : Int32) < 0 ∨ cl_o13.slots.size ≤ ((18 : Int32)).toNatClampNeg) := inb_of S13 ⟨by decide, by decide⟩
  have hat755 : cl_o13.slots[((18 : Int32)).toNatClampNeg]? = some (.long 1000000000000000000) := H13.at hin755 rfl
  obtain ⟨_, _, ⟨T5, L5, k5, n5⟩, -, X5, ⟨Lc5, hQ5, l5, y5, z5⟩, st5⟩ := Jvm.LawKit.callS X0 hx (y := y_3) hown (zT hZ hw 243 rfl) (zT hZ hw 244 rfl) (zT hZ hw 245 rfl) (zT hZ hw 246 rfl) (by decide) (backOf (W := 1) (r44 l Z a0 hw [] j2 (10 : Int64) (own_nj (Jvm.Free.SBG.digitsL nn) 1) h0 n0 Z0 (by decide) (own_nzj j2 (10 : Int64) nn 1 ha (by decide) (by decide))) hZ (zW hw 246 rfl) (zW hw 245 rfl) (by decide) (by decide)) (g := (mkF m 590 #[s0, s1, .val (.long j2), .second, s4, s5, s6, s7, s8, s9, s10, s11, s12, .val (.ref o13), .val (.int i14), s15, s16, s17] [.long 10, (.long j2), .int 1])) rfl (by rw [hml]; rfl) (argsL := [(.long j2), .long 10]) (rest := [.int 1]) (lenOf pd_0_35 rfl) rfl (Nat.le_of_eq rfl) (hb hby at_590) (fun _ _ => ⟨rfl, e0, hcl, hsl⟩)
  dsimp only [Pt.U, Pt.locs, Pt.cells, Pt.slots] at X5 l5 y5 z5 st5 hQ5
  subst l5 y5 z5
  obtain ⟨rfl, N5q, e5⟩ := hQ5
  have N5 := Fr.app N0 N5q
  obtain ⟨_, _, ⟨T7, L7, k7, n7⟩, -, X7, ⟨Lc7, hQ7, l7, y7, z7⟩, st7⟩ := Jvm.LawKit.callS X5 hx (y := y_3) hown (zT hZ hw 243 rfl) (zT hZ hw 244 rfl) (zT hZ hw 245 rfl) (zT hZ hw 246 rfl) (by decide) (backOf (W := 1) (r44 l Z a0 hw [] j2 (100 : Int64) (own_nj (Jvm.Free.SBG.digitsL nn) 2) h0 n0 Z0 (by decide) (own_nzj j2 (100 : Int64) nn 2 ha (by decide) (by decide))) hZ (zW hw 246 rfl) (zW hw 245 rfl) (by decide) (by decide)) (g := (mkF m 599 #[s0, s1, .val (.long j2), .second, s4, s5, s6, s7, s8, s9, s10, s11, s12, .val (.ref o13), .val (.int i14), s15, s16, s17] [.long 100, (.long j2), (.int ((1 : Int32) + (own_nj (Jvm.Free.SBG.digitsL nn) 1)))])) rfl (by rw [hml]; rfl) (argsL := [(.long j2), .long 100]) (rest := [(.int ((1 : Int32) + (own_nj (Jvm.Free.SBG.digitsL nn) 1)))]) (lenOf pd_0_35 rfl) rfl (Nat.le_of_eq rfl) (hb hby at_599) (fun _ _ => ⟨rfl, e5, hcl, hsl⟩)
  dsimp only [Pt.U, Pt.locs, Pt.cells, Pt.slots] at X7 l7 y7 z7 st7 hQ7
  subst l7 y7 z7
  obtain ⟨rfl, N7q, e7⟩ := hQ7
  have N7 := Fr.app N5 N7q
  obtain ⟨_, _, ⟨T9, L9, k9, n9⟩, -, X9, ⟨Lc9, hQ9, l9, y9, z9⟩, st9⟩ := Jvm.LawKit.callS X7 hx (y := y_3) hown (zT hZ hw 243 rfl) (zT hZ hw 244 rfl) (zT hZ hw 245 rfl) (zT hZ hw 246 rfl) (by decide) (backOf (W := 1) (r44 l Z a0 hw [] j2 (1000 : Int64) (own_nj (Jvm.Free.SBG.digitsL nn) 3) h0 n0 Z0 (by decide) (own_nzj j2 (1000 : Int64) nn 3 ha (by decide) (by decide))) hZ (zW hw 246 rfl) (zW hw 245 rfl) (by decide) (by decide)) (g := (mkF m 608 #[s0, s1, .val (.long j2), .second, s4, s5, s6, s7, s8, s9, s10, s11, s12, .val (.ref o13), .val (.int i14), s15, s16, s17] [.long 1000, (.long j2), (.int (((1 : Int32) + (own_nj (Jvm.Free.SBG.digitsL nn) 1)) + (own_nj (Jvm.Free.SBG.digitsL nn) 2)))])) rfl (by rw [hml]; rfl) (argsL := [(.long j2), .long 1000]) (rest := [(.int (((1 : Int32) + (own_nj (Jvm.Free.SBG.digitsL nn) 1)) + (own_nj (Jvm.Free.SBG.digitsL nn) 2)))]) (lenOf pd_0_35 rfl) rfl (Nat.le_of_eq rfl) (hb hby at_608) (fun _ _ => ⟨rfl, e7, hcl, hsl⟩)
  dsimp only [Pt.U, Pt.locs, Pt.cells, Pt.slots] at X9 l9 y9 z9 st9 hQ9
  subst l9 y9 z9
  obtain ⟨rfl, N9q, e9⟩ := hQ9
  have N9 := Fr.app N7 N9q
  obtain ⟨_, _, ⟨T11, L11, k11, n11⟩, -, X11, ⟨Lc11, hQ11, l11, y11, z11⟩, st11⟩ := Jvm.LawKit.callS X9 hx (y := y_3) hown (zT hZ hw 243 rfl) (zT hZ hw 244 rfl) (zT hZ hw 245 rfl) (zT hZ hw 246 rfl) (by decide) (backOf (W := 1) (r44 l Z a0 hw [] j2 (10000 : Int64) (own_nj (Jvm.Free.SBG.digitsL nn) 4) h0 n0 Z0 (by decide) (own_nzj j2 (10000 : Int64) nn 4 ha (by decide) (by decide))) hZ (zW hw 246 rfl) (zW hw 245 rfl) (by decide) (by decide)) (g := (mkF m 617 #[s0, s1, .val (.long j2), .second, s4, s5, s6, s7, s8, s9, s10, s11, s12, .val (.ref o13), .val (.int i14), s15, s16, s17] [.long 10000, (.long j2), (.int ((((1 : Int32) + (own_nj (Jvm.Free.SBG.digitsL nn) 1)) + (own_nj (Jvm.Free.SBG.digitsL nn) 2)) + (own_nj (Jvm.Free.SBG.digitsL nn) 3)))])) rfl (by rw [hml]; rfl) (argsL := [(.long j2), .long 10000]) (rest := [(.int ((((1 : Int32) + (own_nj (Jvm.Free.SBG.digitsL nn) 1)) + (own_nj (Jvm.Free.SBG.digitsL nn) 2)) + (own_nj (Jvm.Free.SBG.digitsL nn) 3)))]) (lenOf pd_0_35 rfl) rfl (Nat.le_of_eq rfl) (hb hby at_617) (fun _ _ => ⟨rfl, e9, hcl, hsl⟩)
  dsimp only [Pt.U, Pt.locs, Pt.cells, Pt.slots] at X11 l11 y11 z11 st11 hQ11
  subst l11 y11 z11
  obtain ⟨rfl, N11q, e11⟩ := hQ11
  have N11 := Fr.app N9 N11q
  obtain ⟨_, _, ⟨T13, L13, k13, n13⟩, -, X13, ⟨Lc13, hQ13, l13, y13, z13⟩, st13⟩ := Jvm.LawKit.callS X11 hx (y := y_3) hown (zT hZ hw 243 rfl) (zT hZ hw 244 rfl) (zT hZ hw 245 rfl) (zT hZ hw 246 rfl) (by decide) (backOf (W := 1) (r44 l Z a0 hw [] j2 (100000 : Int64) (own_nj (Jvm.Free.SBG.digitsL nn) 5) h0 n0 Z0 (by decide) (own_nzj j2 (100000 : Int64) nn 5 ha (by decide) (by decide))) hZ (zW hw 246 rfl) (zW hw 245 rfl) (by decide) (by decide)) (g := (mkF m 626 #[s0, s1, .val (.long j2), .second, s4, s5, s6, s7, s8, s9, s10, s11, s12, .val (.ref o13), .val (.int i14), s15, s16, s17] [.long 100000, (.long j2), (.int (((((1 : Int32) + (own_nj (Jvm.Free.SBG.digitsL nn) 1)) + (own_nj (Jvm.Free.SBG.digitsL nn) 2)) + (own_nj (Jvm.Free.SBG.digitsL nn) 3)) + (own_nj (Jvm.Free.SBG.digitsL nn) 4)))])) rfl (by rw [hml]; rfl) (argsL := [(.long j2), .long 100000]) (rest := [(.int (((((1 : Int32) + (own_nj (Jvm.Free.SBG.digitsL nn) 1)) + (own_nj (Jvm.Free.SBG.digitsL nn) 2)) + (own_nj (Jvm.Free.SBG.digitsL nn) 3)) + (own_nj (Jvm.Free.SBG.digitsL nn) 4)))]) (lenOf pd_0_35 rfl) rfl (Nat.le_of_eq rfl) (hb hby at_626) (fun _ _ => ⟨rfl, e11, hcl, hsl⟩)
  dsimp only [Pt.U, Pt.locs, Pt.cells, Pt.slots] at X13 l13 y13 z13 st13 hQ13
  subst l13 y13 z13
  obtain ⟨rfl, N13q, e13⟩ := hQ13
  have N13 := Fr.app N11 N13q
  obtain ⟨_, _, ⟨T15, L15, k15, n15⟩, -, X15, ⟨Lc15, hQ15, l15, y15, z15⟩, st15⟩ := Jvm.LawKit.callS X13 hx (y := y_3) hown (zT hZ hw 243 rfl) (zT hZ hw 244 rfl) (zT hZ hw 245 rfl) (zT hZ hw 246 rfl) (by decide) (backOf (W := 1) (r44 l Z a0 hw [] j2 (1000000 : Int64) (own_nj (Jvm.Free.SBG.digitsL nn) 6) h0 n0 Z0 (by decide) (own_nzj j2 (1000000 : Int64) nn 6 ha (by decide) (by decide))) hZ (zW hw 246 rfl) (zW hw 245 rfl) (by decide) (by decide)) (g := (mkF m 636 #[s0, s1, .val (.long j2), .second, s4, s5, s6, s7, s8, s9, s10, s11, s12, .val (.ref o13), .val (.int i14), s15, s16, s17] [.long 1000000, (.long j2), (.int ((((((1 : Int32) + (own_nj (Jvm.Free.SBG.digitsL nn) 1)) + (own_nj (Jvm.Free.SBG.digitsL nn) 2)) + (own_nj (Jvm.Free.SBG.digitsL nn) 3)) + (own_nj (Jvm.Free.SBG.digitsL nn) 4)) + (own_nj (Jvm.Free.SBG.digitsL nn) 5)))])) rfl (by rw [hml]; rfl) (argsL := [(.long j2), .long 1000000]) (rest := [(.int ((((((1 : Int32) + (own_nj (Jvm.Free.SBG.digitsL nn) 1)) + (own_nj (Jvm.Free.SBG.digitsL nn) 2)) + (own_nj (Jvm.Free.SBG.digitsL nn) 3)) + (own_nj (Jvm.Free.SBG.digitsL nn) 4)) + (own_nj (Jvm.Free.SBG.digitsL nn) 5)))]) (lenOf pd_0_35 rfl) rfl (Nat.le_of_eq rfl) (hb hby at_636) (fun _ _ => ⟨rfl, e13, hcl, hsl⟩)
  dsimp only [Pt.U, Pt.locs, Pt.cells, Pt.slots] at X15 l15 y15 z15 st15 hQ15
  subst l15 y15 z15
  obtain ⟨rfl, N15q, e15⟩ := hQ15
  have N15 := Fr.app N13 N15q
  obtain ⟨_, _, ⟨T17, L17, k17, n17⟩, -, X17, ⟨Lc17, hQ17, l17, y17, z17⟩, st17⟩ := Jvm.LawKit.callS X15 hx (y := y_3) hown (zT hZ hw 243 rfl) (zT hZ hw 244 rfl) (zT hZ hw 245 rfl) (zT hZ hw 246 rfl) (by decide) (backOf (W := 1) (r44 l Z a0 hw [] j2 (10000000 : Int64) (own_nj (Jvm.Free.SBG.digitsL nn) 7) h0 n0 Z0 (by decide) (own_nzj j2 (10000000 : Int64) nn 7 ha (by decide) (by decide))) hZ (zW hw 246 rfl) (zW hw 245 rfl) (by decide) (by decide)) (g := (mkF m 646 #[s0, s1, .val (.long j2), .second, s4, s5, s6, s7, s8, s9, s10, s11, s12, .val (.ref o13), .val (.int i14), s15, s16, s17] [.long 10000000, (.long j2), (.int (((((((1 : Int32) + (own_nj (Jvm.Free.SBG.digitsL nn) 1)) + (own_nj (Jvm.Free.SBG.digitsL nn) 2)) + (own_nj (Jvm.Free.SBG.digitsL nn) 3)) + (own_nj (Jvm.Free.SBG.digitsL nn) 4)) + (own_nj (Jvm.Free.SBG.digitsL nn) 5)) + (own_nj (Jvm.Free.SBG.digitsL nn) 6)))])) rfl (by rw [hml]; rfl) (argsL := [(.long j2), .long 10000000]) (rest := [(.int (((((((1 : Int32) + (own_nj (Jvm.Free.SBG.digitsL nn) 1)) + (own_nj (Jvm.Free.SBG.digitsL nn) 2)) + (own_nj (Jvm.Free.SBG.digitsL nn) 3)) + (own_nj (Jvm.Free.SBG.digitsL nn) 4)) + (own_nj (Jvm.Free.SBG.digitsL nn) 5)) + (own_nj (Jvm.Free.SBG.digitsL nn) 6)))]) (lenOf pd_0_35 rfl) rfl (Nat.le_of_eq rfl) (hb hby at_646) (fun _ _ => ⟨rfl, e15, hcl, hsl⟩)
  dsimp only [Pt.U, Pt.locs, Pt.cells, Pt.slots] at X17 l17 y17 z17 st17 hQ17
  subst l17 y17 z17
  obtain ⟨rfl, N17q, e17⟩ := hQ17
  have N17 := Fr.app N15 N17q
  obtain ⟨_, _, ⟨T19, L19, k19, n19⟩, -, X19, ⟨Lc19, hQ19, l19, y19, z19⟩, st19⟩ := Jvm.LawKit.callS X17 hx (y := y_3) hown (zT hZ hw 243 rfl) (zT hZ hw 244 rfl) (zT hZ hw 245 rfl) (zT hZ hw 246 rfl) (by decide) (backOf (W := 1) (r44 l Z a0 hw [] j2 (100000000 : Int64) (own_nj (Jvm.Free.SBG.digitsL nn) 8) h0 n0 Z0 (by decide) (own_nzj j2 (100000000 : Int64) nn 8 ha (by decide) (by decide))) hZ (zW hw 246 rfl) (zW hw 245 rfl) (by decide) (by decide)) (g := (mkF m 656 #[s0, s1, .val (.long j2), .second, s4, s5, s6, s7, s8, s9, s10, s11, s12, .val (.ref o13), .val (.int i14), s15, s16, s17] [.long 100000000, (.long j2), (.int ((((((((1 : Int32) + (own_nj (Jvm.Free.SBG.digitsL nn) 1)) + (own_nj (Jvm.Free.SBG.digitsL nn) 2)) + (own_nj (Jvm.Free.SBG.digitsL nn) 3)) + (own_nj (Jvm.Free.SBG.digitsL nn) 4)) + (own_nj (Jvm.Free.SBG.digitsL nn) 5)) + (own_nj (Jvm.Free.SBG.digitsL nn) 6)) + (own_nj (Jvm.Free.SBG.digitsL nn) 7)))])) rfl (by rw [hml]; rfl) (argsL := [(.long j2), .long 100000000]) (rest := [(.int ((((((((1 : Int32) + (own_nj (Jvm.Free.SBG.digitsL nn) 1)) + (own_nj (Jvm.Free.SBG.digitsL nn) 2)) + (own_nj (Jvm.Free.SBG.digitsL nn) 3)) + (own_nj (Jvm.Free.SBG.digitsL nn) 4)) + (own_nj (Jvm.Free.SBG.digitsL nn) 5)) + (own_nj (Jvm.Free.SBG.digitsL nn) 6)) + (own_nj (Jvm.Free.SBG.digitsL nn) 7)))]) (lenOf pd_0_35 rfl) rfl (Nat.le_of_eq rfl) (hb hby at_656) (fun _ _ => ⟨rfl, e17, hcl, hsl⟩)
  dsimp only [Pt.U, Pt.locs, Pt.cells, Pt.slots] at X19 l19 y19 z19 st19 hQ19
  subst l19 y19 z19
  obtain ⟨rfl, N19q, e19⟩ := hQ19
  have N19 := Fr.app N17 N19q
  obtain ⟨_, _, ⟨T21, L21, k21, n21⟩, -, X21, ⟨Lc21, hQ21, l21, y21, z21⟩, st21⟩ := Jvm.LawKit.callS X19 hx (y := y_3) hown (zT hZ hw 243 rfl) (zT hZ hw 244 rfl) (zT hZ hw 245 rfl) (zT hZ hw 246 rfl) (by decide) (backOf (W := 1) (r44 l Z a0 hw [] j2 (1000000000 : Int64) (own_nj (Jvm.Free.SBG.digitsL nn) 9) h0 n0 Z0 (by decide) (own_nzj j2 (1000000000 : Int64) nn 9 ha (by decide) (by decide))) hZ (zW hw 246 rfl) (zW hw 245 rfl) (by decide) (by decide)) (g := (mkF m 666 #[s0, s1, .val (.long j2), .second, s4, s5, s6, s7, s8, s9, s10, s11, s12, .val (.ref o13), .val (.int i14), s15, s16, s17] [.long 1000000000, (.long j2), (.int (((((((((1 : Int32) + (own_nj (Jvm.Free.SBG.digitsL nn) 1)) + (own_nj (Jvm.Free.SBG.digitsL nn) 2)) + (own_nj (Jvm.Free.SBG.digitsL nn) 3)) + (own_nj (Jvm.Free.SBG.digitsL nn) 4)) + (own_nj (Jvm.Free.SBG.digitsL nn) 5)) + (own_nj (Jvm.Free.SBG.digitsL nn) 6)) + (own_nj (Jvm.Free.SBG.digitsL nn) 7)) + (own_nj (Jvm.Free.SBG.digitsL nn) 8)))])) rfl (by rw [hml]; rfl) (argsL := [(.long j2), .long 1000000000]) (rest := [(.int (((((((((1 : Int32) + (own_nj (Jvm.Free.SBG.digitsL nn) 1)) + (own_nj (Jvm.Free.SBG.digitsL nn) 2)) + (own_nj (Jvm.Free.SBG.digitsL nn) 3)) + (own_nj (Jvm.Free.SBG.digitsL nn) 4)) + (own_nj (Jvm.Free.SBG.digitsL nn) 5)) + (own_nj (Jvm.Free.SBG.digitsL nn) 6)) + (own_nj (Jvm.Free.SBG.digitsL nn) 7)) + (own_nj (Jvm.Free.SBG.digitsL nn) 8)))]) (lenOf pd_0_35 rfl) rfl (Nat.le_of_eq rfl) (hb hby at_666) (fun _ _ => ⟨rfl, e19, hcl, hsl⟩)
  dsimp only [Pt.U, Pt.locs, Pt.cells, Pt.slots] at X21 l21 y21 z21 st21 hQ21
  subst l21 y21 z21
  obtain ⟨rfl, N21q, e21⟩ := hQ21
  have N21 := Fr.app N19 N21q
  obtain ⟨_, _, ⟨T23, L23, k23, n23⟩, -, X23, ⟨Lc23, hQ23, l23, y23, z23⟩, st23⟩ := Jvm.LawKit.callS X21 hx (y := y_3) hown (zT hZ hw 243 rfl) (zT hZ hw 244 rfl) (zT hZ hw 245 rfl) (zT hZ hw 246 rfl) (by decide) (backOf (W := 1) (r44 l Z a0 hw [] j2 (10000000000 : Int64) (own_nj (Jvm.Free.SBG.digitsL nn) 10) h0 n0 Z0 (by decide) (own_nzj j2 (10000000000 : Int64) nn 10 ha (by decide) (by decide))) hZ (zW hw 246 rfl) (zW hw 245 rfl) (by decide) (by decide)) (g := (mkF m 676 #[s0, s1, .val (.long j2), .second, s4, s5, s6, s7, s8, s9, s10, s11, s12, .val (.ref o13), .val (.int i14), s15, s16, s17] [.long 10000000000, (.long j2), (.int ((((((((((1 : Int32) + (own_nj (Jvm.Free.SBG.digitsL nn) 1)) + (own_nj (Jvm.Free.SBG.digitsL nn) 2)) + (own_nj (Jvm.Free.SBG.digitsL nn) 3)) + (own_nj (Jvm.Free.SBG.digitsL nn) 4)) + (own_nj (Jvm.Free.SBG.digitsL nn) 5)) + (own_nj (Jvm.Free.SBG.digitsL nn) 6)) + (own_nj (Jvm.Free.SBG.digitsL nn) 7)) + (own_nj (Jvm.Free.SBG.digitsL nn) 8)) + (own_nj (Jvm.Free.SBG.digitsL nn) 9)))])) rfl (by rw [hml]; rfl) (argsL := [(.long j2), .long 10000000000]) (rest := [(.int ((((((((((1 : Int32) + (own_nj (Jvm.Free.SBG.digitsL nn) 1)) + (own_nj (Jvm.Free.SBG.digitsL nn) 2)) + (own_nj (Jvm.Free.SBG.digitsL nn) 3)) + (own_nj (Jvm.Free.SBG.digitsL nn) 4)) + (own_nj (Jvm.Free.SBG.digitsL nn) 5)) + (own_nj (Jvm.Free.SBG.digitsL nn) 6)) + (own_nj (Jvm.Free.SBG.digitsL nn) 7)) + (own_nj (Jvm.Free.SBG.digitsL nn) 8)) + (own_nj (Jvm.Free.SBG.digitsL nn) 9)))]) (lenOf pd_0_35 rfl) rfl (Nat.le_of_eq rfl) (hb hby at_676) (fun _ _ => ⟨rfl, e21, hcl, hsl⟩)
  dsimp only [Pt.U, Pt.locs, Pt.cells, Pt.slots] at X23 l23 y23 z23 st23 hQ23
  subst l23 y23 z23
  obtain ⟨rfl, N23q, e23⟩ := hQ23
  have N23 := Fr.app N21 N23q
  obtain ⟨_, _, ⟨T25, L25, k25, n25⟩, -, X25, ⟨Lc25, hQ25, l25, y25, z25⟩, st25⟩ := Jvm.LawKit.callS X23 hx (y := y_3) hown (zT hZ hw 243 rfl) (zT hZ hw 244 rfl) (zT hZ hw 245 rfl) (zT hZ hw 246 rfl) (by decide) (backOf (W := 1) (r44 l Z a0 hw [] j2 (100000000000 : Int64) (own_nj (Jvm.Free.SBG.digitsL nn) 11) h0 n0 Z0 (by decide) (own_nzj j2 (100000000000 : Int64) nn 11 ha (by decide) (by decide))) hZ (zW hw 246 rfl) (zW hw 245 rfl) (by decide) (by decide)) (g := (mkF m 686 #[s0, s1, .val (.long j2), .second, s4, s5, s6, s7, s8, s9, s10, s11, s12, .val (.ref o13), .val (.int i14), s15, s16, s17] [.long 100000000000, (.long j2), (.int (((((((((((1 : Int32) + (own_nj (Jvm.Free.SBG.digitsL nn) 1)) + (own_nj (Jvm.Free.SBG.digitsL nn) 2)) + (own_nj (Jvm.Free.SBG.digitsL nn) 3)) + (own_nj (Jvm.Free.SBG.digitsL nn) 4)) + (own_nj (Jvm.Free.SBG.digitsL nn) 5)) + (own_nj (Jvm.Free.SBG.digitsL nn) 6)) + (own_nj (Jvm.Free.SBG.digitsL nn) 7)) + (own_nj (Jvm.Free.SBG.digitsL nn) 8)) + (own_nj (Jvm.Free.SBG.digitsL nn) 9)) + (own_nj (Jvm.Free.SBG.digitsL nn) 10)))])) rfl (by rw [hml]; rfl) (argsL := [(.long j2), .long 100000000000]) (rest := [(.int (((((((((((1 : Int32) + (own_nj (Jvm.Free.SBG.digitsL nn) 1)) + (own_nj (Jvm.Free.SBG.digitsL nn) 2)) + (own_nj (Jvm.Free.SBG.digitsL nn) 3)) + (own_nj (Jvm.Free.SBG.digitsL nn) 4)) + (own_nj (Jvm.Free.SBG.digitsL nn) 5)) + (own_nj (Jvm.Free.SBG.digitsL nn) 6)) + (own_nj (Jvm.Free.SBG.digitsL nn) 7)) + (own_nj (Jvm.Free.SBG.digitsL nn) 8)) + (own_nj (Jvm.Free.SBG.digitsL nn) 9)) + (own_nj (Jvm.Free.SBG.digitsL nn) 10)))]) (lenOf pd_0_35 rfl) rfl (Nat.le_of_eq rfl) (hb hby at_686) (fun _ _ => ⟨rfl, e23, hcl, hsl⟩)
  dsimp only [Pt.U, Pt.locs, Pt.cells, Pt.slots] at X25 l25 y25 z25 st25 hQ25
  subst l25 y25 z25
  obtain ⟨rfl, N25q, e25⟩ := hQ25
  have N25 := Fr.app N23 N25q
  obtain ⟨_, _, ⟨T27, L27, k27, n27⟩, -, X27, ⟨Lc27, hQ27, l27, y27, z27⟩, st27⟩ := Jvm.LawKit.callS X25 hx (y := y_3) hown (zT hZ hw 243 rfl) (zT hZ hw 244 rfl) (zT hZ hw 245 rfl) (zT hZ hw 246 rfl) (by decide) (backOf (W := 1) (r44 l Z a0 hw [] j2 (1000000000000 : Int64) (own_nj (Jvm.Free.SBG.digitsL nn) 12) h0 n0 Z0 (by decide) (own_nzj j2 (1000000000000 : Int64) nn 12 ha (by decide) (by decide))) hZ (zW hw 246 rfl) (zW hw 245 rfl) (by decide) (by decide)) (g := (mkF m 696 #[s0, s1, .val (.long j2), .second, s4, s5, s6, s7, s8, s9, s10, s11, s12, .val (.ref o13), .val (.int i14), s15, s16, s17] [.long 1000000000000, (.long j2), (.int ((((((((((((1 : Int32) + (own_nj (Jvm.Free.SBG.digitsL nn) 1)) + (own_nj (Jvm.Free.SBG.digitsL nn) 2)) + (own_nj (Jvm.Free.SBG.digitsL nn) 3)) + (own_nj (Jvm.Free.SBG.digitsL nn) 4)) + (own_nj (Jvm.Free.SBG.digitsL nn) 5)) + (own_nj (Jvm.Free.SBG.digitsL nn) 6)) + (own_nj (Jvm.Free.SBG.digitsL nn) 7)) + (own_nj (Jvm.Free.SBG.digitsL nn) 8)) + (own_nj (Jvm.Free.SBG.digitsL nn) 9)) + (own_nj (Jvm.Free.SBG.digitsL nn) 10)) + (own_nj (Jvm.Free.SBG.digitsL nn) 11)))])) rfl (by rw [hml]; rfl) (argsL := [(.long j2), .long 1000000000000]) (rest := [(.int ((((((((((((1 : Int32) + (own_nj (Jvm.Free.SBG.digitsL nn) 1)) + (own_nj (Jvm.Free.SBG.digitsL nn) 2)) + (own_nj (Jvm.Free.SBG.digitsL nn) 3)) + (own_nj (Jvm.Free.SBG.digitsL nn) 4)) + (own_nj (Jvm.Free.SBG.digitsL nn) 5)) + (own_nj (Jvm.Free.SBG.digitsL nn) 6)) + (own_nj (Jvm.Free.SBG.digitsL nn) 7)) + (own_nj (Jvm.Free.SBG.digitsL nn) 8)) + (own_nj (Jvm.Free.SBG.digitsL nn) 9)) + (own_nj (Jvm.Free.SBG.digitsL nn) 10)) + (own_nj (Jvm.Free.SBG.digitsL nn) 11)))]) (lenOf pd_0_35 rfl) rfl (Nat.le_of_eq rfl) (hb hby at_696) (fun _ _ => ⟨rfl, e25, hcl, hsl⟩)
  dsimp only [Pt.U, Pt.locs, Pt.cells, Pt.slots] at X27 l27 y27 z27 st27 hQ27
  subst l27 y27 z27
  obtain ⟨rfl, N27q, e27⟩ := hQ27
  have N27 := Fr.app N25 N27q
  obtain ⟨_, _, ⟨T29, L29, k29, n29⟩, -, X29, ⟨Lc29, hQ29, l29, y29, z29⟩, st29⟩ := Jvm.LawKit.callS X27 hx (y := y_3) hown (zT hZ hw 243 rfl) (zT hZ hw 244 rfl) (zT hZ hw 245 rfl) (zT hZ hw 246 rfl) (by decide) (backOf (W := 1) (r44 l Z a0 hw [] j2 (10000000000000 : Int64) (own_nj (Jvm.Free.SBG.digitsL nn) 13) h0 n0 Z0 (by decide) (own_nzj j2 (10000000000000 : Int64) nn 13 ha (by decide) (by decide))) hZ (zW hw 246 rfl) (zW hw 245 rfl) (by decide) (by decide)) (g := (mkF m 706 #[s0, s1, .val (.long j2), .second, s4, s5, s6, s7, s8, s9, s10, s11, s12, .val (.ref o13), .val (.int i14), s15, s16, s17] [.long 10000000000000, (.long j2), (.int (((((((((((((1 : Int32) + (own_nj (Jvm.Free.SBG.digitsL nn) 1)) + (own_nj (Jvm.Free.SBG.digitsL nn) 2)) + (own_nj (Jvm.Free.SBG.digitsL nn) 3)) + (own_nj (Jvm.Free.SBG.digitsL nn) 4)) + (own_nj (Jvm.Free.SBG.digitsL nn) 5)) + (own_nj (Jvm.Free.SBG.digitsL nn) 6)) + (own_nj (Jvm.Free.SBG.digitsL nn) 7)) + (own_nj (Jvm.Free.SBG.digitsL nn) 8)) + (own_nj (Jvm.Free.SBG.digitsL nn) 9)) + (own_nj (Jvm.Free.SBG.digitsL nn) 10)) + (own_nj (Jvm.Free.SBG.digitsL nn) 11)) + (own_nj (Jvm.Free.SBG.digitsL nn) 12)))])) rfl (by rw [hml]; rfl) (argsL := [(.long j2), .long 10000000000000]) (rest := [(.int (((((((((((((1 : Int32) + (own_nj (Jvm.Free.SBG.digitsL nn) 1)) + (own_nj (Jvm.Free.SBG.digitsL nn) 2)) + (own_nj (Jvm.Free.SBG.digitsL nn) 3)) + (own_nj (Jvm.Free.SBG.digitsL nn) 4)) + (own_nj (Jvm.Free.SBG.digitsL nn) 5)) + (own_nj (Jvm.Free.SBG.digitsL nn) 6)) + (own_nj (Jvm.Free.SBG.digitsL nn) 7)) + (own_nj (Jvm.Free.SBG.digitsL nn) 8)) + (own_nj (Jvm.Free.SBG.digitsL nn) 9)) + (own_nj (Jvm.Free.SBG.digitsL nn) 10)) + (own_nj (Jvm.Free.SBG.digitsL nn) 11)) + (own_nj (Jvm.Free.SBG.digitsL nn) 12)))]) (lenOf pd_0_35 rfl) rfl (Nat.le_of_eq rfl) (hb hby at_706) (fun _ _ => ⟨rfl, e27, hcl, hsl⟩)
  dsimp only [Pt.U, Pt.locs, Pt.cells, Pt.slots] at X29 l29 y29 z29 st29 hQ29
  subst l29 y29 z29
  obtain ⟨rfl, N29q, e29⟩ := hQ29
  have N29 := Fr.app N27 N29q
  obtain ⟨_, _, ⟨T31, L31, k31, n31⟩, -, X31, ⟨Lc31, hQ31, l31, y31, z31⟩, st31⟩ := Jvm.LawKit.callS X29 hx (y := y_3) hown (zT hZ hw 243 rfl) (zT hZ hw 244 rfl) (zT hZ hw 245 rfl) (zT hZ hw 246 rfl) (by decide) (backOf (W := 1) (r44 l Z a0 hw [] j2 (100000000000000 : Int64) (own_nj (Jvm.Free.SBG.digitsL nn) 14) h0 n0 Z0 (by decide) (own_nzj j2 (100000000000000 : Int64) nn 14 ha (by decide) (by decide))) hZ (zW hw 246 rfl) (zW hw 245 rfl) (by decide) (by decide)) (g := (mkF m 716 #[s0, s1, .val (.long j2), .second, s4, s5, s6, s7, s8, s9, s10, s11, s12, .val (.ref o13), .val (.int i14), s15, s16, s17] [.long 100000000000000, (.long j2), (.int ((((((((((((((1 : Int32) + (own_nj (Jvm.Free.SBG.digitsL nn) 1)) + (own_nj (Jvm.Free.SBG.digitsL nn) 2)) + (own_nj (Jvm.Free.SBG.digitsL nn) 3)) + (own_nj (Jvm.Free.SBG.digitsL nn) 4)) + (own_nj (Jvm.Free.SBG.digitsL nn) 5)) + (own_nj (Jvm.Free.SBG.digitsL nn) 6)) + (own_nj (Jvm.Free.SBG.digitsL nn) 7)) + (own_nj (Jvm.Free.SBG.digitsL nn) 8)) + (own_nj (Jvm.Free.SBG.digitsL nn) 9)) + (own_nj (Jvm.Free.SBG.digitsL nn) 10)) + (own_nj (Jvm.Free.SBG.digitsL nn) 11)) + (own_nj (Jvm.Free.SBG.digitsL nn) 12)) + (own_nj (Jvm.Free.SBG.digitsL nn) 13)))])) rfl (by rw [hml]; rfl) (argsL := [(.long j2), .long 100000000000000]) (rest := [(.int ((((((((((((((1 : Int32) + (own_nj (Jvm.Free.SBG.digitsL nn) 1)) + (own_nj (Jvm.Free.SBG.digitsL nn) 2)) + (own_nj (Jvm.Free.SBG.digitsL nn) 3)) + (own_nj (Jvm.Free.SBG.digitsL nn) 4)) + (own_nj (Jvm.Free.SBG.digitsL nn) 5)) + (own_nj (Jvm.Free.SBG.digitsL nn) 6)) + (own_nj (Jvm.Free.SBG.digitsL nn) 7)) + (own_nj (Jvm.Free.SBG.digitsL nn) 8)) + (own_nj (Jvm.Free.SBG.digitsL nn) 9)) + (own_nj (Jvm.Free.SBG.digitsL nn) 10)) + (own_nj (Jvm.Free.SBG.digitsL nn) 11)) + (own_nj (Jvm.Free.SBG.digitsL nn) 12)) + (own_nj (Jvm.Free.SBG.digitsL nn) 13)))]) (lenOf pd_0_35 rfl) rfl (Nat.le_of_eq rfl) (hb hby at_716) (fun _ _ => ⟨rfl, e29, hcl, hsl⟩)
  dsimp only [Pt.U, Pt.locs, Pt.cells, Pt.slots] at X31 l31 y31 z31 st31 hQ31
  subst l31 y31 z31
  obtain ⟨rfl, N31q, e31⟩ := hQ31
  have N31 := Fr.app N29 N31q
  obtain ⟨_, _, ⟨T33, L33, k33, n33⟩, -, X33, ⟨Lc33, hQ33, l33, y33, z33⟩, st33⟩ := Jvm.LawKit.callS X31 hx (y := y_3) hown (zT hZ hw 243 rfl) (zT hZ hw 244 rfl) (zT hZ hw 245 rfl) (zT hZ hw 246 rfl) (by decide) (backOf (W := 1) (r44 l Z a0 hw [] j2 (1000000000000000 : Int64) (own_nj (Jvm.Free.SBG.digitsL nn) 15) h0 n0 Z0 (by decide) (own_nzj j2 (1000000000000000 : Int64) nn 15 ha (by decide) (by decide))) hZ (zW hw 246 rfl) (zW hw 245 rfl) (by decide) (by decide)) (g := (mkF m 726 #[s0, s1, .val (.long j2), .second, s4, s5, s6, s7, s8, s9, s10, s11, s12, .val (.ref o13), .val (.int i14), s15, s16, s17] [.long 1000000000000000, (.long j2), (.int (((((((((((((((1 : Int32) + (own_nj (Jvm.Free.SBG.digitsL nn) 1)) + (own_nj (Jvm.Free.SBG.digitsL nn) 2)) + (own_nj (Jvm.Free.SBG.digitsL nn) 3)) + (own_nj (Jvm.Free.SBG.digitsL nn) 4)) + (own_nj (Jvm.Free.SBG.digitsL nn) 5)) + (own_nj (Jvm.Free.SBG.digitsL nn) 6)) + (own_nj (Jvm.Free.SBG.digitsL nn) 7)) + (own_nj (Jvm.Free.SBG.digitsL nn) 8)) + (own_nj (Jvm.Free.SBG.digitsL nn) 9)) + (own_nj (Jvm.Free.SBG.digitsL nn) 10)) + (own_nj (Jvm.Free.SBG.digitsL nn) 11)) + (own_nj (Jvm.Free.SBG.digitsL nn) 12)) + (own_nj (Jvm.Free.SBG.digitsL nn) 13)) + (own_nj (Jvm.Free.SBG.digitsL nn) 14)))])) rfl (by rw [hml]; rfl) (argsL := [(.long j2), .long 1000000000000000]) (rest := [(.int (((((((((((((((1 : Int32) + (own_nj (Jvm.Free.SBG.digitsL nn) 1)) + (own_nj (Jvm.Free.SBG.digitsL nn) 2)) + (own_nj (Jvm.Free.SBG.digitsL nn) 3)) + (own_nj (Jvm.Free.SBG.digitsL nn) 4)) + (own_nj (Jvm.Free.SBG.digitsL nn) 5)) + (own_nj (Jvm.Free.SBG.digitsL nn) 6)) + (own_nj (Jvm.Free.SBG.digitsL nn) 7)) + (own_nj (Jvm.Free.SBG.digitsL nn) 8)) + (own_nj (Jvm.Free.SBG.digitsL nn) 9)) + (own_nj (Jvm.Free.SBG.digitsL nn) 10)) + (own_nj (Jvm.Free.SBG.digitsL nn) 11)) + (own_nj (Jvm.Free.SBG.digitsL nn) 12)) + (own_nj (Jvm.Free.SBG.digitsL nn) 13)) + (own_nj (Jvm.Free.SBG.digitsL nn) 14)))]) (lenOf pd_0_35 rfl) rfl (Nat.le_of_eq rfl) (hb hby at_726) (fun _ _ => ⟨rfl, e31, hcl, hsl⟩)
  dsimp only [Pt.U, Pt.locs, Pt.cells, Pt.slots] at X33 l33 y33 z33 st33 hQ33
  subst l33 y33 z33
  obtain ⟨rfl, N33q, e33⟩ := hQ33
  have N33 := Fr.app N31 N33q
  obtain ⟨_, _, ⟨T35, L35, k35, n35⟩, -, X35, ⟨Lc35, hQ35, l35, y35, z35⟩, st35⟩ := Jvm.LawKit.callS X33 hx (y := y_3) hown (zT hZ hw 243 rfl) (zT hZ hw 244 rfl) (zT hZ hw 245 rfl) (zT hZ hw 246 rfl) (by decide) (backOf (W := 1) (r44 l Z a0 hw [] j2 (10000000000000000 : Int64) (own_nj (Jvm.Free.SBG.digitsL nn) 16) h0 n0 Z0 (by decide) (own_nzj j2 (10000000000000000 : Int64) nn 16 ha (by decide) (by decide))) hZ (zW hw 246 rfl) (zW hw 245 rfl) (by decide) (by decide)) (g := (mkF m 736 #[s0, s1, .val (.long j2), .second, s4, s5, s6, s7, s8, s9, s10, s11, s12, .val (.ref o13), .val (.int i14), s15, s16, s17] [.long 10000000000000000, (.long j2), (.int ((((((((((((((((1 : Int32) + (own_nj (Jvm.Free.SBG.digitsL nn) 1)) + (own_nj (Jvm.Free.SBG.digitsL nn) 2)) + (own_nj (Jvm.Free.SBG.digitsL nn) 3)) + (own_nj (Jvm.Free.SBG.digitsL nn) 4)) + (own_nj (Jvm.Free.SBG.digitsL nn) 5)) + (own_nj (Jvm.Free.SBG.digitsL nn) 6)) + (own_nj (Jvm.Free.SBG.digitsL nn) 7)) + (own_nj (Jvm.Free.SBG.digitsL nn) 8)) + (own_nj (Jvm.Free.SBG.digitsL nn) 9)) + (own_nj (Jvm.Free.SBG.digitsL nn) 10)) + (own_nj (Jvm.Free.SBG.digitsL nn) 11)) + (own_nj (Jvm.Free.SBG.digitsL nn) 12)) + (own_nj (Jvm.Free.SBG.digitsL nn) 13)) + (own_nj (Jvm.Free.SBG.digitsL nn) 14)) + (own_nj (Jvm.Free.SBG.digitsL nn) 15)))])) rfl (by rw [hml]; rfl) (argsL := [(.long j2), .long 10000000000000000]) (rest := [(.int ((((((((((((((((1 : Int32) + (own_nj (Jvm.Free.SBG.digitsL nn) 1)) + (own_nj (Jvm.Free.SBG.digitsL nn) 2)) + (own_nj (Jvm.Free.SBG.digitsL nn) 3)) + (own_nj (Jvm.Free.SBG.digitsL nn) 4)) + (own_nj (Jvm.Free.SBG.digitsL nn) 5)) + (own_nj (Jvm.Free.SBG.digitsL nn) 6)) + (own_nj (Jvm.Free.SBG.digitsL nn) 7)) + (own_nj (Jvm.Free.SBG.digitsL nn) 8)) + (own_nj (Jvm.Free.SBG.digitsL nn) 9)) + (own_nj (Jvm.Free.SBG.digitsL nn) 10)) + (own_nj (Jvm.Free.SBG.digitsL nn) 11)) + (own_nj (Jvm.Free.SBG.digitsL nn) 12)) + (own_nj (Jvm.Free.SBG.digitsL nn) 13)) + (own_nj (Jvm.Free.SBG.digitsL nn) 14)) + (own_nj (Jvm.Free.SBG.digitsL nn) 15)))]) (lenOf pd_0_35 rfl) rfl (Nat.le_of_eq rfl) (hb hby at_736) (fun _ _ => ⟨rfl, e33, hcl, hsl⟩)
  dsimp only [Pt.U, Pt.locs, Pt.cells, Pt.slots] at X35 l35 y35 z35 st35 hQ35
  subst l35 y35 z35
  obtain ⟨rfl, N35q, e35⟩ := hQ35
  have N35 := Fr.app N33 N35q
  obtain ⟨_, _, ⟨T37, L37, k37, n37⟩, -, X37, ⟨Lc37, hQ37, l37, y37, z37⟩, st37⟩ := Jvm.LawKit.callS X35 hx (y := y_3) hown (zT hZ hw 243 rfl) (zT hZ hw 244 rfl) (zT hZ hw 245 rfl) (zT hZ hw 246 rfl) (by decide) (backOf (W := 1) (r44 l Z a0 hw [] j2 (100000000000000000 : Int64) (own_nj (Jvm.Free.SBG.digitsL nn) 17) h0 n0 Z0 (by decide) (own_nzj j2 (100000000000000000 : Int64) nn 17 ha (by decide) (by decide))) hZ (zW hw 246 rfl) (zW hw 245 rfl) (by decide) (by decide)) (g := (mkF m 746 #[s0, s1, .val (.long j2), .second, s4, s5, s6, s7, s8, s9, s10, s11, s12, .val (.ref o13), .val (.int i14), s15, s16, s17] [.long 100000000000000000, (.long j2), (.int (((((((((((((((((1 : Int32) + (own_nj (Jvm.Free.SBG.digitsL nn) 1)) + (own_nj (Jvm.Free.SBG.digitsL nn) 2)) + (own_nj (Jvm.Free.SBG.digitsL nn) 3)) + (own_nj (Jvm.Free.SBG.digitsL nn) 4)) + (own_nj (Jvm.Free.SBG.digitsL nn) 5)) + (own_nj (Jvm.Free.SBG.digitsL nn) 6)) + (own_nj (Jvm.Free.SBG.digitsL nn) 7)) + (own_nj (Jvm.Free.SBG.digitsL nn) 8)) + (own_nj (Jvm.Free.SBG.digitsL nn) 9)) + (own_nj (Jvm.Free.SBG.digitsL nn) 10)) + (own_nj (Jvm.Free.SBG.digitsL nn) 11)) + (own_nj (Jvm.Free.SBG.digitsL nn) 12)) + (own_nj (Jvm.Free.SBG.digitsL nn) 13)) + (own_nj (Jvm.Free.SBG.digitsL nn) 14)) + (own_nj (Jvm.Free.SBG.digitsL nn) 15)) + (own_nj (Jvm.Free.SBG.digitsL nn) 16)))])) rfl (by rw [hml]; rfl) (argsL := [(.long j2), .long 100000000000000000]) (rest := [(.int (((((((((((((((((1 : Int32) + (own_nj (Jvm.Free.SBG.digitsL nn) 1)) + (own_nj (Jvm.Free.SBG.digitsL nn) 2)) + (own_nj (Jvm.Free.SBG.digitsL nn) 3)) + (own_nj (Jvm.Free.SBG.digitsL nn) 4)) + (own_nj (Jvm.Free.SBG.digitsL nn) 5)) + (own_nj (Jvm.Free.SBG.digitsL nn) 6)) + (own_nj (Jvm.Free.SBG.digitsL nn) 7)) + (own_nj (Jvm.Free.SBG.digitsL nn) 8)) + (own_nj (Jvm.Free.SBG.digitsL nn) 9)) + (own_nj (Jvm.Free.SBG.digitsL nn) 10)) + (own_nj (Jvm.Free.SBG.digitsL nn) 11)) + (own_nj (Jvm.Free.SBG.digitsL nn) 12)) + (own_nj (Jvm.Free.SBG.digitsL nn) 13)) + (own_nj (Jvm.Free.SBG.digitsL nn) 14)) + (own_nj (Jvm.Free.SBG.digitsL nn) 15)) + (own_nj (Jvm.Free.SBG.digitsL nn) 16)))]) (lenOf pd_0_35 rfl) rfl (Nat.le_of_eq rfl) (hb hby at_746) (fun _ _ => ⟨rfl, e35, hcl, hsl⟩)
  dsimp only [Pt.U, Pt.locs, Pt.cells, Pt.slots] at X37 l37 y37 z37 st37 hQ37
  subst l37 y37 z37
  obtain ⟨rfl, N37q, e37⟩ := hQ37
  have N37 := Fr.app N35 N37q
  obtain ⟨_, _, ⟨T39, L39, k39, n39⟩, -, X39, ⟨Lc39, hQ39, l39, y39, z39⟩, st39⟩ := Jvm.LawKit.callS X37 hx (y := y_3) hown (zT hZ hw 243 rfl) (zT hZ hw 244 rfl) (zT hZ hw 245 rfl) (zT hZ hw 246 rfl) (by decide) (backOf (W := 1) (r44 l Z a0 hw [] j2 (1000000000000000000 : Int64) (own_nj (Jvm.Free.SBG.digitsL nn) 18) h0 n0 Z0 (by decide) (own_nzj j2 (1000000000000000000 : Int64) nn 18 ha (by decide) (by decide))) hZ (zW hw 246 rfl) (zW hw 245 rfl) (by decide) (by decide)) (g := (mkF m 756 #[s0, s1, .val (.long j2), .second, s4, s5, s6, s7, s8, s9, s10, s11, s12, .val (.ref o13), .val (.int i14), s15, s16, s17] [.long 1000000000000000000, (.long j2), (.int ((((((((((((((((((1 : Int32) + (own_nj (Jvm.Free.SBG.digitsL nn) 1)) + (own_nj (Jvm.Free.SBG.digitsL nn) 2)) + (own_nj (Jvm.Free.SBG.digitsL nn) 3)) + (own_nj (Jvm.Free.SBG.digitsL nn) 4)) + (own_nj (Jvm.Free.SBG.digitsL nn) 5)) + (own_nj (Jvm.Free.SBG.digitsL nn) 6)) + (own_nj (Jvm.Free.SBG.digitsL nn) 7)) + (own_nj (Jvm.Free.SBG.digitsL nn) 8)) + (own_nj (Jvm.Free.SBG.digitsL nn) 9)) + (own_nj (Jvm.Free.SBG.digitsL nn) 10)) + (own_nj (Jvm.Free.SBG.digitsL nn) 11)) + (own_nj (Jvm.Free.SBG.digitsL nn) 12)) + (own_nj (Jvm.Free.SBG.digitsL nn) 13)) + (own_nj (Jvm.Free.SBG.digitsL nn) 14)) + (own_nj (Jvm.Free.SBG.digitsL nn) 15)) + (own_nj (Jvm.Free.SBG.digitsL nn) 16)) + (own_nj (Jvm.Free.SBG.digitsL nn) 17)))])) rfl (by rw [hml]; rfl) (argsL := [(.long j2), .long 1000000000000000000]) (rest := [(.int ((((((((((((((((((1 : Int32) + (own_nj (Jvm.Free.SBG.digitsL nn) 1)) + (own_nj (Jvm.Free.SBG.digitsL nn) 2)) + (own_nj (Jvm.Free.SBG.digitsL nn) 3)) + (own_nj (Jvm.Free.SBG.digitsL nn) 4)) + (own_nj (Jvm.Free.SBG.digitsL nn) 5)) + (own_nj (Jvm.Free.SBG.digitsL nn) 6)) + (own_nj (Jvm.Free.SBG.digitsL nn) 7)) + (own_nj (Jvm.Free.SBG.digitsL nn) 8)) + (own_nj (Jvm.Free.SBG.digitsL nn) 9)) + (own_nj (Jvm.Free.SBG.digitsL nn) 10)) + (own_nj (Jvm.Free.SBG.digitsL nn) 11)) + (own_nj (Jvm.Free.SBG.digitsL nn) 12)) + (own_nj (Jvm.Free.SBG.digitsL nn) 13)) + (own_nj (Jvm.Free.SBG.digitsL nn) 14)) + (own_nj (Jvm.Free.SBG.digitsL nn) 15)) + (own_nj (Jvm.Free.SBG.digitsL nn) 16)) + (own_nj (Jvm.Free.SBG.digitsL nn) 17)))]) (lenOf pd_0_35 rfl) rfl (Nat.le_of_eq rfl) (hb hby at_756) (fun _ _ => ⟨rfl, e37, hcl, hsl⟩)
  dsimp only [Pt.U, Pt.locs, Pt.cells, Pt.slots] at X39 l39 y39 z39 st39 hQ39
  subst l39 y39 z39
  obtain ⟨rfl, N39q, e39⟩ := hQ39
  have N39 := Fr.app N37 N39q
  refine ⟨T39, _, X39, N39, e39, fun target kt => ?_⟩
  refine XS.iconst X0.here hx rfl (hb hby at_584) ?_
  refine XS.lloadN X0.here hx rfl (hb hby at_585) rfl ?_
  refine XS.aload X0.here hx rfl (hb hby at_586) rfl rfl ?_
  refine XS.iconst X0.here hx rfl (hb hby at_588) ?_
  refine X0.laload hx (j := (1 : Int32)) (v := (.long 10)) (by rw [e0]; exact Ar_o13.1) (State.isArrayOf_alike hZ.alike Ar_o13.2.1) Ar_o13.2.2 hin589 hat589 (g := (mkF m 589 #[s0, s1, .val (.long j2), .second, s4, s5, s6, s7, s8, s9, s10, s11, s12, .val (.ref o13), .val (.int i14), s15, s16, s17] [.int 1, .ref o13, (.long j2), .int 1])) rfl rfl (hb hby at_589) _ ?_
  refine st5 _ ?_
  refine XS.iadd X5.here hx rfl (hb hby at_593) rfl ?_
  refine XS.lloadN X5.here hx rfl (hb hby at_594) rfl ?_
  refine XS.aload X5.here hx rfl (hb hby at_595) rfl rfl ?_
  refine XS.iconst X5.here hx rfl (hb hby at_597) ?_
  refine X5.laload hx (j := (2 : Int32)) (v := (.long 100)) (by rw [e5]; exact Ar_o13.1) (State.isArrayOf_alike hZ.alike Ar_o13.2.1) Ar_o13.2.2 hin598 hat598 (g := (mkF m 598 #[s0, s1, .val (.long j2), .second, s4, s5, s6, s7, s8, s9, s10, s11, s12, .val (.ref o13), .val (.int i14), s15, s16, s17] [.int 2, .ref o13, (.long j2), (.int ((1 : Int32) + (own_nj (Jvm.Free.SBG.digitsL nn) 1)))])) rfl rfl (hb hby at_598) _ ?_
  refine st7 _ ?_
  refine XS.iadd X7.here hx rfl (hb hby at_602) rfl ?_
  refine XS.lloadN X7.here hx rfl (hb hby at_603) rfl ?_
  refine XS.aload X7.here hx rfl (hb hby at_604) rfl rfl ?_
  refine XS.iconst X7.here hx rfl (hb hby at_606) ?_
  refine X7.laload hx (j := (3 : Int32)) (v := (.long 1000)) (by rw [e7]; exact Ar_o13.1) (State.isArrayOf_alike hZ.alike Ar_o13.2.1) Ar_o13.2.2 hin607 hat607 (g := (mkF m 607 #[s0, s1, .val (.long j2), .second, s4, s5, s6, s7, s8, s9, s10, s11, s12, .val (.ref o13), .val (.int i14), s15, s16, s17] [.int 3, .ref o13, (.long j2), (.int (((1 : Int32) + (own_nj (Jvm.Free.SBG.digitsL nn) 1)) + (own_nj (Jvm.Free.SBG.digitsL nn) 2)))])) rfl rfl (hb hby at_607) _ ?_
  refine st9 _ ?_
  refine XS.iadd X9.here hx rfl (hb hby at_611) rfl ?_
  refine XS.lloadN X9.here hx rfl (hb hby at_612) rfl ?_
  refine XS.aload X9.here hx rfl (hb hby at_613) rfl rfl ?_
  refine XS.iconst X9.here hx rfl (hb hby at_615) ?_
  refine X9.laload hx (j := (4 : Int32)) (v := (.long 10000)) (by rw [e9]; exact Ar_o13.1) (State.isArrayOf_alike hZ.alike Ar_o13.2.1) Ar_o13.2.2 hin616 hat616 (g := (mkF m 616 #[s0, s1, .val (.long j2), .second, s4, s5, s6, s7, s8, s9, s10, s11, s12, .val (.ref o13), .val (.int i14), s15, s16, s17] [.int 4, .ref o13, (.long j2), (.int ((((1 : Int32) + (own_nj (Jvm.Free.SBG.digitsL nn) 1)) + (own_nj (Jvm.Free.SBG.digitsL nn) 2)) + (own_nj (Jvm.Free.SBG.digitsL nn) 3)))])) rfl rfl (hb hby at_616) _ ?_
  refine st11 _ ?_
  refine XS.iadd X11.here hx rfl (hb hby at_620) rfl ?_
  refine XS.lloadN X11.here hx rfl (hb hby at_621) rfl ?_
  refine XS.aload X11.here hx rfl (hb hby at_622) rfl rfl ?_
  refine XS.iconst X11.here hx rfl (hb hby at_624) ?_
  refine X11.laload hx (j := (5 : Int32)) (v := (.long 100000)) (by rw [e11]; exact Ar_o13.1) (State.isArrayOf_alike hZ.alike Ar_o13.2.1) Ar_o13.2.2 hin625 hat625 (g := (mkF m 625 #[s0, s1, .val (.long j2), .second, s4, s5, s6, s7, s8, s9, s10, s11, s12, .val (.ref o13), .val (.int i14), s15, s16, s17] [.int 5, .ref o13, (.long j2), (.int (((((1 : Int32) + (own_nj (Jvm.Free.SBG.digitsL nn) 1)) + (own_nj (Jvm.Free.SBG.digitsL nn) 2)) + (own_nj (Jvm.Free.SBG.digitsL nn) 3)) + (own_nj (Jvm.Free.SBG.digitsL nn) 4)))])) rfl rfl (hb hby at_625) _ ?_
  refine st13 _ ?_
  refine XS.iadd X13.here hx rfl (hb hby at_629) rfl ?_
  refine XS.lloadN X13.here hx rfl (hb hby at_630) rfl ?_
  refine XS.aload X13.here hx rfl (hb hby at_631) rfl rfl ?_
  refine XS.bipush X13.here hx rfl (hb hby at_633) ?_
  refine X13.laload hx (j := (6 : Int32)) (v := (.long 1000000)) (by rw [e13]; exact Ar_o13.1) (State.isArrayOf_alike hZ.alike Ar_o13.2.1) Ar_o13.2.2 hin635 hat635 (g := (mkF m 635 #[s0, s1, .val (.long j2), .second, s4, s5, s6, s7, s8, s9, s10, s11, s12, .val (.ref o13), .val (.int i14), s15, s16, s17] [.int 6, .ref o13, (.long j2), (.int ((((((1 : Int32) + (own_nj (Jvm.Free.SBG.digitsL nn) 1)) + (own_nj (Jvm.Free.SBG.digitsL nn) 2)) + (own_nj (Jvm.Free.SBG.digitsL nn) 3)) + (own_nj (Jvm.Free.SBG.digitsL nn) 4)) + (own_nj (Jvm.Free.SBG.digitsL nn) 5)))])) rfl rfl (hb hby at_635) _ ?_
  refine st15 _ ?_
  refine XS.iadd X15.here hx rfl (hb hby at_639) rfl ?_
  refine XS.lloadN X15.here hx rfl (hb hby at_640) rfl ?_
  refine XS.aload X15.here hx rfl (hb hby at_641) rfl rfl ?_
  refine XS.bipush X15.here hx rfl (hb hby at_643) ?_
  refine X15.laload hx (j := (7 : Int32)) (v := (.long 10000000)) (by rw [e15]; exact Ar_o13.1) (State.isArrayOf_alike hZ.alike Ar_o13.2.1) Ar_o13.2.2 hin645 hat645 (g := (mkF m 645 #[s0, s1, .val (.long j2), .second, s4, s5, s6, s7, s8, s9, s10, s11, s12, .val (.ref o13), .val (.int i14), s15, s16, s17] [.int 7, .ref o13, (.long j2), (.int (((((((1 : Int32) + (own_nj (Jvm.Free.SBG.digitsL nn) 1)) + (own_nj (Jvm.Free.SBG.digitsL nn) 2)) + (own_nj (Jvm.Free.SBG.digitsL nn) 3)) + (own_nj (Jvm.Free.SBG.digitsL nn) 4)) + (own_nj (Jvm.Free.SBG.digitsL nn) 5)) + (own_nj (Jvm.Free.SBG.digitsL nn) 6)))])) rfl rfl (hb hby at_645) _ ?_
  refine st17 _ ?_
  refine XS.iadd X17.here hx rfl (hb hby at_649) rfl ?_
  refine XS.lloadN X17.here hx rfl (hb hby at_650) rfl ?_
  refine XS.aload X17.here hx rfl (hb hby at_651) rfl rfl ?_
  refine XS.bipush X17.here hx rfl (hb hby at_653) ?_
  refine X17.laload hx (j := (8 : Int32)) (v := (.long 100000000)) (by rw [e17]; exact Ar_o13.1) (State.isArrayOf_alike hZ.alike Ar_o13.2.1) Ar_o13.2.2 hin655 hat655 (g := (mkF m 655 #[s0, s1, .val (.long j2), .second, s4, s5, s6, s7, s8, s9, s10, s11, s12, .val (.ref o13), .val (.int i14), s15, s16, s17] [.int 8, .ref o13, (.long j2), (.int ((((((((1 : Int32) + (own_nj (Jvm.Free.SBG.digitsL nn) 1)) + (own_nj (Jvm.Free.SBG.digitsL nn) 2)) + (own_nj (Jvm.Free.SBG.digitsL nn) 3)) + (own_nj (Jvm.Free.SBG.digitsL nn) 4)) + (own_nj (Jvm.Free.SBG.digitsL nn) 5)) + (own_nj (Jvm.Free.SBG.digitsL nn) 6)) + (own_nj (Jvm.Free.SBG.digitsL nn) 7)))])) rfl rfl (hb hby at_655) _ ?_
  refine st19 _ ?_
  refine XS.iadd X19.here hx rfl (hb hby at_659) rfl ?_
  refine XS.lloadN X19.here hx rfl (hb hby at_660) rfl ?_
  refine XS.aload X19.here hx rfl (hb hby at_661) rfl rfl ?_
  refine XS.bipush X19.here hx rfl (hb hby at_663) ?_
  refine X19.laload hx (j := (9 : Int32)) (v := (.long 1000000000)) (by rw [e19]; exact Ar_o13.1) (State.isArrayOf_alike hZ.alike Ar_o13.2.1) Ar_o13.2.2 hin665 hat665 (g := (mkF m 665 #[s0, s1, .val (.long j2), .second, s4, s5, s6, s7, s8, s9, s10, s11, s12, .val (.ref o13), .val (.int i14), s15, s16, s17] [.int 9, .ref o13, (.long j2), (.int (((((((((1 : Int32) + (own_nj (Jvm.Free.SBG.digitsL nn) 1)) + (own_nj (Jvm.Free.SBG.digitsL nn) 2)) + (own_nj (Jvm.Free.SBG.digitsL nn) 3)) + (own_nj (Jvm.Free.SBG.digitsL nn) 4)) + (own_nj (Jvm.Free.SBG.digitsL nn) 5)) + (own_nj (Jvm.Free.SBG.digitsL nn) 6)) + (own_nj (Jvm.Free.SBG.digitsL nn) 7)) + (own_nj (Jvm.Free.SBG.digitsL nn) 8)))])) rfl rfl (hb hby at_665) _ ?_
  refine st21 _ ?_
  refine XS.iadd X21.here hx rfl (hb hby at_669) rfl ?_
  refine XS.lloadN X21.here hx rfl (hb hby at_670) rfl ?_
  refine XS.aload X21.here hx rfl (hb hby at_671) rfl rfl ?_
  refine XS.bipush X21.here hx rfl (hb hby at_673) ?_
  refine X21.laload hx (j := (10 : Int32)) (v := (.long 10000000000)) (by rw [e21]; exact Ar_o13.1) (State.isArrayOf_alike hZ.alike Ar_o13.2.1) Ar_o13.2.2 hin675 hat675 (g := (mkF m 675 #[s0, s1, .val (.long j2), .second, s4, s5, s6, s7, s8, s9, s10, s11, s12, .val (.ref o13), .val (.int i14), s15, s16, s17] [.int 10, .ref o13, (.long j2), (.int ((((((((((1 : Int32) + (own_nj (Jvm.Free.SBG.digitsL nn) 1)) + (own_nj (Jvm.Free.SBG.digitsL nn) 2)) + (own_nj (Jvm.Free.SBG.digitsL nn) 3)) + (own_nj (Jvm.Free.SBG.digitsL nn) 4)) + (own_nj (Jvm.Free.SBG.digitsL nn) 5)) + (own_nj (Jvm.Free.SBG.digitsL nn) 6)) + (own_nj (Jvm.Free.SBG.digitsL nn) 7)) + (own_nj (Jvm.Free.SBG.digitsL nn) 8)) + (own_nj (Jvm.Free.SBG.digitsL nn) 9)))])) rfl rfl (hb hby at_675) _ ?_
  refine st23 _ ?_
  refine XS.iadd X23.here hx rfl (hb hby at_679) rfl ?_
  refine XS.lloadN X23.here hx rfl (hb hby at_680) rfl ?_
  refine XS.aload X23.here hx rfl (hb hby at_681) rfl rfl ?_
  refine XS.bipush X23.here hx rfl (hb hby at_683) ?_
  refine X23.laload hx (j := (11 : Int32)) (v := (.long 100000000000)) (by rw [e23]; exact Ar_o13.1) (State.isArrayOf_alike hZ.alike Ar_o13.2.1) Ar_o13.2.2 hin685 hat685 (g := (mkF m 685 #[s0, s1, .val (.long j2), .second, s4, s5, s6, s7, s8, s9, s10, s11, s12, .val (.ref o13), .val (.int i14), s15, s16, s17] [.int 11, .ref o13, (.long j2), (.int (((((((((((1 : Int32) + (own_nj (Jvm.Free.SBG.digitsL nn) 1)) + (own_nj (Jvm.Free.SBG.digitsL nn) 2)) + (own_nj (Jvm.Free.SBG.digitsL nn) 3)) + (own_nj (Jvm.Free.SBG.digitsL nn) 4)) + (own_nj (Jvm.Free.SBG.digitsL nn) 5)) + (own_nj (Jvm.Free.SBG.digitsL nn) 6)) + (own_nj (Jvm.Free.SBG.digitsL nn) 7)) + (own_nj (Jvm.Free.SBG.digitsL nn) 8)) + (own_nj (Jvm.Free.SBG.digitsL nn) 9)) + (own_nj (Jvm.Free.SBG.digitsL nn) 10)))])) rfl rfl (hb hby at_685) _ ?_
  refine st25 _ ?_
  refine XS.iadd X25.here hx rfl (hb hby at_689) rfl ?_
  refine XS.lloadN X25.here hx rfl (hb hby at_690) rfl ?_
  refine XS.aload X25.here hx rfl (hb hby at_691) rfl rfl ?_
  refine XS.bipush X25.here hx rfl (hb hby at_693) ?_
  refine X25.laload hx (j := (12 : Int32)) (v := (.long 1000000000000)) (by rw [e25]; exact Ar_o13.1) (State.isArrayOf_alike hZ.alike Ar_o13.2.1) Ar_o13.2.2 hin695 hat695 (g := (mkF m 695 #[s0, s1, .val (.long j2), .second, s4, s5, s6, s7, s8, s9, s10, s11, s12, .val (.ref o13), .val (.int i14), s15, s16, s17] [.int 12, .ref o13, (.long j2), (.int ((((((((((((1 : Int32) + (own_nj (Jvm.Free.SBG.digitsL nn) 1)) + (own_nj (Jvm.Free.SBG.digitsL nn) 2)) + (own_nj (Jvm.Free.SBG.digitsL nn) 3)) + (own_nj (Jvm.Free.SBG.digitsL nn) 4)) + (own_nj (Jvm.Free.SBG.digitsL nn) 5)) + (own_nj (Jvm.Free.SBG.digitsL nn) 6)) + (own_nj (Jvm.Free.SBG.digitsL nn) 7)) + (own_nj (Jvm.Free.SBG.digitsL nn) 8)) + (own_nj (Jvm.Free.SBG.digitsL nn) 9)) + (own_nj (Jvm.Free.SBG.digitsL nn) 10)) + (own_nj (Jvm.Free.SBG.digitsL nn) 11)))])) rfl rfl (hb hby at_695) _ ?_
  refine st27 _ ?_
  refine XS.iadd X27.here hx rfl (hb hby at_699) rfl ?_
  refine XS.lloadN X27.here hx rfl (hb hby at_700) rfl ?_
  refine XS.aload X27.here hx rfl (hb hby at_701) rfl rfl ?_
  refine XS.bipush X27.here hx rfl (hb hby at_703) ?_
  refine X27.laload hx (j := (13 : Int32)) (v := (.long 10000000000000)) (by rw [e27]; exact Ar_o13.1) (State.isArrayOf_alike hZ.alike Ar_o13.2.1) Ar_o13.2.2 hin705 hat705 (g := (mkF m 705 #[s0, s1, .val (.long j2), .second, s4, s5, s6, s7, s8, s9, s10, s11, s12, .val (.ref o13), .val (.int i14), s15, s16, s17] [.int 13, .ref o13, (.long j2), (.int (((((((((((((1 : Int32) + (own_nj (Jvm.Free.SBG.digitsL nn) 1)) + (own_nj (Jvm.Free.SBG.digitsL nn) 2)) + (own_nj (Jvm.Free.SBG.digitsL nn) 3)) + (own_nj (Jvm.Free.SBG.digitsL nn) 4)) + (own_nj (Jvm.Free.SBG.digitsL nn) 5)) + (own_nj (Jvm.Free.SBG.digitsL nn) 6)) + (own_nj (Jvm.Free.SBG.digitsL nn) 7)) + (own_nj (Jvm.Free.SBG.digitsL nn) 8)) + (own_nj (Jvm.Free.SBG.digitsL nn) 9)) + (own_nj (Jvm.Free.SBG.digitsL nn) 10)) + (own_nj (Jvm.Free.SBG.digitsL nn) 11)) + (own_nj (Jvm.Free.SBG.digitsL nn) 12)))])) rfl rfl (hb hby at_705) _ ?_
  refine st29 _ ?_
  refine XS.iadd X29.here hx rfl (hb hby at_709) rfl ?_
  refine XS.lloadN X29.here hx rfl (hb hby at_710) rfl ?_
  refine XS.aload X29.here hx rfl (hb hby at_711) rfl rfl ?_
  refine XS.bipush X29.here hx rfl (hb hby at_713) ?_
  refine X29.laload hx (j := (14 : Int32)) (v := (.long 100000000000000)) (by rw [e29]; exact Ar_o13.1) (State.isArrayOf_alike hZ.alike Ar_o13.2.1) Ar_o13.2.2 hin715 hat715 (g := (mkF m 715 #[s0, s1, .val (.long j2), .second, s4, s5, s6, s7, s8, s9, s10, s11, s12, .val (.ref o13), .val (.int i14), s15, s16, s17] [.int 14, .ref o13, (.long j2), (.int ((((((((((((((1 : Int32) + (own_nj (Jvm.Free.SBG.digitsL nn) 1)) + (own_nj (Jvm.Free.SBG.digitsL nn) 2)) + (own_nj (Jvm.Free.SBG.digitsL nn) 3)) + (own_nj (Jvm.Free.SBG.digitsL nn) 4)) + (own_nj (Jvm.Free.SBG.digitsL nn) 5)) + (own_nj (Jvm.Free.SBG.digitsL nn) 6)) + (own_nj (Jvm.Free.SBG.digitsL nn) 7)) + (own_nj (Jvm.Free.SBG.digitsL nn) 8)) + (own_nj (Jvm.Free.SBG.digitsL nn) 9)) + (own_nj (Jvm.Free.SBG.digitsL nn) 10)) + (own_nj (Jvm.Free.SBG.digitsL nn) 11)) + (own_nj (Jvm.Free.SBG.digitsL nn) 12)) + (own_nj (Jvm.Free.SBG.digitsL nn) 13)))])) rfl rfl (hb hby at_715) _ ?_
  refine st31 _ ?_
  refine XS.iadd X31.here hx rfl (hb hby at_719) rfl ?_
  refine XS.lloadN X31.here hx rfl (hb hby at_720) rfl ?_
  refine XS.aload X31.here hx rfl (hb hby at_721) rfl rfl ?_
  refine XS.bipush X31.here hx rfl (hb hby at_723) ?_
  refine X31.laload hx (j := (15 : Int32)) (v := (.long 1000000000000000)) (by rw [e31]; exact Ar_o13.1) (State.isArrayOf_alike hZ.alike Ar_o13.2.1) Ar_o13.2.2 hin725 hat725 (g := (mkF m 725 #[s0, s1, .val (.long j2), .second, s4, s5, s6, s7, s8, s9, s10, s11, s12, .val (.ref o13), .val (.int i14), s15, s16, s17] [.int 15, .ref o13, (.long j2), (.int (((((((((((((((1 : Int32) + (own_nj (Jvm.Free.SBG.digitsL nn) 1)) + (own_nj (Jvm.Free.SBG.digitsL nn) 2)) + (own_nj (Jvm.Free.SBG.digitsL nn) 3)) + (own_nj (Jvm.Free.SBG.digitsL nn) 4)) + (own_nj (Jvm.Free.SBG.digitsL nn) 5)) + (own_nj (Jvm.Free.SBG.digitsL nn) 6)) + (own_nj (Jvm.Free.SBG.digitsL nn) 7)) + (own_nj (Jvm.Free.SBG.digitsL nn) 8)) + (own_nj (Jvm.Free.SBG.digitsL nn) 9)) + (own_nj (Jvm.Free.SBG.digitsL nn) 10)) + (own_nj (Jvm.Free.SBG.digitsL nn) 11)) + (own_nj (Jvm.Free.SBG.digitsL nn) 12)) + (own_nj (Jvm.Free.SBG.digitsL nn) 13)) + (own_nj (Jvm.Free.SBG.digitsL nn) 14)))])) rfl rfl (hb hby at_725) _ ?_
  refine st33 _ ?_
  refine XS.iadd X33.here hx rfl (hb hby at_729) rfl ?_
  refine XS.lloadN X33.here hx rfl (hb hby at_730) rfl ?_
  refine XS.aload X33.here hx rfl (hb hby at_731) rfl rfl ?_
  refine XS.bipush X33.here hx rfl (hb hby at_733) ?_
  refine X33.laload hx (j := (16 : Int32)) (v := (.long 10000000000000000)) (by rw [e33]; exact Ar_o13.1) (State.isArrayOf_alike hZ.alike Ar_o13.2.1) Ar_o13.2.2 hin735 hat735 (g := (mkF m 735 #[s0, s1, .val (.long j2), .second, s4, s5, s6, s7, s8, s9, s10, s11, s12, .val (.ref o13), .val (.int i14), s15, s16, s17] [.int 16, .ref o13, (.long j2), (.int ((((((((((((((((1 : Int32) + (own_nj (Jvm.Free.SBG.digitsL nn) 1)) + (own_nj (Jvm.Free.SBG.digitsL nn) 2)) + (own_nj (Jvm.Free.SBG.digitsL nn) 3)) + (own_nj (Jvm.Free.SBG.digitsL nn) 4)) + (own_nj (Jvm.Free.SBG.digitsL nn) 5)) + (own_nj (Jvm.Free.SBG.digitsL nn) 6)) + (own_nj (Jvm.Free.SBG.digitsL nn) 7)) + (own_nj (Jvm.Free.SBG.digitsL nn) 8)) + (own_nj (Jvm.Free.SBG.digitsL nn) 9)) + (own_nj (Jvm.Free.SBG.digitsL nn) 10)) + (own_nj (Jvm.Free.SBG.digitsL nn) 11)) + (own_nj (Jvm.Free.SBG.digitsL nn) 12)) + (own_nj (Jvm.Free.SBG.digitsL nn) 13)) + (own_nj (Jvm.Free.SBG.digitsL nn) 14)) + (own_nj (Jvm.Free.SBG.digitsL nn) 15)))])) rfl rfl (hb hby at_735) _ ?_
  refine st35 _ ?_
  refine XS.iadd X35.here hx rfl (hb hby at_739) rfl ?_
  refine XS.lloadN X35.here hx rfl (hb hby at_740) rfl ?_
  refine XS.aload X35.here hx rfl (hb hby at_741) rfl rfl ?_
  refine XS.bipush X35.here hx rfl (hb hby at_743) ?_
  refine X35.laload hx (j := (17 : Int32)) (v := (.long 100000000000000000)) (by rw [e35]; exact Ar_o13.1) (State.isArrayOf_alike hZ.alike Ar_o13.2.1) Ar_o13.2.2 hin745 hat745 (g := (mkF m 745 #[s0, s1, .val (.long j2), .second, s4, s5, s6, s7, s8, s9, s10, s11, s12, .val (.ref o13), .val (.int i14), s15, s16, s17] [.int 17, .ref o13, (.long j2), (.int (((((((((((((((((1 : Int32) + (own_nj (Jvm.Free.SBG.digitsL nn) 1)) + (own_nj (Jvm.Free.SBG.digitsL nn) 2)) + (own_nj (Jvm.Free.SBG.digitsL nn) 3)) + (own_nj (Jvm.Free.SBG.digitsL nn) 4)) + (own_nj (Jvm.Free.SBG.digitsL nn) 5)) + (own_nj (Jvm.Free.SBG.digitsL nn) 6)) + (own_nj (Jvm.Free.SBG.digitsL nn) 7)) + (own_nj (Jvm.Free.SBG.digitsL nn) 8)) + (own_nj (Jvm.Free.SBG.digitsL nn) 9)) + (own_nj (Jvm.Free.SBG.digitsL nn) 10)) + (own_nj (Jvm.Free.SBG.digitsL nn) 11)) + (own_nj (Jvm.Free.SBG.digitsL nn) 12)) + (own_nj (Jvm.Free.SBG.digitsL nn) 13)) + (own_nj (Jvm.Free.SBG.digitsL nn) 14)) + (own_nj (Jvm.Free.SBG.digitsL nn) 15)) + (own_nj (Jvm.Free.SBG.digitsL nn) 16)))])) rfl rfl (hb hby at_745) _ ?_
  refine st37 _ ?_
  refine XS.iadd X37.here hx rfl (hb hby at_749) rfl ?_
  refine XS.lloadN X37.here hx rfl (hb hby at_750) rfl ?_
  refine XS.aload X37.here hx rfl (hb hby at_751) rfl rfl ?_
  refine XS.bipush X37.here hx rfl (hb hby at_753) ?_
  refine X37.laload hx (j := (18 : Int32)) (v := (.long 1000000000000000000)) (by rw [e37]; exact Ar_o13.1) (State.isArrayOf_alike hZ.alike Ar_o13.2.1) Ar_o13.2.2 hin755 hat755 (g := (mkF m 755 #[s0, s1, .val (.long j2), .second, s4, s5, s6, s7, s8, s9, s10, s11, s12, .val (.ref o13), .val (.int i14), s15, s16, s17] [.int 18, .ref o13, (.long j2), (.int ((((((((((((((((((1 : Int32) + (own_nj (Jvm.Free.SBG.digitsL nn) 1)) + (own_nj (Jvm.Free.SBG.digitsL nn) 2)) + (own_nj (Jvm.Free.SBG.digitsL nn) 3)) + (own_nj (Jvm.Free.SBG.digitsL nn) 4)) + (own_nj (Jvm.Free.SBG.digitsL nn) 5)) + (own_nj (Jvm.Free.SBG.digitsL nn) 6)) + (own_nj (Jvm.Free.SBG.digitsL nn) 7)) + (own_nj (Jvm.Free.SBG.digitsL nn) 8)) + (own_nj (Jvm.Free.SBG.digitsL nn) 9)) + (own_nj (Jvm.Free.SBG.digitsL nn) 10)) + (own_nj (Jvm.Free.SBG.digitsL nn) 11)) + (own_nj (Jvm.Free.SBG.digitsL nn) 12)) + (own_nj (Jvm.Free.SBG.digitsL nn) 13)) + (own_nj (Jvm.Free.SBG.digitsL nn) 14)) + (own_nj (Jvm.Free.SBG.digitsL nn) 15)) + (own_nj (Jvm.Free.SBG.digitsL nn) 16)) + (own_nj (Jvm.Free.SBG.digitsL nn) 17)))])) rfl rfl (hb hby at_755) _ ?_
  refine st39 _ ?_
  refine XS.iadd X39.here hx rfl (hb hby at_759) rfl ?_
  refine XS.istore X39.here hx rfl (hb hby at_760) rfl (l' := #[s0, s1, .val (.long j2), .second, s4, s5, s6, s7, s8, s9, s10, s11, s12, .val (.ref o13), .val (.int i14), .val (.int (((((((((((((((((((1 : Int32) + (own_nj (Jvm.Free.SBG.digitsL nn) 1)) + (own_nj (Jvm.Free.SBG.digitsL nn) 2)) + (own_nj (Jvm.Free.SBG.digitsL nn) 3)) + (own_nj (Jvm.Free.SBG.digitsL nn) 4)) + (own_nj (Jvm.Free.SBG.digitsL nn) 5)) + (own_nj (Jvm.Free.SBG.digitsL nn) 6)) + (own_nj (Jvm.Free.SBG.digitsL nn) 7)) + (own_nj (Jvm.Free.SBG.digitsL nn) 8)) + (own_nj (Jvm.Free.SBG.digitsL nn) 9)) + (own_nj (Jvm.Free.SBG.digitsL nn) 10)) + (own_nj (Jvm.Free.SBG.digitsL nn) 11)) + (own_nj (Jvm.Free.SBG.digitsL nn) 12)) + (own_nj (Jvm.Free.SBG.digitsL nn) 13)) + (own_nj (Jvm.Free.SBG.digitsL nn) 14)) + (own_nj (Jvm.Free.SBG.digitsL nn) 15)) + (own_nj (Jvm.Free.SBG.digitsL nn) 16)) + (own_nj (Jvm.Free.SBG.digitsL nn) 17)) + (own_nj (Jvm.Free.SBG.digitsL nn) 18))), s16, s17]) (os0_760_own_nzs hs15) ?_
  refine XS.bipush X39.here hx rfl (hb hby at_762) ?_
  refine XS.iload X39.here hx rfl (hb hby at_764) rfl ?_
  refine XS.iadd X39.here hx rfl (hb hby at_766) rfl ?_
  refine XS.istore X39.here hx rfl (hb hby at_767) rfl (l' := #[s0, s1, .val (.long j2), .second, s4, s5, s6, s7, s8, s9, s10, s11, s12, .val (.ref o13), .val (.int i14), .val (.int (((((((((((((((((((1 : Int32) + (own_nj (Jvm.Free.SBG.digitsL nn) 1)) + (own_nj (Jvm.Free.SBG.digitsL nn) 2)) + (own_nj (Jvm.Free.SBG.digitsL nn) 3)) + (own_nj (Jvm.Free.SBG.digitsL nn) 4)) + (own_nj (Jvm.Free.SBG.digitsL nn) 5)) + (own_nj (Jvm.Free.SBG.digitsL nn) 6)) + (own_nj (Jvm.Free.SBG.digitsL nn) 7)) + (own_nj (Jvm.Free.SBG.digitsL nn) 8)) + (own_nj (Jvm.Free.SBG.digitsL nn) 9)) + (own_nj (Jvm.Free.SBG.digitsL nn) 10)) + (own_nj (Jvm.Free.SBG.digitsL nn) 11)) + (own_nj (Jvm.Free.SBG.digitsL nn) 12)) + (own_nj (Jvm.Free.SBG.digitsL nn) 13)) + (own_nj (Jvm.Free.SBG.digitsL nn) 14)) + (own_nj (Jvm.Free.SBG.digitsL nn) 15)) + (own_nj (Jvm.Free.SBG.digitsL nn) 16)) + (own_nj (Jvm.Free.SBG.digitsL nn) 17)) + (own_nj (Jvm.Free.SBG.digitsL nn) 18))), .val (.int ((34 : Int32) + i14)), s17]) (os0_767_own_nzs hs16) ?_
  exact kt
def own_FM (Z : State) (h : Heap) : Prop := ∃ fm : Value, Sta Z h "jdk/internal/util/Preconditions" "SIOOBE_FORMATTER" "Ljava/util/function/BiFunction;" fm ∧ fm.isRef = true
def own_M (Z : State) (h : Heap) (a1 a2 : Addr) (n off : Nat) (xs es : List Int32) (ke : ClassId) : Prop := (own_Str Z h a1 xs) ∧ (∀ c ∈ xs, ¬ c < 0 ∧ ¬ (255 : Int32) < c) ∧ (own_CS Z h) ∧ (own_FM Z h) ∧ (Arv Z h a2 ke .char (55 : Int32) (es.map Value.int) (.int 0)) ∧ (es.length = 55) ∧ (n ≤ 55) ∧ (xs.length = 2 * n) ∧ (off = 0 ∨ off = n) ∧ (∀ i, i < n → xs.getD (off + i) 0 = es.getD i 0)
theorem own_M.S {Z : State} {h : Heap} {a1 a2 : Addr} {n off : Nat} {xs es : List Int32} {ke : ClassId} (M : own_M Z h a1 a2 n off xs es ke) : own_Str Z h a1 xs := M.1
theorem own_M.hb {Z : State} {h : Heap} {a1 a2 : Addr} {n off : Nat} {xs es : List Int32} {ke : ClassId} (M : own_M Z h a1 a2 n off xs es ke) : ∀ c ∈ xs, ¬ c < 0 ∧ ¬ (255 : Int32) < c := M.2.1
theorem own_M.cs {Z : State} {h : Heap} {a1 a2 : Addr} {n off : Nat} {xs es : List Int32} {ke : ClassId} (M : own_M Z h a1 a2 n off xs es ke) : own_CS Z h := M.2.2.1
theorem own_M.fm {Z : State} {h : Heap} {a1 a2 : Addr} {n off : Nat} {xs es : List Int32} {ke : ClassId} (M : own_M Z h a1 a2 n off xs es ke) : own_FM Z h := M.2.2.2.1
theorem own_M.V {Z : State} {h : Heap} {a1 a2 : Addr} {n off : Nat} {xs es : List Int32} {ke : ClassId} (M : own_M Z h a1 a2 n off xs es ke) : Arv Z h a2 ke .char (55 : Int32) (es.map Value.int) (.int 0) := M.2.2.2.2.1
theorem own_M.he {Z : State} {h : Heap} {a1 a2 : Addr} {n off : Nat} {xs es : List Int32} {ke : ClassId} (M : own_M Z h a1 a2 n off xs es ke) : es.length = 55 := M.2.2.2.2.2.1
theorem own_M.hn {Z : State} {h : Heap} {a1 a2 : Addr} {n off : Nat} {xs es : List Int32} {ke : ClassId} (M : own_M Z h a1 a2 n off xs es ke) : n ≤ 55 := M.2.2.2.2.2.2.1
theorem own_M.hl {Z : State} {h : Heap} {a1 a2 : Addr} {n off : Nat} {xs es : List Int32} {ke : ClassId} (M : own_M Z h a1 a2 n off xs es ke) : xs.length = 2 * n := M.2.2.2.2.2.2.2.1
theorem own_M.ho {Z : State} {h : Heap} {a1 a2 : Addr} {n off : Nat} {xs es : List Int32} {ke : ClassId} (M : own_M Z h a1 a2 n off xs es ke) : off = 0 ∨ off = n := M.2.2.2.2.2.2.2.2.1
theorem own_M.hm {Z : State} {h : Heap} {a1 a2 : Addr} {n off : Nat} {xs es : List Int32} {ke : ClassId} (M : own_M Z h a1 a2 n off xs es ke) : ∀ i, i < n → xs.getD (off + i) 0 = es.getD i 0 := M.2.2.2.2.2.2.2.2.2
def l49 : List (Nat × Instr × Nat) := [(0, .iload 4, 2), (2, .iload_n 2, 1), (3, .if_icmp .ge 18, 3), (6, .aload_n 0, 1), (7, .iload_n 3, 1), (8, .iload 4, 2), (10, .iadd, 1), (11, .invokevirtual 83, 3), (14, .aload_n 1, 1), (15, .iload 4, 2), (17, .caload, 1), (18, .if_icmp .ne 7, 3), (21, .iconst 1, 1), (22, .goto 4, 3), (26, .ireturn, 1)]
theorem D49 {c : Code} (h : c.code = method_5_code) : zQ c l49 := zD h (by decide +kernel)
theorem pd_49_40 : parseMethodDescriptor "(I)C" = some ⟨[.int], some .char⟩ := by decide +kernel
theorem ef_49 (m : MethodId) (x0 : Addr) (x1 : Addr) (x2 : Int32) (x3 : Int32) (x4 : Int32) : entryFrame m #[.ref x0, .ref x1, .int x2, .int x3, .int x4] 5 = mkF m 0 #[.val (.ref x0), .val (.ref x1), .val (.int x2), .val (.int x3), .val (.int x4)] [] := by first | (simp [entryFrame, mkF, argsToLocals, Value.category]; done) | rfl
theorem r49b (l : Launch) (Z : State) (a0 : Array Value) (hw : zH Z a0) (ws : List Jvm.Cond) (a1 a2 : Addr) (p3 p4 p5 : Int32) (n_ off : Nat) (xs es : List Int32) (ke : ClassId) (i_ : Nat) (h0 : Heap) (n0 : Nat) (Z0 : n0 ≤ h0.size) (e3 : p3 = Int32.ofNat n_) (e4 : p4 = Int32.ofNat off) (M : own_M Z h0 a1 a2 n_ off xs es ke) (e5 : p5 = Int32.ofNat i_) (hi : i_ < n_) :
    zM l Z h0 ws y_6 method_5_code 5 (some .boolean) (zr 4 0 0 53) #[.ref a1, .ref a2, .int p3, .int p4, .int p5] (QR (some (.int 1)) h0 n0) := by
  refine MetFree.of_bodySF (plainFor_of_name pn_44) hisR ?_
  intro p e s m args below meth c s₁ Bd hml0 hP hK
  obtain ⟨rfl, hZ, hh⟩ := hP
  have hx := Bd.exec
  have E_a1 := M.S.1
  obtain ⟨-, FC, ta, ka, FV, VA⟩ := id M.S
  obtain ⟨zc, SC, hz⟩ := id M.cs
  obtain ⟨fm, SF, rf⟩ := id M.fm
  have hno := M.hn
  have hlx := M.hl
  have hof := M.ho
  obtain ⟨cl_a2, Ar_a2, qa, Sa, Na, Ha, Ga⟩ := id M.V
  have x5 : p5.toNatClampNeg = i_ := by rw [e5]; exact own_cl _ (by omega)
  have x55 : (55 : Int32).toNatClampNeg = 55 := by decide
  have hin17 : ¬ (p5 < 0 ∨ cl_a2.slots.size ≤ (p5).toNatClampNeg) := by
    rw [x5, Sa, x55]; intro q_
    rcases q_ with q_ | q_
    · rw [e5] at q_; exact own_nn _ (by omega) q_
    · omega
  have hat17 : cl_a2.slots[(p5).toNatClampNeg]? = some (.int (es.getD i_ 0)) := by
    rw [x5, Ha i_ (by rw [Sa, x55]; omega)]
    have := M.he
    simp [List.getD_eq_getElem?_getD, List.getElem?_eq_getElem (show i_ < es.length by omega)]
  have hc3 : p5 < p3 := by rw [e5, e3]; exact (own_lt _ _ (by omega) (by omega)).mpr hi
  have hws : ∀ d ∈ StrChars.Road.wordsChN, d.before a0 Z = true := fun d hd => hw d ((by decide +kernel : ∀ d ∈ StrChars.Road.wordsChN, d ∈ tables_1) d hd)
  have hby := Bd.bytes
  have hml : c.maxLocals = 5 := hml0
  have hown : s.vm.findClass "com/example/dealt/dealt/metrics/ExpositionCounterPinLaw" = some m.cls := findClass_of_methodNamed Bd.named
  have X0 : Stand p l e (zr 4 0 0 53) s m #[.ref a1, .ref a2, .int p3, .int p4, .int p5] below meth c s₁ [] 0 0 := Stand.of_body Bd
  have e0 : s₁.heap = h0 := by rw [← hh, Bd.state]; rfl
  have N0 := Fr.nil n0
  have pre0 := zP p e below s₁ (ef_49 m a1 a2 p3 p4 p5)
  obtain ⟨cq6, kq6, q6a, q6b, q6c⟩ := isOf hZ e0 E_a1
  obtain ⟨_, _, ⟨T6, L6, k6, n6⟩, -, X6, ⟨Lc6, hQ6, l6, y6, z6⟩, st6⟩ := X0.virtualBack hx (y := (⟨"java/lang/String", "charAt", "(I)C"⟩ : MethodName)) hown (zT hZ hw 263 rfl) (zT hZ hw 264 rfl) (notFace_of_selects (args := #[]) (zT hZ hw 266 rfl)) (zT hZ hw 266 rfl) (zT hZ hw 265 rfl) (by decide) (StrChars.Road.chN (W := 0) hZ hws (kI := 4) (zW hw 1 rfl) (cs := xs) (i := off + i_) E_a1 FV FC VA (StrChars.Road.codOf rfl (fun c hc => (M.hb c hc).2)) (fun c hc => ⟨(M.hb c hc).1, fun q => (M.hb c hc).2 (Int32.lt_trans (by decide) q)⟩) SC hz SF rf (by omega) (by omega) (by rw [e4, e5, ← Int32.ofNat_add]) (by decide) (by decide)) q6a q6c (g := (mkF m 11 #[.val (.ref a1), .val (.ref a2), .val (.int p3), .val (.int p4), .val (.int p5)] [(.int (p4 + p5)), .ref a1])) rfl (by rw [hml]; rfl) (Steps.refl _) (argsL := [(.int (p4 + p5))]) (rest := []) (lenOf pd_49_40 rfl) rfl (Nat.le_of_eq rfl) (D49 hby 7 rfl) (fun _ _ => ⟨rfl, e0, (by decide : 0 + 0 ≤ _), (by decide : 0 + 0 ≤ _)⟩)
  dsimp only [Pt.U, Pt.locs, Pt.cells, Pt.slots] at X6 l6 y6 z6 st6 hQ6
  subst l6 y6 z6
  obtain ⟨rfl, rfl, e6⟩ := hQ6
  have N6 : Fr n0 [] := N0
  obtain ⟨fs, hr, hrun, hended, hW, hsame⟩ := X6.leave (v := some (.int 1)) (fun h => by rw [Bd.returns] at h; cases h)
  refine ⟨_, _, pre0 _ ?_, hrun, hended, _, _, rfl, ?_, ⟨_, rfl⟩, hW, hsame.mono (by decide) (by decide)⟩
  · refine XS.iload X0.here hx rfl (D49 hby 0 rfl) rfl ?_
    refine XS.iloadN X0.here hx rfl (D49 hby 1 rfl) rfl ?_
    refine XS.icmpNo X0.here hx rfl (D49 hby 2 rfl) rfl (tlt hc3).2.1 ?_
    refine XS.aloadN X0.here hx rfl (D49 hby 3 rfl) rfl rfl ?_
    refine XS.iloadN X0.here hx rfl (D49 hby 4 rfl) rfl ?_
    refine XS.iload X0.here hx rfl (D49 hby 5 rfl) rfl ?_
    refine XS.iadd X0.here hx rfl (D49 hby 6 rfl) rfl ?_
    refine st6.trans ?_
    refine XS.aloadN X6.here hx rfl (D49 hby 8 rfl) rfl rfl ?_
    refine XS.iload X6.here hx rfl (D49 hby 9 rfl) rfl ?_
    refine X6.caload hx (j := p5) (v := (.int (es.getD i_ 0))) (by rw [e6]; exact Ar_a2.1) (State.isArrayOf_alike hZ.alike Ar_a2.2.1) Ar_a2.2.2 hin17 hat17 (g := (mkF m 17 #[.val (.ref a1), .val (.ref a2), .val (.int p3), .val (.int p4), .val (.int p5)] [.int p5, .ref a2, (.int (xs.getD (off + i_) 0))])) rfl rfl (D49 hby 10 rfl) _ ?_
    refine XS.icmpNo X6.here hx rfl (D49 hby 11 rfl) rfl (teq (M.hm i_ hi : (xs.getD (off + i_) 0) = (es.getD i_ 0))).2 ?_
    refine XS.iconst X6.here hx rfl (D49 hby 12 rfl) ?_
    refine XS.goto X6.here hx rfl (pc0 := 22) (pc' := 26) rfl (D49 hby 13 rfl) (by decide) (by decide) ?_
    exact retN X6 hx (t := .boolean) Bd.returns (by simp) (D49 hby 14 rfl) hr
  · show QR (some (.int 1)) h0 n0 _ T6.heap _
    rw [e6]
    exact ⟨rfl, N6, rfl⟩
theorem r49a (l : Launch) (Z : State) (a0 : Array Value) (hw : zH Z a0) (ws : List Jvm.Cond) (a1 : Addr) (a2 : Addr) (p3 : Int32) (p4 : Int32) (p5 : Int32) (h0 : Heap) (n0 : Nat) (Z0 : n0 ≤ h0.size) (hc3 : ¬ (p5 < p3)) :
    zM l Z h0 ws y_6 method_5_code 5 (some .boolean) (zr 4 0 0 53) #[.ref a1, .ref a2, .int p3, .int p4, .int p5] (QR (some (.int 1)) h0 n0) := by
  refine MetFree.of_bodySF (plainFor_of_name pn_44) hisR ?_
  intro p e s m args below meth c s₁ Bd hml0 hP hK
  obtain ⟨rfl, hZ, hh⟩ := hP
  have hx := Bd.exec
  have hby := Bd.bytes
  have hml : c.maxLocals = 5 := hml0
  have hown : s.vm.findClass "com/example/dealt/dealt/metrics/ExpositionCounterPinLaw" = some m.cls := findClass_of_methodNamed Bd.named
  have X0 : Stand p l e (zr 4 0 0 53) s m #[.ref a1, .ref a2, .int p3, .int p4, .int p5] below meth c s₁ [] 0 0 := Stand.of_body Bd
  have e0 : s₁.heap = h0 := by rw [← hh, Bd.state]; rfl
  have N0 := Fr.nil n0
  have pre0 := zP p e below s₁ (ef_49 m a1 a2 p3 p4 p5)
  obtain ⟨fs, hr, hrun, hended, hW, hsame⟩ := X0.leave (v := some (.int 1)) (fun h => by rw [Bd.returns] at h; cases h)
  refine ⟨_, _, pre0 _ ?_, hrun, hended, _, _, rfl, ?_, ⟨_, rfl⟩, hW, hsame.mono (by decide) (by decide)⟩
  · refine XS.iload X0.here hx rfl (D49 hby 0 rfl) rfl ?_
    refine XS.iloadN X0.here hx rfl (D49 hby 1 rfl) rfl ?_
    refine XS.icmpYes X0.here hx rfl (pc0 := 3) (pc' := 21) rfl (D49 hby 2 rfl) rfl (flt hc3).2.1 (by decide) (by decide) ?_
    refine XS.iconst X0.here hx rfl (D49 hby 12 rfl) ?_
    refine XS.goto X0.here hx rfl (pc0 := 22) (pc' := 26) rfl (D49 hby 13 rfl) (by decide) (by decide) ?_
    exact retN X0 hx (t := .boolean) Bd.returns (by simp) (D49 hby 14 rfl) hr
  · show QR (some (.int 1)) h0 n0 _ s₁.heap _
    rw [e0]
    exact ⟨rfl, N0, rfl⟩
theorem r49 (l : Launch) (Z : State) (a0 : Array Value) (hw : zH Z a0) (ws : List Jvm.Cond) (a1 a2 : Addr) (p3 p4 p5 : Int32) (n_ off : Nat) (xs es : List Int32) (ke : ClassId) (i_ : Nat) (h0 : Heap) (n0 : Nat) (Z0 : n0 ≤ h0.size) (e3 : p3 = Int32.ofNat n_) (e4 : p4 = Int32.ofNat off) (M : own_M Z h0 a1 a2 n_ off xs es ke) (e5 : p5 = Int32.ofNat i_) (hi6 : i_ < 60) :
    zM l Z h0 ws y_6 method_5_code 5 (some .boolean) (zr 4 0 0 53) #[.ref a1, .ref a2, .int p3, .int p4, .int p5] (QR (some (.int 1)) h0 n0) := by
  have hno := M.hn
  by_cases h : i_ < n_
  · exact r49b l Z a0 hw ws a1 a2 p3 p4 p5 n_ off xs es ke i_ h0 n0 Z0 e3 e4 M e5 h
  · exact r49a l Z a0 hw ws a1 a2 p3 p4 p5 h0 n0 Z0 (fun q => by rw [e5, e3] at q; have := (own_lt _ _ (by omega) (by omega)).mp q; omega)
def l48 : List (Nat × Instr × Nat) := [(0, .aload_n 0, 1), (1, .aload_n 1, 1), (2, .iload_n 2, 1), (3, .iload_n 3, 1), (4, .iload 4, 2), (6, .invokestatic 87, 3), (9, .ifCond .eq 63, 3), (12, .aload_n 0, 1), (13, .aload_n 1, 1), (14, .iload_n 2, 1), (15, .iload_n 3, 1), (16, .iload 4, 2), (18, .iconst 1, 1), (19, .iadd, 1), (20, .invokestatic 87, 3), (23, .ifCond .eq 49, 3), (26, .aload_n 0, 1), (27, .aload_n 1, 1), (28, .iload_n 2, 1), (29, .iload_n 3, 1), (30, .iload 4, 2), (32, .iconst 2, 1), (33, .iadd, 1), (34, .invokestatic 87, 3), (37, .ifCond .eq 35, 3), (40, .aload_n 0, 1), (41, .aload_n 1, 1), (42, .iload_n 2, 1), (43, .iload_n 3, 1), (44, .iload 4, 2), (46, .iconst 3, 1), (47, .iadd, 1), (48, .invokestatic 87, 3), (51, .ifCond .eq 21, 3), (54, .aload_n 0, 1), (55, .aload_n 1, 1), (56, .iload_n 2, 1), (57, .iload_n 3, 1), (58, .iload 4, 2), (60, .iconst 4, 1), (61, .iadd, 1), (62, .invokestatic 87, 3), (65, .ifCond .eq 7, 3), (68, .iconst 1, 1), (69, .goto 4, 3), (73, .ireturn, 1)]
theorem D48 {c : Code} (h : c.code = method_6_code) : zQ c l48 := zD h (by decide +kernel)
theorem pd_48_39 : parseMethodDescriptor "(Ljava/lang/String;[CIII)Z" = some ⟨[(.object "java/lang/String"), (.array .char), .int, .int, .int], some .boolean⟩ := by decide +kernel
theorem r48 (l : Launch) (Z : State) (a0 : Array Value) (hw : zH Z a0) (ws : List Jvm.Cond) (a1 : Addr) (a2 : Addr) (p3 : Int32) (p4 : Int32) (p5 : Int32) (n_ off : Nat) (xs es : List Int32) (ke : ClassId) (i_ : Nat) (h0 : Heap) (n0 : Nat) (Z0 : n0 ≤ h0.size) (e3 : p3 = Int32.ofNat n_) (e4 : p4 = Int32.ofNat off) (M : own_M Z h0 a1 a2 n_ off xs es ke) (e5 : p5 = Int32.ofNat i_) (hi5 : i_ < 55) :
    zM l Z h0 ws y_5 method_6_code 5 (some .boolean) (zr 5 0 0 69) #[.ref a1, .ref a2, .int p3, .int p4, .int p5] (QR (some (.int 1)) h0 n0) := by
  refine MetFree.of_bodySF (plainFor_of_name pn_44) hisR ?_
  intro p e s m args below meth c s₁ Bd hml0 hP hK
  obtain ⟨rfl, hZ, hh⟩ := hP
  have hx := Bd.exec
  have hby := Bd.bytes
  have hml : c.maxLocals = 5 := hml0
  have hown : s.vm.findClass "com/example/dealt/dealt/metrics/ExpositionCounterPinLaw" = some m.cls := findClass_of_methodNamed Bd.named
  have X0 : Stand p l e (zr 5 0 0 69) s m #[.ref a1, .ref a2, .int p3, .int p4, .int p5] below meth c s₁ [] 0 0 := Stand.of_body Bd
  have e0 : s₁.heap = h0 := by rw [← hh, Bd.state]; rfl
  have N0 := Fr.nil n0
  have pre0 := zP p e below s₁ (ef_49 m a1 a2 p3 p4 p5)
  obtain ⟨_, _, ⟨T6, L6, k6, n6⟩, -, X6, ⟨Lc6, hQ6, l6, y6, z6⟩, st6⟩ := Jvm.LawKit.callS X0 hx (y := y_6) hown (zT hZ hw 260 rfl) (zT hZ hw 261 rfl) (zT hZ hw 245 rfl) (zT hZ hw 262 rfl) (by decide) (backOf (W := 0) (r49 l Z a0 hw [] a1 a2 p3 p4 p5 n_ off xs es ke (i_ + 0) h0 n0 Z0 e3 e4 M (by rw [e5]; rfl) (by omega)) hZ (zW hw 262 rfl) (zW hw 245 rfl) (by decide) (by decide)) (g := (mkF m 6 #[.val (.ref a1), .val (.ref a2), .val (.int p3), .val (.int p4), .val (.int p5)] [.int p5, .int p4, .int p3, .ref a2, .ref a1])) rfl (by rw [hml]; rfl) (argsL := [.ref a1, .ref a2, .int p3, .int p4, .int p5]) (rest := []) (lenOf pd_48_39 rfl) rfl (Nat.le_of_eq rfl) (D48 hby 5 rfl) (fun _ _ => ⟨rfl, e0, (by decide : 0 + 0 ≤ _), (by decide : 0 + 0 ≤ _)⟩)
  dsimp only [Pt.U, Pt.locs, Pt.cells, Pt.slots] at X6 l6 y6 z6 st6 hQ6
  subst l6 y6 z6
  obtain ⟨rfl, N6q, e6⟩ := hQ6
  have N6 := Fr.app N0 N6q
  obtain ⟨_, _, ⟨T7, L7, k7, n7⟩, -, X7, ⟨Lc7, hQ7, l7, y7, z7⟩, st7⟩ := Jvm.LawKit.callS X6 hx (y := y_6) hown (zT hZ hw 260 rfl) (zT hZ hw 261 rfl) (zT hZ hw 245 rfl) (zT hZ hw 262 rfl) (by decide) (backOf (W := 0) (r49 l Z a0 hw [] a1 a2 p3 p4 (p5 + (1 : Int32)) n_ off xs es ke (i_ + 1) h0 n0 Z0 e3 e4 M (by rw [e5]; exact (Int32.ofNat_add i_ 1).symm) (by omega)) hZ (zW hw 262 rfl) (zW hw 245 rfl) (by decide) (by decide)) (g := (mkF m 20 #[.val (.ref a1), .val (.ref a2), .val (.int p3), .val (.int p4), .val (.int p5)] [(.int (p5 + (1 : Int32))), .int p4, .int p3, .ref a2, .ref a1])) rfl (by rw [hml]; rfl) (argsL := [.ref a1, .ref a2, .int p3, .int p4, (.int (p5 + (1 : Int32)))]) (rest := []) (lenOf pd_48_39 rfl) rfl (Nat.le_of_eq rfl) (D48 hby 14 rfl) (fun _ _ => ⟨rfl, e6, (by decide : 0 + 0 ≤ _), (by decide : 0 + 0 ≤ _)⟩)
  dsimp only [Pt.U, Pt.locs, Pt.cells, Pt.slots] at X7 l7 y7 z7 st7 hQ7
  subst l7 y7 z7
  obtain ⟨rfl, N7q, e7⟩ := hQ7
  have N7 := Fr.app N6 N7q
  obtain ⟨_, _, ⟨T8, L8, k8, n8⟩, -, X8, ⟨Lc8, hQ8, l8, y8, z8⟩, st8⟩ := Jvm.LawKit.callS X7 hx (y := y_6) hown (zT hZ hw 260 rfl) (zT hZ hw 261 rfl) (zT hZ hw 245 rfl) (zT hZ hw 262 rfl) (by decide) (backOf (W := 0) (r49 l Z a0 hw [] a1 a2 p3 p4 (p5 + (2 : Int32)) n_ off xs es ke (i_ + 2) h0 n0 Z0 e3 e4 M (by rw [e5]; exact (Int32.ofNat_add i_ 2).symm) (by omega)) hZ (zW hw 262 rfl) (zW hw 245 rfl) (by decide) (by decide)) (g := (mkF m 34 #[.val (.ref a1), .val (.ref a2), .val (.int p3), .val (.int p4), .val (.int p5)] [(.int (p5 + (2 : Int32))), .int p4, .int p3, .ref a2, .ref a1])) rfl (by rw [hml]; rfl) (argsL := [.ref a1, .ref a2, .int p3, .int p4, (.int (p5 + (2 : Int32)))]) (rest := []) (lenOf pd_48_39 rfl) rfl (Nat.le_of_eq rfl) (D48 hby 23 rfl) (fun _ _ => ⟨rfl, e7, (by decide : 0 + 0 ≤ _), (by decide : 0 + 0 ≤ _)⟩)
  dsimp only [Pt.U, Pt.locs, Pt.cells, Pt.slots] at X8 l8 y8 z8 st8 hQ8
  subst l8 y8 z8
  obtain ⟨rfl, N8q, e8⟩ := hQ8
  have N8 := Fr.app N7 N8q
  obtain ⟨_, _, ⟨T9, L9, k9, n9⟩, -, X9, ⟨Lc9, hQ9, l9, y9, z9⟩, st9⟩ := Jvm.LawKit.callS X8 hx (y := y_6) hown (zT hZ hw 260 rfl) (zT hZ hw 261 rfl) (zT hZ hw 245 rfl) (zT hZ hw 262 rfl) (by decide) (backOf (W := 0) (r49 l Z a0 hw [] a1 a2 p3 p4 (p5 + (3 : Int32)) n_ off xs es ke (i_ + 3) h0 n0 Z0 e3 e4 M (by rw [e5]; exact (Int32.ofNat_add i_ 3).symm) (by omega)) hZ (zW hw 262 rfl) (zW hw 245 rfl) (by decide) (by decide)) (g := (mkF m 48 #[.val (.ref a1), .val (.ref a2), .val (.int p3), .val (.int p4), .val (.int p5)] [(.int (p5 + (3 : Int32))), .int p4, .int p3, .ref a2, .ref a1])) rfl (by rw [hml]; rfl) (argsL := [.ref a1, .ref a2, .int p3, .int p4, (.int (p5 + (3 : Int32)))]) (rest := []) (lenOf pd_48_39 rfl) rfl (Nat.le_of_eq rfl) (D48 hby 32 rfl) (fun _ _ => ⟨rfl, e8, (by decide : 0 + 0 ≤ _), (by decide : 0 + 0 ≤ _)⟩)
  dsimp only [Pt.U, Pt.locs, Pt.cells, Pt.slots] at X9 l9 y9 z9 st9 hQ9
  subst l9 y9 z9
  obtain ⟨rfl, N9q, e9⟩ := hQ9
  have N9 := Fr.app N8 N9q
  obtain ⟨_, _, ⟨T10, L10, k10, n10⟩, -, X10, ⟨Lc10, hQ10, l10, y10, z10⟩, st10⟩ := Jvm.LawKit.callS X9 hx (y := y_6) hown (zT hZ hw 260 rfl) (zT hZ hw 261 rfl) (zT hZ hw 245 rfl) (zT hZ hw 262 rfl) (by decide) (backOf (W := 0) (r49 l Z a0 hw [] a1 a2 p3 p4 (p5 + (4 : Int32)) n_ off xs es ke (i_ + 4) h0 n0 Z0 e3 e4 M (by rw [e5]; exact (Int32.ofNat_add i_ 4).symm) (by omega)) hZ (zW hw 262 rfl) (zW hw 245 rfl) (by decide) (by decide)) (g := (mkF m 62 #[.val (.ref a1), .val (.ref a2), .val (.int p3), .val (.int p4), .val (.int p5)] [(.int (p5 + (4 : Int32))), .int p4, .int p3, .ref a2, .ref a1])) rfl (by rw [hml]; rfl) (argsL := [.ref a1, .ref a2, .int p3, .int p4, (.int (p5 + (4 : Int32)))]) (rest := []) (lenOf pd_48_39 rfl) rfl (Nat.le_of_eq rfl) (D48 hby 41 rfl) (fun _ _ => ⟨rfl, e9, (by decide : 0 + 0 ≤ _), (by decide : 0 + 0 ≤ _)⟩)
  dsimp only [Pt.U, Pt.locs, Pt.cells, Pt.slots] at X10 l10 y10 z10 st10 hQ10
  subst l10 y10 z10
  obtain ⟨rfl, N10q, e10⟩ := hQ10
  have N10 := Fr.app N9 N10q
  obtain ⟨fs, hr, hrun, hended, hW, hsame⟩ := X10.leave (v := some (.int 1)) (fun h => by rw [Bd.returns] at h; cases h)
  refine ⟨_, _, pre0 _ ?_, hrun, hended, _, _, rfl, ?_, ⟨_, rfl⟩, hW, hsame.mono (by decide) (by decide)⟩
  · refine XS.aloadN X0.here hx rfl (D48 hby 0 rfl) rfl rfl ?_
    refine XS.aloadN X0.here hx rfl (D48 hby 1 rfl) rfl rfl ?_
    refine XS.iloadN X0.here hx rfl (D48 hby 2 rfl) rfl ?_
    refine XS.iloadN X0.here hx rfl (D48 hby 3 rfl) rfl ?_
    refine XS.iload X0.here hx rfl (D48 hby 4 rfl) rfl ?_
    refine st6 _ ?_
    refine XS.ifNo X6.here hx rfl (D48 hby 6 rfl) rfl ((if0 _ _).trans (feq (by decide : ¬ ((1 : Int32) = (0 : Int32)))).1) ?_
    refine XS.aloadN X6.here hx rfl (D48 hby 7 rfl) rfl rfl ?_
    refine XS.aloadN X6.here hx rfl (D48 hby 8 rfl) rfl rfl ?_
    refine XS.iloadN X6.here hx rfl (D48 hby 9 rfl) rfl ?_
    refine XS.iloadN X6.here hx rfl (D48 hby 10 rfl) rfl ?_
    refine XS.iload X6.here hx rfl (D48 hby 11 rfl) rfl ?_
    refine XS.iconst X6.here hx rfl (D48 hby 12 rfl) ?_
    refine XS.iadd X6.here hx rfl (D48 hby 13 rfl) rfl ?_
    refine st7 _ ?_
    refine XS.ifNo X7.here hx rfl (D48 hby 15 rfl) rfl ((if0 _ _).trans (feq (by decide : ¬ ((1 : Int32) = (0 : Int32)))).1) ?_
    refine XS.aloadN X7.here hx rfl (D48 hby 16 rfl) rfl rfl ?_
    refine XS.aloadN X7.here hx rfl (D48 hby 17 rfl) rfl rfl ?_
    refine XS.iloadN X7.here hx rfl (D48 hby 18 rfl) rfl ?_
    refine XS.iloadN X7.here hx rfl (D48 hby 19 rfl) rfl ?_
    refine XS.iload X7.here hx rfl (D48 hby 20 rfl) rfl ?_
    refine XS.iconst X7.here hx rfl (D48 hby 21 rfl) ?_
    refine XS.iadd X7.here hx rfl (D48 hby 22 rfl) rfl ?_
    refine st8 _ ?_
    refine XS.ifNo X8.here hx rfl (D48 hby 24 rfl) rfl ((if0 _ _).trans (feq (by decide : ¬ ((1 : Int32) = (0 : Int32)))).1) ?_
    refine XS.aloadN X8.here hx rfl (D48 hby 25 rfl) rfl rfl ?_
    refine XS.aloadN X8.here hx rfl (D48 hby 26 rfl) rfl rfl ?_
    refine XS.iloadN X8.here hx rfl (D48 hby 27 rfl) rfl ?_
    refine XS.iloadN X8.here hx rfl (D48 hby 28 rfl) rfl ?_
    refine XS.iload X8.here hx rfl (D48 hby 29 rfl) rfl ?_
    refine XS.iconst X8.here hx rfl (D48 hby 30 rfl) ?_
    refine XS.iadd X8.here hx rfl (D48 hby 31 rfl) rfl ?_
    refine st9 _ ?_
    refine XS.ifNo X9.here hx rfl (D48 hby 33 rfl) rfl ((if0 _ _).trans (feq (by decide : ¬ ((1 : Int32) = (0 : Int32)))).1) ?_
    refine XS.aloadN X9.here hx rfl (D48 hby 34 rfl) rfl rfl ?_
    refine XS.aloadN X9.here hx rfl (D48 hby 35 rfl) rfl rfl ?_
    refine XS.iloadN X9.here hx rfl (D48 hby 36 rfl) rfl ?_
    refine XS.iloadN X9.here hx rfl (D48 hby 37 rfl) rfl ?_
    refine XS.iload X9.here hx rfl (D48 hby 38 rfl) rfl ?_
    refine XS.iconst X9.here hx rfl (D48 hby 39 rfl) ?_
    refine XS.iadd X9.here hx rfl (D48 hby 40 rfl) rfl ?_
    refine st10 _ ?_
    refine XS.ifNo X10.here hx rfl (D48 hby 42 rfl) rfl ((if0 _ _).trans (feq (by decide : ¬ ((1 : Int32) = (0 : Int32)))).1) ?_
    refine XS.iconst X10.here hx rfl (D48 hby 43 rfl) ?_
    refine XS.goto X10.here hx rfl (pc0 := 69) (pc' := 73) rfl (D48 hby 44 rfl) (by decide) (by decide) ?_
    exact retN X10 hx (t := .boolean) Bd.returns (by simp) (D48 hby 45 rfl) hr
  · show QR (some (.int 1)) h0 n0 _ T10.heap _
    rw [e10]
    exact ⟨rfl, N10, rfl⟩
def l47 : List (Nat × Instr × Nat) := [(0, .aload_n 0, 1), (1, .aload_n 1, 1), (2, .iload_n 2, 1), (3, .iload_n 3, 1), (4, .iconst 0, 1), (5, .invokestatic 91, 3), (8, .ifCond .eq 126, 3), (11, .aload_n 0, 1), (12, .aload_n 1, 1), (13, .iload_n 2, 1), (14, .iload_n 3, 1), (15, .iconst 5, 1), (16, .invokestatic 91, 3), (19, .ifCond .eq 115, 3), (22, .aload_n 0, 1), (23, .aload_n 1, 1), (24, .iload_n 2, 1), (25, .iload_n 3, 1), (26, .bipush 10, 2), (28, .invokestatic 91, 3), (31, .ifCond .eq 103, 3), (34, .aload_n 0, 1), (35, .aload_n 1, 1), (36, .iload_n 2, 1), (37, .iload_n 3, 1), (38, .bipush 15, 2), (40, .invokestatic 91, 3), (43, .ifCond .eq 91, 3), (46, .aload_n 0, 1), (47, .aload_n 1, 1), (48, .iload_n 2, 1), (49, .iload_n 3, 1), (50, .bipush 20, 2), (52, .invokestatic 91, 3), (55, .ifCond .eq 79, 3), (58, .aload_n 0, 1), (59, .aload_n 1, 1), (60, .iload_n 2, 1), (61, .iload_n 3, 1), (62, .bipush 25, 2), (64, .invokestatic 91, 3), (67, .ifCond .eq 67, 3), (70, .aload_n 0, 1), (71, .aload_n 1, 1), (72, .iload_n 2, 1), (73, .iload_n 3, 1), (74, .bipush 30, 2), (76, .invokestatic 91, 3), (79, .ifCond .eq 55, 3), (82, .aload_n 0, 1), (83, .aload_n 1, 1), (84, .iload_n 2, 1), (85, .iload_n 3, 1), (86, .bipush 35, 2), (88, .invokestatic 91, 3), (91, .ifCond .eq 43, 3), (94, .aload_n 0, 1), (95, .aload_n 1, 1), (96, .iload_n 2, 1), (97, .iload_n 3, 1), (98, .bipush 40, 2), (100, .invokestatic 91, 3), (103, .ifCond .eq 31, 3), (106, .aload_n 0, 1), (107, .aload_n 1, 1), (108, .iload_n 2, 1), (109, .iload_n 3, 1), (110, .bipush 45, 2), (112, .invokestatic 91, 3), (115, .ifCond .eq 19, 3), (118, .aload_n 0, 1), (119, .aload_n 1, 1), (120, .iload_n 2, 1), (121, .iload_n 3, 1), (122, .bipush 50, 2), (124, .invokestatic 91, 3), (127, .ifCond .eq 7, 3), (130, .iconst 1, 1), (131, .goto 4, 3), (135, .ireturn, 1)]
theorem D47 {c : Code} (h : c.code = method_7_code) : zQ c l47 := zD h (by decide +kernel)
theorem r47 (l : Launch) (Z : State) (a0 : Array Value) (hw : zH Z a0) (ws : List Jvm.Cond) (a1 : Addr) (a2 : Addr) (p3 : Int32) (p4 : Int32) (n_ off : Nat) (xs es : List Int32) (ke : ClassId) (h0 : Heap) (n0 : Nat) (Z0 : n0 ≤ h0.size) (e3 : p3 = Int32.ofNat n_) (e4 : p4 = Int32.ofNat off) (M : own_M Z h0 a1 a2 n_ off xs es ke) :
    zM l Z h0 ws y_28 method_7_code 4 (some .boolean) (zr 6 0 0 85) #[.ref a1, .ref a2, .int p3, .int p4] (QR (some (.int 1)) h0 n0) := by
  refine MetFree.of_bodySF (plainFor_of_name pn_44) hisR ?_
  intro p e s m args below meth c s₁ Bd hml0 hP hK
  obtain ⟨rfl, hZ, hh⟩ := hP
  have hx := Bd.exec
  have hby := Bd.bytes
  have hml : c.maxLocals = 4 := hml0
  have hown : s.vm.findClass "com/example/dealt/dealt/metrics/ExpositionCounterPinLaw" = some m.cls := findClass_of_methodNamed Bd.named
  have X0 : Stand p l e (zr 6 0 0 85) s m #[.ref a1, .ref a2, .int p3, .int p4] below meth c s₁ [] 0 0 := Stand.of_body Bd
  have e0 : s₁.heap = h0 := by rw [← hh, Bd.state]; rfl
  have N0 := Fr.nil n0
  have pre0 := zP p e below s₁ (ef_19 m a1 a2 p3 p4)
  obtain ⟨_, _, ⟨T5, L5, k5, n5⟩, -, X5, ⟨Lc5, hQ5, l5, y5, z5⟩, st5⟩ := Jvm.LawKit.callS X0 hx (y := y_5) hown (zT hZ hw 257 rfl) (zT hZ hw 258 rfl) (zT hZ hw 245 rfl) (zT hZ hw 259 rfl) (by decide) (backOf (W := 0) (r48 l Z a0 hw [] a1 a2 p3 p4 (0 : Int32) n_ off xs es ke 0 h0 n0 Z0 e3 e4 M rfl (by decide)) hZ (zW hw 259 rfl) (zW hw 245 rfl) (by decide) (by decide)) (g := (mkF m 5 #[.val (.ref a1), .val (.ref a2), .val (.int p3), .val (.int p4)] [.int 0, .int p4, .int p3, .ref a2, .ref a1])) rfl (by rw [hml]; rfl) (argsL := [.ref a1, .ref a2, .int p3, .int p4, .int 0]) (rest := []) (lenOf pd_48_39 rfl) rfl (Nat.le_of_eq rfl) (D47 hby 5 rfl) (fun _ _ => ⟨rfl, e0, (by decide : 0 + 0 ≤ _), (by decide : 0 + 0 ≤ _)⟩)
  dsimp only [Pt.U, Pt.locs, Pt.cells, Pt.slots] at X5 l5 y5 z5 st5 hQ5
  subst l5 y5 z5
  obtain ⟨rfl, N5q, e5⟩ := hQ5
  have N5 := Fr.app N0 N5q
  obtain ⟨_, _, ⟨T6, L6, k6, n6⟩, -, X6, ⟨Lc6, hQ6, l6, y6, z6⟩, st6⟩ := Jvm.LawKit.callS X5 hx (y := y_5) hown (zT hZ hw 257 rfl) (zT hZ hw 258 rfl) (zT hZ hw 245 rfl) (zT hZ hw 259 rfl) (by decide) (backOf (W := 0) (r48 l Z a0 hw [] a1 a2 p3 p4 (5 : Int32) n_ off xs es ke 5 h0 n0 Z0 e3 e4 M rfl (by decide)) hZ (zW hw 259 rfl) (zW hw 245 rfl) (by decide) (by decide)) (g := (mkF m 16 #[.val (.ref a1), .val (.ref a2), .val (.int p3), .val (.int p4)] [.int 5, .int p4, .int p3, .ref a2, .ref a1])) rfl (by rw [hml]; rfl) (argsL := [.ref a1, .ref a2, .int p3, .int p4, .int 5]) (rest := []) (lenOf pd_48_39 rfl) rfl (Nat.le_of_eq rfl) (D47 hby 12 rfl) (fun _ _ => ⟨rfl, e5, (by decide : 0 + 0 ≤ _), (by decide : 0 + 0 ≤ _)⟩)
  dsimp only [Pt.U, Pt.locs, Pt.cells, Pt.slots] at X6 l6 y6 z6 st6 hQ6
  subst l6 y6 z6
  obtain ⟨rfl, N6q, e6⟩ := hQ6
  have N6 := Fr.app N5 N6q
  obtain ⟨_, _, ⟨T7, L7, k7, n7⟩, -, X7, ⟨Lc7, hQ7, l7, y7, z7⟩, st7⟩ := Jvm.LawKit.callS X6 hx (y := y_5) hown (zT hZ hw 257 rfl) (zT hZ hw 258 rfl) (zT hZ hw 245 rfl) (zT hZ hw 259 rfl) (by decide) (backOf (W := 0) (r48 l Z a0 hw [] a1 a2 p3 p4 (10 : Int32) n_ off xs es ke 10 h0 n0 Z0 e3 e4 M rfl (by decide)) hZ (zW hw 259 rfl) (zW hw 245 rfl) (by decide) (by decide)) (g := (mkF m 28 #[.val (.ref a1), .val (.ref a2), .val (.int p3), .val (.int p4)] [.int 10, .int p4, .int p3, .ref a2, .ref a1])) rfl (by rw [hml]; rfl) (argsL := [.ref a1, .ref a2, .int p3, .int p4, .int 10]) (rest := []) (lenOf pd_48_39 rfl) rfl (Nat.le_of_eq rfl) (D47 hby 19 rfl) (fun _ _ => ⟨rfl, e6, (by decide : 0 + 0 ≤ _), (by decide : 0 + 0 ≤ _)⟩)
  dsimp only [Pt.U, Pt.locs, Pt.cells, Pt.slots] at X7 l7 y7 z7 st7 hQ7
  subst l7 y7 z7
  obtain ⟨rfl, N7q, e7⟩ := hQ7
  have N7 := Fr.app N6 N7q
  obtain ⟨_, _, ⟨T8, L8, k8, n8⟩, -, X8, ⟨Lc8, hQ8, l8, y8, z8⟩, st8⟩ := Jvm.LawKit.callS X7 hx (y := y_5) hown (zT hZ hw 257 rfl) (zT hZ hw 258 rfl) (zT hZ hw 245 rfl) (zT hZ hw 259 rfl) (by decide) (backOf (W := 0) (r48 l Z a0 hw [] a1 a2 p3 p4 (15 : Int32) n_ off xs es ke 15 h0 n0 Z0 e3 e4 M rfl (by decide)) hZ (zW hw 259 rfl) (zW hw 245 rfl) (by decide) (by decide)) (g := (mkF m 40 #[.val (.ref a1), .val (.ref a2), .val (.int p3), .val (.int p4)] [.int 15, .int p4, .int p3, .ref a2, .ref a1])) rfl (by rw [hml]; rfl) (argsL := [.ref a1, .ref a2, .int p3, .int p4, .int 15]) (rest := []) (lenOf pd_48_39 rfl) rfl (Nat.le_of_eq rfl) (D47 hby 26 rfl) (fun _ _ => ⟨rfl, e7, (by decide : 0 + 0 ≤ _), (by decide : 0 + 0 ≤ _)⟩)
  dsimp only [Pt.U, Pt.locs, Pt.cells, Pt.slots] at X8 l8 y8 z8 st8 hQ8
  subst l8 y8 z8
  obtain ⟨rfl, N8q, e8⟩ := hQ8
  have N8 := Fr.app N7 N8q
  obtain ⟨_, _, ⟨T9, L9, k9, n9⟩, -, X9, ⟨Lc9, hQ9, l9, y9, z9⟩, st9⟩ := Jvm.LawKit.callS X8 hx (y := y_5) hown (zT hZ hw 257 rfl) (zT hZ hw 258 rfl) (zT hZ hw 245 rfl) (zT hZ hw 259 rfl) (by decide) (backOf (W := 0) (r48 l Z a0 hw [] a1 a2 p3 p4 (20 : Int32) n_ off xs es ke 20 h0 n0 Z0 e3 e4 M rfl (by decide)) hZ (zW hw 259 rfl) (zW hw 245 rfl) (by decide) (by decide)) (g := (mkF m 52 #[.val (.ref a1), .val (.ref a2), .val (.int p3), .val (.int p4)] [.int 20, .int p4, .int p3, .ref a2, .ref a1])) rfl (by rw [hml]; rfl) (argsL := [.ref a1, .ref a2, .int p3, .int p4, .int 20]) (rest := []) (lenOf pd_48_39 rfl) rfl (Nat.le_of_eq rfl) (D47 hby 33 rfl) (fun _ _ => ⟨rfl, e8, (by decide : 0 + 0 ≤ _), (by decide : 0 + 0 ≤ _)⟩)
  dsimp only [Pt.U, Pt.locs, Pt.cells, Pt.slots] at X9 l9 y9 z9 st9 hQ9
  subst l9 y9 z9
  obtain ⟨rfl, N9q, e9⟩ := hQ9
  have N9 := Fr.app N8 N9q
  obtain ⟨_, _, ⟨T10, L10, k10, n10⟩, -, X10, ⟨Lc10, hQ10, l10, y10, z10⟩, st10⟩ := Jvm.LawKit.callS X9 hx (y := y_5) hown (zT hZ hw 257 rfl) (zT hZ hw 258 rfl) (zT hZ hw 245 rfl) (zT hZ hw 259 rfl) (by decide) (backOf (W := 0) (r48 l Z a0 hw [] a1 a2 p3 p4 (25 : Int32) n_ off xs es ke 25 h0 n0 Z0 e3 e4 M rfl (by decide)) hZ (zW hw 259 rfl) (zW hw 245 rfl) (by decide) (by decide)) (g := (mkF m 64 #[.val (.ref a1), .val (.ref a2), .val (.int p3), .val (.int p4)] [.int 25, .int p4, .int p3, .ref a2, .ref a1])) rfl (by rw [hml]; rfl) (argsL := [.ref a1, .ref a2, .int p3, .int p4, .int 25]) (rest := []) (lenOf pd_48_39 rfl) rfl (Nat.le_of_eq rfl) (D47 hby 40 rfl) (fun _ _ => ⟨rfl, e9, (by decide : 0 + 0 ≤ _), (by decide : 0 + 0 ≤ _)⟩)
  dsimp only [Pt.U, Pt.locs, Pt.cells, Pt.slots] at X10 l10 y10 z10 st10 hQ10
  subst l10 y10 z10
  obtain ⟨rfl, N10q, e10⟩ := hQ10
  have N10 := Fr.app N9 N10q
  obtain ⟨_, _, ⟨T11, L11, k11, n11⟩, -, X11, ⟨Lc11, hQ11, l11, y11, z11⟩, st11⟩ := Jvm.LawKit.callS X10 hx (y := y_5) hown (zT hZ hw 257 rfl) (zT hZ hw 258 rfl) (zT hZ hw 245 rfl) (zT hZ hw 259 rfl) (by decide) (backOf (W := 0) (r48 l Z a0 hw [] a1 a2 p3 p4 (30 : Int32) n_ off xs es ke 30 h0 n0 Z0 e3 e4 M rfl (by decide)) hZ (zW hw 259 rfl) (zW hw 245 rfl) (by decide) (by decide)) (g := (mkF m 76 #[.val (.ref a1), .val (.ref a2), .val (.int p3), .val (.int p4)] [.int 30, .int p4, .int p3, .ref a2, .ref a1])) rfl (by rw [hml]; rfl) (argsL := [.ref a1, .ref a2, .int p3, .int p4, .int 30]) (rest := []) (lenOf pd_48_39 rfl) rfl (Nat.le_of_eq rfl) (D47 hby 47 rfl) (fun _ _ => ⟨rfl, e10, (by decide : 0 + 0 ≤ _), (by decide : 0 + 0 ≤ _)⟩)
  dsimp only [Pt.U, Pt.locs, Pt.cells, Pt.slots] at X11 l11 y11 z11 st11 hQ11
  subst l11 y11 z11
  obtain ⟨rfl, N11q, e11⟩ := hQ11
  have N11 := Fr.app N10 N11q
  obtain ⟨_, _, ⟨T12, L12, k12, n12⟩, -, X12, ⟨Lc12, hQ12, l12, y12, z12⟩, st12⟩ := Jvm.LawKit.callS X11 hx (y := y_5) hown (zT hZ hw 257 rfl) (zT hZ hw 258 rfl) (zT hZ hw 245 rfl) (zT hZ hw 259 rfl) (by decide) (backOf (W := 0) (r48 l Z a0 hw [] a1 a2 p3 p4 (35 : Int32) n_ off xs es ke 35 h0 n0 Z0 e3 e4 M rfl (by decide)) hZ (zW hw 259 rfl) (zW hw 245 rfl) (by decide) (by decide)) (g := (mkF m 88 #[.val (.ref a1), .val (.ref a2), .val (.int p3), .val (.int p4)] [.int 35, .int p4, .int p3, .ref a2, .ref a1])) rfl (by rw [hml]; rfl) (argsL := [.ref a1, .ref a2, .int p3, .int p4, .int 35]) (rest := []) (lenOf pd_48_39 rfl) rfl (Nat.le_of_eq rfl) (D47 hby 54 rfl) (fun _ _ => ⟨rfl, e11, (by decide : 0 + 0 ≤ _), (by decide : 0 + 0 ≤ _)⟩)
  dsimp only [Pt.U, Pt.locs, Pt.cells, Pt.slots] at X12 l12 y12 z12 st12 hQ12
  subst l12 y12 z12
  obtain ⟨rfl, N12q, e12⟩ := hQ12
  have N12 := Fr.app N11 N12q
  obtain ⟨_, _, ⟨T13, L13, k13, n13⟩, -, X13, ⟨Lc13, hQ13, l13, y13, z13⟩, st13⟩ := Jvm.LawKit.callS X12 hx (y := y_5) hown (zT hZ hw 257 rfl) (zT hZ hw 258 rfl) (zT hZ hw 245 rfl) (zT hZ hw 259 rfl) (by decide) (backOf (W := 0) (r48 l Z a0 hw [] a1 a2 p3 p4 (40 : Int32) n_ off xs es ke 40 h0 n0 Z0 e3 e4 M rfl (by decide)) hZ (zW hw 259 rfl) (zW hw 245 rfl) (by decide) (by decide)) (g := (mkF m 100 #[.val (.ref a1), .val (.ref a2), .val (.int p3), .val (.int p4)] [.int 40, .int p4, .int p3, .ref a2, .ref a1])) rfl (by rw [hml]; rfl) (argsL := [.ref a1, .ref a2, .int p3, .int p4, .int 40]) (rest := []) (lenOf pd_48_39 rfl) rfl (Nat.le_of_eq rfl) (D47 hby 61 rfl) (fun _ _ => ⟨rfl, e12, (by decide : 0 + 0 ≤ _), (by decide : 0 + 0 ≤ _)⟩)
  dsimp only [Pt.U, Pt.locs, Pt.cells, Pt.slots] at X13 l13 y13 z13 st13 hQ13
  subst l13 y13 z13
  obtain ⟨rfl, N13q, e13⟩ := hQ13
  have N13 := Fr.app N12 N13q
  obtain ⟨_, _, ⟨T14, L14, k14, n14⟩, -, X14, ⟨Lc14, hQ14, l14, y14, z14⟩, st14⟩ := Jvm.LawKit.callS X13 hx (y := y_5) hown (zT hZ hw 257 rfl) (zT hZ hw 258 rfl) (zT hZ hw 245 rfl) (zT hZ hw 259 rfl) (by decide) (backOf (W := 0) (r48 l Z a0 hw [] a1 a2 p3 p4 (45 : Int32) n_ off xs es ke 45 h0 n0 Z0 e3 e4 M rfl (by decide)) hZ (zW hw 259 rfl) (zW hw 245 rfl) (by decide) (by decide)) (g := (mkF m 112 #[.val (.ref a1), .val (.ref a2), .val (.int p3), .val (.int p4)] [.int 45, .int p4, .int p3, .ref a2, .ref a1])) rfl (by rw [hml]; rfl) (argsL := [.ref a1, .ref a2, .int p3, .int p4, .int 45]) (rest := []) (lenOf pd_48_39 rfl) rfl (Nat.le_of_eq rfl) (D47 hby 68 rfl) (fun _ _ => ⟨rfl, e13, (by decide : 0 + 0 ≤ _), (by decide : 0 + 0 ≤ _)⟩)
  dsimp only [Pt.U, Pt.locs, Pt.cells, Pt.slots] at X14 l14 y14 z14 st14 hQ14
  subst l14 y14 z14
  obtain ⟨rfl, N14q, e14⟩ := hQ14
  have N14 := Fr.app N13 N14q
  obtain ⟨_, _, ⟨T15, L15, k15, n15⟩, -, X15, ⟨Lc15, hQ15, l15, y15, z15⟩, st15⟩ := Jvm.LawKit.callS X14 hx (y := y_5) hown (zT hZ hw 257 rfl) (zT hZ hw 258 rfl) (zT hZ hw 245 rfl) (zT hZ hw 259 rfl) (by decide) (backOf (W := 0) (r48 l Z a0 hw [] a1 a2 p3 p4 (50 : Int32) n_ off xs es ke 50 h0 n0 Z0 e3 e4 M rfl (by decide)) hZ (zW hw 259 rfl) (zW hw 245 rfl) (by decide) (by decide)) (g := (mkF m 124 #[.val (.ref a1), .val (.ref a2), .val (.int p3), .val (.int p4)] [.int 50, .int p4, .int p3, .ref a2, .ref a1])) rfl (by rw [hml]; rfl) (argsL := [.ref a1, .ref a2, .int p3, .int p4, .int 50]) (rest := []) (lenOf pd_48_39 rfl) rfl (Nat.le_of_eq rfl) (D47 hby 75 rfl) (fun _ _ => ⟨rfl, e14, (by decide : 0 + 0 ≤ _), (by decide : 0 + 0 ≤ _)⟩)
  dsimp only [Pt.U, Pt.locs, Pt.cells, Pt.slots] at X15 l15 y15 z15 st15 hQ15
  subst l15 y15 z15
  obtain ⟨rfl, N15q, e15⟩ := hQ15
  have N15 := Fr.app N14 N15q
  obtain ⟨fs, hr, hrun, hended, hW, hsame⟩ := X15.leave (v := some (.int 1)) (fun h => by rw [Bd.returns] at h; cases h)
  refine ⟨_, _, pre0 _ ?_, hrun, hended, _, _, rfl, ?_, ⟨_, rfl⟩, hW, hsame.mono (by decide) (by decide)⟩
  · refine XS.aloadN X0.here hx rfl (D47 hby 0 rfl) rfl rfl ?_
    refine XS.aloadN X0.here hx rfl (D47 hby 1 rfl) rfl rfl ?_
    refine XS.iloadN X0.here hx rfl (D47 hby 2 rfl) rfl ?_
    refine XS.iloadN X0.here hx rfl (D47 hby 3 rfl) rfl ?_
    refine XS.iconst X0.here hx rfl (D47 hby 4 rfl) ?_
    refine st5 _ ?_
    refine XS.ifNo X5.here hx rfl (D47 hby 6 rfl) rfl ((if0 _ _).trans (feq (by decide : ¬ ((1 : Int32) = (0 : Int32)))).1) ?_
    refine XS.aloadN X5.here hx rfl (D47 hby 7 rfl) rfl rfl ?_
    refine XS.aloadN X5.here hx rfl (D47 hby 8 rfl) rfl rfl ?_
    refine XS.iloadN X5.here hx rfl (D47 hby 9 rfl) rfl ?_
    refine XS.iloadN X5.here hx rfl (D47 hby 10 rfl) rfl ?_
    refine XS.iconst X5.here hx rfl (D47 hby 11 rfl) ?_
    refine st6 _ ?_
    refine XS.ifNo X6.here hx rfl (D47 hby 13 rfl) rfl ((if0 _ _).trans (feq (by decide : ¬ ((1 : Int32) = (0 : Int32)))).1) ?_
    refine XS.aloadN X6.here hx rfl (D47 hby 14 rfl) rfl rfl ?_
    refine XS.aloadN X6.here hx rfl (D47 hby 15 rfl) rfl rfl ?_
    refine XS.iloadN X6.here hx rfl (D47 hby 16 rfl) rfl ?_
    refine XS.iloadN X6.here hx rfl (D47 hby 17 rfl) rfl ?_
    refine XS.bipush X6.here hx rfl (D47 hby 18 rfl) ?_
    refine st7 _ ?_
    refine XS.ifNo X7.here hx rfl (D47 hby 20 rfl) rfl ((if0 _ _).trans (feq (by decide : ¬ ((1 : Int32) = (0 : Int32)))).1) ?_
    refine XS.aloadN X7.here hx rfl (D47 hby 21 rfl) rfl rfl ?_
    refine XS.aloadN X7.here hx rfl (D47 hby 22 rfl) rfl rfl ?_
    refine XS.iloadN X7.here hx rfl (D47 hby 23 rfl) rfl ?_
    refine XS.iloadN X7.here hx rfl (D47 hby 24 rfl) rfl ?_
    refine XS.bipush X7.here hx rfl (D47 hby 25 rfl) ?_
    refine st8 _ ?_
    refine XS.ifNo X8.here hx rfl (D47 hby 27 rfl) rfl ((if0 _ _).trans (feq (by decide : ¬ ((1 : Int32) = (0 : Int32)))).1) ?_
    refine XS.aloadN X8.here hx rfl (D47 hby 28 rfl) rfl rfl ?_
    refine XS.aloadN X8.here hx rfl (D47 hby 29 rfl) rfl rfl ?_
    refine XS.iloadN X8.here hx rfl (D47 hby 30 rfl) rfl ?_
    refine XS.iloadN X8.here hx rfl (D47 hby 31 rfl) rfl ?_
    refine XS.bipush X8.here hx rfl (D47 hby 32 rfl) ?_
    refine st9 _ ?_
    refine XS.ifNo X9.here hx rfl (D47 hby 34 rfl) rfl ((if0 _ _).trans (feq (by decide : ¬ ((1 : Int32) = (0 : Int32)))).1) ?_
    refine XS.aloadN X9.here hx rfl (D47 hby 35 rfl) rfl rfl ?_
    refine XS.aloadN X9.here hx rfl (D47 hby 36 rfl) rfl rfl ?_
    refine XS.iloadN X9.here hx rfl (D47 hby 37 rfl) rfl ?_
    refine XS.iloadN X9.here hx rfl (D47 hby 38 rfl) rfl ?_
    refine XS.bipush X9.here hx rfl (D47 hby 39 rfl) ?_
    refine st10 _ ?_
    refine XS.ifNo X10.here hx rfl (D47 hby 41 rfl) rfl ((if0 _ _).trans (feq (by decide : ¬ ((1 : Int32) = (0 : Int32)))).1) ?_
    refine XS.aloadN X10.here hx rfl (D47 hby 42 rfl) rfl rfl ?_
    refine XS.aloadN X10.here hx rfl (D47 hby 43 rfl) rfl rfl ?_
    refine XS.iloadN X10.here hx rfl (D47 hby 44 rfl) rfl ?_
    refine XS.iloadN X10.here hx rfl (D47 hby 45 rfl) rfl ?_
    refine XS.bipush X10.here hx rfl (D47 hby 46 rfl) ?_
    refine st11 _ ?_
    refine XS.ifNo X11.here hx rfl (D47 hby 48 rfl) rfl ((if0 _ _).trans (feq (by decide : ¬ ((1 : Int32) = (0 : Int32)))).1) ?_
    refine XS.aloadN X11.here hx rfl (D47 hby 49 rfl) rfl rfl ?_
    refine XS.aloadN X11.here hx rfl (D47 hby 50 rfl) rfl rfl ?_
    refine XS.iloadN X11.here hx rfl (D47 hby 51 rfl) rfl ?_
    refine XS.iloadN X11.here hx rfl (D47 hby 52 rfl) rfl ?_
    refine XS.bipush X11.here hx rfl (D47 hby 53 rfl) ?_
    refine st12 _ ?_
    refine XS.ifNo X12.here hx rfl (D47 hby 55 rfl) rfl ((if0 _ _).trans (feq (by decide : ¬ ((1 : Int32) = (0 : Int32)))).1) ?_
    refine XS.aloadN X12.here hx rfl (D47 hby 56 rfl) rfl rfl ?_
    refine XS.aloadN X12.here hx rfl (D47 hby 57 rfl) rfl rfl ?_
    refine XS.iloadN X12.here hx rfl (D47 hby 58 rfl) rfl ?_
    refine XS.iloadN X12.here hx rfl (D47 hby 59 rfl) rfl ?_
    refine XS.bipush X12.here hx rfl (D47 hby 60 rfl) ?_
    refine st13 _ ?_
    refine XS.ifNo X13.here hx rfl (D47 hby 62 rfl) rfl ((if0 _ _).trans (feq (by decide : ¬ ((1 : Int32) = (0 : Int32)))).1) ?_
    refine XS.aloadN X13.here hx rfl (D47 hby 63 rfl) rfl rfl ?_
    refine XS.aloadN X13.here hx rfl (D47 hby 64 rfl) rfl rfl ?_
    refine XS.iloadN X13.here hx rfl (D47 hby 65 rfl) rfl ?_
    refine XS.iloadN X13.here hx rfl (D47 hby 66 rfl) rfl ?_
    refine XS.bipush X13.here hx rfl (D47 hby 67 rfl) ?_
    refine st14 _ ?_
    refine XS.ifNo X14.here hx rfl (D47 hby 69 rfl) rfl ((if0 _ _).trans (feq (by decide : ¬ ((1 : Int32) = (0 : Int32)))).1) ?_
    refine XS.aloadN X14.here hx rfl (D47 hby 70 rfl) rfl rfl ?_
    refine XS.aloadN X14.here hx rfl (D47 hby 71 rfl) rfl rfl ?_
    refine XS.iloadN X14.here hx rfl (D47 hby 72 rfl) rfl ?_
    refine XS.iloadN X14.here hx rfl (D47 hby 73 rfl) rfl ?_
    refine XS.bipush X14.here hx rfl (D47 hby 74 rfl) ?_
    refine st15 _ ?_
    refine XS.ifNo X15.here hx rfl (D47 hby 76 rfl) rfl ((if0 _ _).trans (feq (by decide : ¬ ((1 : Int32) = (0 : Int32)))).1) ?_
    refine XS.iconst X15.here hx rfl (D47 hby 77 rfl) ?_
    refine XS.goto X15.here hx rfl (pc0 := 131) (pc' := 135) rfl (D47 hby 78 rfl) (by decide) (by decide) ?_
    exact retN X15 hx (t := .boolean) Bd.returns (by simp) (D47 hby 79 rfl) hr
  · show QR (some (.int 1)) h0 n0 _ T15.heap _
    rw [e15]
    exact ⟨rfl, N15, rfl⟩
theorem pd_0_36 : parseMethodDescriptor "([CIIIJJ)V" = some ⟨[(.array .char), .int, .int, .int, .long, .long], none⟩ := by decide +kernel
theorem own_put0 {p : Program} {l : Launch} {e : Env} {s : State} {m : MethodId} {args : Array Value} {below : List Frame} {meth : Method} {c : Code} {T0 : State} {locs : List Loc} {cells slots : Nat} {Z : State} {a0 : Array Value} {h0 : Heap} (s0 : Slot) (s1 : Slot) (j2 : Int64) (s4 : Slot) (s5 : Slot) (s6 : Slot) (s7 : Slot) (s8 : Slot) (s9 : Slot) (s10 : Slot) (s11 : Slot) (o12 : Addr) (o13 : Addr) (s14 : Slot) (i15 : Int32) (i16 : Int32) (s17 : Slot) (s_ nd : Nat) (es : List Int32) (ke kp : ClassId) (n0 : Nat)
    (X0 : Stand p l e own_R0 s m args below meth c T0 locs cells slots) (hx : p.tables.exec = Jvm.exec) (hZ : Z.Warmed39 s.vm) (hw : zH Z a0) (hby : c.code = code) (hml : c.maxLocals = 18) (hown : s.vm.findClass "com/example/dealt/dealt/metrics/ExpositionCounterPinLaw" = some m.cls) (e0 : T0.heap = h0) (V12 : Arv Z h0 o12 ke .char (55 : Int32) (es.map Value.int) (.int 0)) (V13 : Arv Z h0 o13 kp .long (19 : Int32) (own_p.map Value.long) (.long 0)) (he : es.length = 55) (h16 : i16 = Int32.ofNat s_) (h15 : i15 = Int32.ofNat nd) (hs54 : s_ + nd ≤ 54) (g_o12 : n0 ≤ o12) (Z0 : n0 ≤ h0.size) (N0 : Fr n0 locs) (hcl : cells ≤ own_R0.cells) (hsl : slots ≤ own_R0.slots) :
    ∃ (T' : State) (locs' : List Loc), Stand p l e own_R0 s m args below meth c T' locs' cells slots ∧ Fr n0 locs' ∧ Keep h0 T'.heap [o12] ∧ Arv Z T'.heap o12 ke .char (55 : Int32) ((own_put es s_ nd 0 (own_ch j2 (1 : Int64))).map Value.int) (.int 0) ∧
      ∀ target, Steps p.tables e below (T'.setTop (mkF m 784 #[s0, s1, .val (.long j2), .second, s4, s5, s6, s7, s8, s9, s10, s11, .val (.ref o12), .val (.ref o13), s14, .val (.int i15), .val (.int i16), s17] [])) target → Steps p.tables e below (T0.setTop (mkF m 769 #[s0, s1, .val (.long j2), .second, s4, s5, s6, s7, s8, s9, s10, s11, .val (.ref o12), .val (.ref o13), s14, .val (.int i15), .val (.int i16), s17] [])) target := by
  obtain ⟨cl_o13, Ar_o13, q13, S13, N13_, H13, G13⟩ := id V13
  have hin780 : ¬ ((0 : Int32) < 0 ∨ cl_o13.slots.size ≤ ((0 : Int32)).toNatClampNeg) := inb_of S13 ⟨by decide, by decide⟩
  have hat780 : cl_o13.slots[((0 : Int32)).toNatClampNeg]? = some (.long 1) := H13.at hin780 rfl
  obtain ⟨_, _, ⟨T5, L5, k5, n5⟩, -, X5, ⟨Lc5, hQ5, l5, y5, z5⟩, st5⟩ := Jvm.LawKit.callS X0 hx (y := y_2) hown (zT hZ hw 247 rfl) (zT hZ hw 248 rfl) (zT hZ hw 245 rfl) (zT hZ hw 249 rfl) (by decide) (backOf (W := 0) (r45 l Z a0 hw [] i16 i15 (0 : Int32) o12 s_ nd 0 j2 (1 : Int64) es ke h0 n0 Z0 V12 he g_o12 hs54 (by decide) (by decide) h16 h15 rfl) hZ (zW hw 249 rfl) (zW hw 245 rfl) (by decide) (by decide)) (g := (mkF m 781 #[s0, s1, .val (.long j2), .second, s4, s5, s6, s7, s8, s9, s10, s11, .val (.ref o12), .val (.ref o13), s14, .val (.int i15), .val (.int i16), s17] [.long 1, (.long j2), .int 0, .int i15, .int i16, .ref o12])) rfl (by rw [hml]; rfl) (argsL := [.ref o12, .int i16, .int i15, .int 0, (.long j2), .long 1]) (rest := []) (lenOf pd_0_36 rfl) rfl (Nat.le_of_eq rfl) (hb hby at_781) (fun _ _ => ⟨rfl, e0, hcl, hsl⟩)
  dsimp only [Pt.U, Pt.locs, Pt.cells, Pt.slots] at X5 l5 y5 z5 st5 hQ5
  subst l5 y5 z5
  obtain ⟨rfl, N5q, K5, V5⟩ := hQ5
  have N5 := Fr.app N0 N5q
  refine ⟨T5, _, X5, N5, K5, V5, fun target kt => ?_⟩
  refine XS.aload X0.here hx rfl (hb hby at_769) rfl rfl ?_
  refine XS.iload X0.here hx rfl (hb hby at_771) rfl ?_
  refine XS.iload X0.here hx rfl (hb hby at_773) rfl ?_
  refine XS.iconst X0.here hx rfl (hb hby at_775) ?_
  refine XS.lloadN X0.here hx rfl (hb hby at_776) rfl ?_
  refine XS.aload X0.here hx rfl (hb hby at_777) rfl rfl ?_
  refine XS.iconst X0.here hx rfl (hb hby at_779) ?_
  refine X0.laload hx (j := (0 : Int32)) (v := (.long 1)) (by rw [e0]; exact Ar_o13.1) (State.isArrayOf_alike hZ.alike Ar_o13.2.1) Ar_o13.2.2 hin780 hat780 (g := (mkF m 780 #[s0, s1, .val (.long j2), .second, s4, s5, s6, s7, s8, s9, s10, s11, .val (.ref o12), .val (.ref o13), s14, .val (.int i15), .val (.int i16), s17] [.int 0, .ref o13, (.long j2), .int 0, .int i15, .int i16, .ref o12])) rfl rfl (hb hby at_780) _ ?_
  refine st5 _ ?_
  exact kt
theorem own_put1 {p : Program} {l : Launch} {e : Env} {s : State} {m : MethodId} {args : Array Value} {below : List Frame} {meth : Method} {c : Code} {T0 : State} {locs : List Loc} {cells slots : Nat} {Z : State} {a0 : Array Value} {h0 : Heap} (s0 : Slot) (s1 : Slot) (j2 : Int64) (s4 : Slot) (s5 : Slot) (s6 : Slot) (s7 : Slot) (s8 : Slot) (s9 : Slot) (s10 : Slot) (s11 : Slot) (o12 : Addr) (o13 : Addr) (s14 : Slot) (i15 : Int32) (i16 : Int32) (s17 : Slot) (s_ nd : Nat) (es : List Int32) (ke kp : ClassId) (n0 : Nat)
    (X0 : Stand p l e own_R0 s m args below meth c T0 locs cells slots) (hx : p.tables.exec = Jvm.exec) (hZ : Z.Warmed39 s.vm) (hw : zH Z a0) (hby : c.code = code) (hml : c.maxLocals = 18) (hown : s.vm.findClass "com/example/dealt/dealt/metrics/ExpositionCounterPinLaw" = some m.cls) (e0 : T0.heap = h0) (V12 : Arv Z h0 o12 ke .char (55 : Int32) (es.map Value.int) (.int 0)) (V13 : Arv Z h0 o13 kp .long (19 : Int32) (own_p.map Value.long) (.long 0)) (he : es.length = 55) (h16 : i16 = Int32.ofNat s_) (h15 : i15 = Int32.ofNat nd) (hs54 : s_ + nd ≤ 54) (g_o12 : n0 ≤ o12) (Z0 : n0 ≤ h0.size) (N0 : Fr n0 locs) (hcl : cells ≤ own_R0.cells) (hsl : slots ≤ own_R0.slots) :
    ∃ (T' : State) (locs' : List Loc), Stand p l e own_R0 s m args below meth c T' locs' cells slots ∧ Fr n0 locs' ∧ Keep h0 T'.heap [o12] ∧ Arv Z T'.heap o12 ke .char (55 : Int32) ((own_put es s_ nd 1 (own_ch j2 (10 : Int64))).map Value.int) (.int 0) ∧
      ∀ target, Steps p.tables e below (T'.setTop (mkF m 799 #[s0, s1, .val (.long j2), .second, s4, s5, s6, s7, s8, s9, s10, s11, .val (.ref o12), .val (.ref o13), s14, .val (.int i15), .val (.int i16), s17] [])) target → Steps p.tables e below (T0.setTop (mkF m 784 #[s0, s1, .val (.long j2), .second, s4, s5, s6, s7, s8, s9, s10, s11, .val (.ref o12), .val (.ref o13), s14, .val (.int i15), .val (.int i16), s17] [])) target := by
  obtain ⟨cl_o13, Ar_o13, q13, S13, N13_, H13, G13⟩ := id V13
  have hin795 : ¬ ((1 : Int32) < 0 ∨ cl_o13.slots.size ≤ ((1 : Int32)).toNatClampNeg) := inb_of S13 ⟨by decide, by decide⟩
  have hat795 : cl_o13.slots[((1 : Int32)).toNatClampNeg]? = some (.long 10) := H13.at hin795 rfl
  obtain ⟨_, _, ⟨T5, L5, k5, n5⟩, -, X5, ⟨Lc5, hQ5, l5, y5, z5⟩, st5⟩ := Jvm.LawKit.callS X0 hx (y := y_2) hown (zT hZ hw 247 rfl) (zT hZ hw 248 rfl) (zT hZ hw 245 rfl) (zT hZ hw 249 rfl) (by decide) (backOf (W := 0) (r45 l Z a0 hw [] i16 i15 (1 : Int32) o12 s_ nd 1 j2 (10 : Int64) es ke h0 n0 Z0 V12 he g_o12 hs54 (by decide) (by decide) h16 h15 rfl) hZ (zW hw 249 rfl) (zW hw 245 rfl) (by decide) (by decide)) (g := (mkF m 796 #[s0, s1, .val (.long j2), .second, s4, s5, s6, s7, s8, s9, s10, s11, .val (.ref o12), .val (.ref o13), s14, .val (.int i15), .val (.int i16), s17] [.long 10, (.long j2), .int 1, .int i15, .int i16, .ref o12])) rfl (by rw [hml]; rfl) (argsL := [.ref o12, .int i16, .int i15, .int 1, (.long j2), .long 10]) (rest := []) (lenOf pd_0_36 rfl) rfl (Nat.le_of_eq rfl) (hb hby at_796) (fun _ _ => ⟨rfl, e0, hcl, hsl⟩)
  dsimp only [Pt.U, Pt.locs, Pt.cells, Pt.slots] at X5 l5 y5 z5 st5 hQ5
  subst l5 y5 z5
  obtain ⟨rfl, N5q, K5, V5⟩ := hQ5
  have N5 := Fr.app N0 N5q
  refine ⟨T5, _, X5, N5, K5, V5, fun target kt => ?_⟩
  refine XS.aload X0.here hx rfl (hb hby at_784) rfl rfl ?_
  refine XS.iload X0.here hx rfl (hb hby at_786) rfl ?_
  refine XS.iload X0.here hx rfl (hb hby at_788) rfl ?_
  refine XS.iconst X0.here hx rfl (hb hby at_790) ?_
  refine XS.lloadN X0.here hx rfl (hb hby at_791) rfl ?_
  refine XS.aload X0.here hx rfl (hb hby at_792) rfl rfl ?_
  refine XS.iconst X0.here hx rfl (hb hby at_794) ?_
  refine X0.laload hx (j := (1 : Int32)) (v := (.long 10)) (by rw [e0]; exact Ar_o13.1) (State.isArrayOf_alike hZ.alike Ar_o13.2.1) Ar_o13.2.2 hin795 hat795 (g := (mkF m 795 #[s0, s1, .val (.long j2), .second, s4, s5, s6, s7, s8, s9, s10, s11, .val (.ref o12), .val (.ref o13), s14, .val (.int i15), .val (.int i16), s17] [.int 1, .ref o13, (.long j2), .int 1, .int i15, .int i16, .ref o12])) rfl rfl (hb hby at_795) _ ?_
  refine st5 _ ?_
  exact kt
theorem own_put2 {p : Program} {l : Launch} {e : Env} {s : State} {m : MethodId} {args : Array Value} {below : List Frame} {meth : Method} {c : Code} {T0 : State} {locs : List Loc} {cells slots : Nat} {Z : State} {a0 : Array Value} {h0 : Heap} (s0 : Slot) (s1 : Slot) (j2 : Int64) (s4 : Slot) (s5 : Slot) (s6 : Slot) (s7 : Slot) (s8 : Slot) (s9 : Slot) (s10 : Slot) (s11 : Slot) (o12 : Addr) (o13 : Addr) (s14 : Slot) (i15 : Int32) (i16 : Int32) (s17 : Slot) (s_ nd : Nat) (es : List Int32) (ke kp : ClassId) (n0 : Nat)
    (X0 : Stand p l e own_R0 s m args below meth c T0 locs cells slots) (hx : p.tables.exec = Jvm.exec) (hZ : Z.Warmed39 s.vm) (hw : zH Z a0) (hby : c.code = code) (hml : c.maxLocals = 18) (hown : s.vm.findClass "com/example/dealt/dealt/metrics/ExpositionCounterPinLaw" = some m.cls) (e0 : T0.heap = h0) (V12 : Arv Z h0 o12 ke .char (55 : Int32) (es.map Value.int) (.int 0)) (V13 : Arv Z h0 o13 kp .long (19 : Int32) (own_p.map Value.long) (.long 0)) (he : es.length = 55) (h16 : i16 = Int32.ofNat s_) (h15 : i15 = Int32.ofNat nd) (hs54 : s_ + nd ≤ 54) (g_o12 : n0 ≤ o12) (Z0 : n0 ≤ h0.size) (N0 : Fr n0 locs) (hcl : cells ≤ own_R0.cells) (hsl : slots ≤ own_R0.slots) :
    ∃ (T' : State) (locs' : List Loc), Stand p l e own_R0 s m args below meth c T' locs' cells slots ∧ Fr n0 locs' ∧ Keep h0 T'.heap [o12] ∧ Arv Z T'.heap o12 ke .char (55 : Int32) ((own_put es s_ nd 2 (own_ch j2 (100 : Int64))).map Value.int) (.int 0) ∧
      ∀ target, Steps p.tables e below (T'.setTop (mkF m 814 #[s0, s1, .val (.long j2), .second, s4, s5, s6, s7, s8, s9, s10, s11, .val (.ref o12), .val (.ref o13), s14, .val (.int i15), .val (.int i16), s17] [])) target → Steps p.tables e below (T0.setTop (mkF m 799 #[s0, s1, .val (.long j2), .second, s4, s5, s6, s7, s8, s9, s10, s11, .val (.ref o12), .val (.ref o13), s14, .val (.int i15), .val (.int i16), s17] [])) target := by
  obtain ⟨cl_o13, Ar_o13, q13, S13, N13_, H13, G13⟩ := id V13
  have hin810 : ¬ ((2 : Int32) < 0 ∨ cl_o13.slots.size ≤ ((2 : Int32)).toNatClampNeg) := inb_of S13 ⟨by decide, by decide⟩
  have hat810 : cl_o13.slots[((2 : Int32)).toNatClampNeg]? = some (.long 100) := H13.at hin810 rfl
  obtain ⟨_, _, ⟨T5, L5, k5, n5⟩, -, X5, ⟨Lc5, hQ5, l5, y5, z5⟩, st5⟩ := Jvm.LawKit.callS X0 hx (y := y_2) hown (zT hZ hw 247 rfl) (zT hZ hw 248 rfl) (zT hZ hw 245 rfl) (zT hZ hw 249 rfl) (by decide) (backOf (W := 0) (r45 l Z a0 hw [] i16 i15 (2 : Int32) o12 s_ nd 2 j2 (100 : Int64) es ke h0 n0 Z0 V12 he g_o12 hs54 (by decide) (by decide) h16 h15 rfl) hZ (zW hw 249 rfl) (zW hw 245 rfl) (by decide) (by decide)) (g := (mkF m 811 #[s0, s1, .val (.long j2), .second, s4, s5, s6, s7, s8, s9, s10, s11, .val (.ref o12), .val (.ref o13), s14, .val (.int i15), .val (.int i16), s17] [.long 100, (.long j2), .int 2, .int i15, .int i16, .ref o12])) rfl (by rw [hml]; rfl) (argsL := [.ref o12, .int i16, .int i15, .int 2, (.long j2), .long 100]) (rest := []) (lenOf pd_0_36 rfl) rfl (Nat.le_of_eq rfl) (hb hby at_811) (fun _ _ => ⟨rfl, e0, hcl, hsl⟩)
  dsimp only [Pt.U, Pt.locs, Pt.cells, Pt.slots] at X5 l5 y5 z5 st5 hQ5
  subst l5 y5 z5
  obtain ⟨rfl, N5q, K5, V5⟩ := hQ5
  have N5 := Fr.app N0 N5q
  refine ⟨T5, _, X5, N5, K5, V5, fun target kt => ?_⟩
  refine XS.aload X0.here hx rfl (hb hby at_799) rfl rfl ?_
  refine XS.iload X0.here hx rfl (hb hby at_801) rfl ?_
  refine XS.iload X0.here hx rfl (hb hby at_803) rfl ?_
  refine XS.iconst X0.here hx rfl (hb hby at_805) ?_
  refine XS.lloadN X0.here hx rfl (hb hby at_806) rfl ?_
  refine XS.aload X0.here hx rfl (hb hby at_807) rfl rfl ?_
  refine XS.iconst X0.here hx rfl (hb hby at_809) ?_
  refine X0.laload hx (j := (2 : Int32)) (v := (.long 100)) (by rw [e0]; exact Ar_o13.1) (State.isArrayOf_alike hZ.alike Ar_o13.2.1) Ar_o13.2.2 hin810 hat810 (g := (mkF m 810 #[s0, s1, .val (.long j2), .second, s4, s5, s6, s7, s8, s9, s10, s11, .val (.ref o12), .val (.ref o13), s14, .val (.int i15), .val (.int i16), s17] [.int 2, .ref o13, (.long j2), .int 2, .int i15, .int i16, .ref o12])) rfl rfl (hb hby at_810) _ ?_
  refine st5 _ ?_
  exact kt
theorem own_put3 {p : Program} {l : Launch} {e : Env} {s : State} {m : MethodId} {args : Array Value} {below : List Frame} {meth : Method} {c : Code} {T0 : State} {locs : List Loc} {cells slots : Nat} {Z : State} {a0 : Array Value} {h0 : Heap} (s0 : Slot) (s1 : Slot) (j2 : Int64) (s4 : Slot) (s5 : Slot) (s6 : Slot) (s7 : Slot) (s8 : Slot) (s9 : Slot) (s10 : Slot) (s11 : Slot) (o12 : Addr) (o13 : Addr) (s14 : Slot) (i15 : Int32) (i16 : Int32) (s17 : Slot) (s_ nd : Nat) (es : List Int32) (ke kp : ClassId) (n0 : Nat)
    (X0 : Stand p l e own_R0 s m args below meth c T0 locs cells slots) (hx : p.tables.exec = Jvm.exec) (hZ : Z.Warmed39 s.vm) (hw : zH Z a0) (hby : c.code = code) (hml : c.maxLocals = 18) (hown : s.vm.findClass "com/example/dealt/dealt/metrics/ExpositionCounterPinLaw" = some m.cls) (e0 : T0.heap = h0) (V12 : Arv Z h0 o12 ke .char (55 : Int32) (es.map Value.int) (.int 0)) (V13 : Arv Z h0 o13 kp .long (19 : Int32) (own_p.map Value.long) (.long 0)) (he : es.length = 55) (h16 : i16 = Int32.ofNat s_) (h15 : i15 = Int32.ofNat nd) (hs54 : s_ + nd ≤ 54) (g_o12 : n0 ≤ o12) (Z0 : n0 ≤ h0.size) (N0 : Fr n0 locs) (hcl : cells ≤ own_R0.cells) (hsl : slots ≤ own_R0.slots) :
    ∃ (T' : State) (locs' : List Loc), Stand p l e own_R0 s m args below meth c T' locs' cells slots ∧ Fr n0 locs' ∧ Keep h0 T'.heap [o12] ∧ Arv Z T'.heap o12 ke .char (55 : Int32) ((own_put es s_ nd 3 (own_ch j2 (1000 : Int64))).map Value.int) (.int 0) ∧
      ∀ target, Steps p.tables e below (T'.setTop (mkF m 829 #[s0, s1, .val (.long j2), .second, s4, s5, s6, s7, s8, s9, s10, s11, .val (.ref o12), .val (.ref o13), s14, .val (.int i15), .val (.int i16), s17] [])) target → Steps p.tables e below (T0.setTop (mkF m 814 #[s0, s1, .val (.long j2), .second, s4, s5, s6, s7, s8, s9, s10, s11, .val (.ref o12), .val (.ref o13), s14, .val (.int i15), .val (.int i16), s17] [])) target := by
  obtain ⟨cl_o13, Ar_o13, q13, S13, N13_, H13, G13⟩ := id V13
  have hin825 : ¬ ((3 : Int32) < 0 ∨ cl_o13.slots.size ≤ ((3 : Int32)).toNatClampNeg) := inb_of S13 ⟨by decide, by decide⟩
  have hat825 : cl_o13.slots[((3 : Int32)).toNatClampNeg]? = some (.long 1000) := H13.at hin825 rfl
  obtain ⟨_, _, ⟨T5, L5, k5, n5⟩, -, X5, ⟨Lc5, hQ5, l5, y5, z5⟩, st5⟩ := Jvm.LawKit.callS X0 hx (y := y_2) hown (zT hZ hw 247 rfl) (zT hZ hw 248 rfl) (zT hZ hw 245 rfl) (zT hZ hw 249 rfl) (by decide) (backOf (W := 0) (r45 l Z a0 hw [] i16 i15 (3 : Int32) o12 s_ nd 3 j2 (1000 : Int64) es ke h0 n0 Z0 V12 he g_o12 hs54 (by decide) (by decide) h16 h15 rfl) hZ (zW hw 249 rfl) (zW hw 245 rfl) (by decide) (by decide)) (g := (mkF m 826 #[s0, s1, .val (.long j2), .second, s4, s5, s6, s7, s8, s9, s10, s11, .val (.ref o12), .val (.ref o13), s14, .val (.int i15), .val (.int i16), s17] [.long 1000, (.long j2), .int 3, .int i15, .int i16, .ref o12])) rfl (by rw [hml]; rfl) (argsL := [.ref o12, .int i16, .int i15, .int 3, (.long j2), .long 1000]) (rest := []) (lenOf pd_0_36 rfl) rfl (Nat.le_of_eq rfl) (hb hby at_826) (fun _ _ => ⟨rfl, e0, hcl, hsl⟩)
  dsimp only [Pt.U, Pt.locs, Pt.cells, Pt.slots] at X5 l5 y5 z5 st5 hQ5
  subst l5 y5 z5
  obtain ⟨rfl, N5q, K5, V5⟩ := hQ5
  have N5 := Fr.app N0 N5q
  refine ⟨T5, _, X5, N5, K5, V5, fun target kt => ?_⟩
  refine XS.aload X0.here hx rfl (hb hby at_814) rfl rfl ?_
  refine XS.iload X0.here hx rfl (hb hby at_816) rfl ?_
  refine XS.iload X0.here hx rfl (hb hby at_818) rfl ?_
  refine XS.iconst X0.here hx rfl (hb hby at_820) ?_
  refine XS.lloadN X0.here hx rfl (hb hby at_821) rfl ?_
  refine XS.aload X0.here hx rfl (hb hby at_822) rfl rfl ?_
  refine XS.iconst X0.here hx rfl (hb hby at_824) ?_
  refine X0.laload hx (j := (3 : Int32)) (v := (.long 1000)) (by rw [e0]; exact Ar_o13.1) (State.isArrayOf_alike hZ.alike Ar_o13.2.1) Ar_o13.2.2 hin825 hat825 (g := (mkF m 825 #[s0, s1, .val (.long j2), .second, s4, s5, s6, s7, s8, s9, s10, s11, .val (.ref o12), .val (.ref o13), s14, .val (.int i15), .val (.int i16), s17] [.int 3, .ref o13, (.long j2), .int 3, .int i15, .int i16, .ref o12])) rfl rfl (hb hby at_825) _ ?_
  refine st5 _ ?_
  exact kt
theorem own_put4 {p : Program} {l : Launch} {e : Env} {s : State} {m : MethodId} {args : Array Value} {below : List Frame} {meth : Method} {c : Code} {T0 : State} {locs : List Loc} {cells slots : Nat} {Z : State} {a0 : Array Value} {h0 : Heap} (s0 : Slot) (s1 : Slot) (j2 : Int64) (s4 : Slot) (s5 : Slot) (s6 : Slot) (s7 : Slot) (s8 : Slot) (s9 : Slot) (s10 : Slot) (s11 : Slot) (o12 : Addr) (o13 : Addr) (s14 : Slot) (i15 : Int32) (i16 : Int32) (s17 : Slot) (s_ nd : Nat) (es : List Int32) (ke kp : ClassId) (n0 : Nat)
    (X0 : Stand p l e own_R0 s m args below meth c T0 locs cells slots) (hx : p.tables.exec = Jvm.exec) (hZ : Z.Warmed39 s.vm) (hw : zH Z a0) (hby : c.code = code) (hml : c.maxLocals = 18) (hown : s.vm.findClass "com/example/dealt/dealt/metrics/ExpositionCounterPinLaw" = some m.cls) (e0 : T0.heap = h0) (V12 : Arv Z h0 o12 ke .char (55 : Int32) (es.map Value.int) (.int 0)) (V13 : Arv Z h0 o13 kp .long (19 : Int32) (own_p.map Value.long) (.long 0)) (he : es.length = 55) (h16 : i16 = Int32.ofNat s_) (h15 : i15 = Int32.ofNat nd) (hs54 : s_ + nd ≤ 54) (g_o12 : n0 ≤ o12) (Z0 : n0 ≤ h0.size) (N0 : Fr n0 locs) (hcl : cells ≤ own_R0.cells) (hsl : slots ≤ own_R0.slots) :
    ∃ (T' : State) (locs' : List Loc), Stand p l e own_R0 s m args below meth c T' locs' cells slots ∧ Fr n0 locs' ∧ Keep h0 T'.heap [o12] ∧ Arv Z T'.heap o12 ke .char (55 : Int32) ((own_put es s_ nd 4 (own_ch j2 (10000 : Int64))).map Value.int) (.int 0) ∧
      ∀ target, Steps p.tables e below (T'.setTop (mkF m 844 #[s0, s1, .val (.long j2), .second, s4, s5, s6, s7, s8, s9, s10, s11, .val (.ref o12), .val (.ref o13), s14, .val (.int i15), .val (.int i16), s17] [])) target → Steps p.tables e below (T0.setTop (mkF m 829 #[s0, s1, .val (.long j2), .second, s4, s5, s6, s7, s8, s9, s10, s11, .val (.ref o12), .val (.ref o13), s14, .val (.int i15), .val (.int i16), s17] [])) target := by
  obtain ⟨cl_o13, Ar_o13, q13, S13, N13_, H13, G13⟩ := id V13
  have hin840 : ¬ ((4 : Int32) < 0 ∨ cl_o13.slots.size ≤ ((4 : Int32)).toNatClampNeg) := inb_of S13 ⟨by decide, by decide⟩
  have hat840 : cl_o13.slots[((4 : Int32)).toNatClampNeg]? = some (.long 10000) := H13.at hin840 rfl
  obtain ⟨_, _, ⟨T5, L5, k5, n5⟩, -, X5, ⟨Lc5, hQ5, l5, y5, z5⟩, st5⟩ := Jvm.LawKit.callS X0 hx (y := y_2) hown (zT hZ hw 247 rfl) (zT hZ hw 248 rfl) (zT hZ hw 245 rfl) (zT hZ hw 249 rfl) (by decide) (backOf (W := 0) (r45 l Z a0 hw [] i16 i15 (4 : Int32) o12 s_ nd 4 j2 (10000 : Int64) es ke h0 n0 Z0 V12 he g_o12 hs54 (by decide) (by decide) h16 h15 rfl) hZ (zW hw 249 rfl) (zW hw 245 rfl) (by decide) (by decide)) (g := (mkF m 841 #[s0, s1, .val (.long j2), .second, s4, s5, s6, s7, s8, s9, s10, s11, .val (.ref o12), .val (.ref o13), s14, .val (.int i15), .val (.int i16), s17] [.long 10000, (.long j2), .int 4, .int i15, .int i16, .ref o12])) rfl (by rw [hml]; rfl) (argsL := [.ref o12, .int i16, .int i15, .int 4, (.long j2), .long 10000]) (rest := []) (lenOf pd_0_36 rfl) rfl (Nat.le_of_eq rfl) (hb hby at_841) (fun _ _ => ⟨rfl, e0, hcl, hsl⟩)
  dsimp only [Pt.U, Pt.locs, Pt.cells, Pt.slots] at X5 l5 y5 z5 st5 hQ5
  subst l5 y5 z5
  obtain ⟨rfl, N5q, K5, V5⟩ := hQ5
  have N5 := Fr.app N0 N5q
  refine ⟨T5, _, X5, N5, K5, V5, fun target kt => ?_⟩
  refine XS.aload X0.here hx rfl (hb hby at_829) rfl rfl ?_
  refine XS.iload X0.here hx rfl (hb hby at_831) rfl ?_
  refine XS.iload X0.here hx rfl (hb hby at_833) rfl ?_
  refine XS.iconst X0.here hx rfl (hb hby at_835) ?_
  refine XS.lloadN X0.here hx rfl (hb hby at_836) rfl ?_
  refine XS.aload X0.here hx rfl (hb hby at_837) rfl rfl ?_
  refine XS.iconst X0.here hx rfl (hb hby at_839) ?_
  refine X0.laload hx (j := (4 : Int32)) (v := (.long 10000)) (by rw [e0]; exact Ar_o13.1) (State.isArrayOf_alike hZ.alike Ar_o13.2.1) Ar_o13.2.2 hin840 hat840 (g := (mkF m 840 #[s0, s1, .val (.long j2), .second, s4, s5, s6, s7, s8, s9, s10, s11, .val (.ref o12), .val (.ref o13), s14, .val (.int i15), .val (.int i16), s17] [.int 4, .ref o13, (.long j2), .int 4, .int i15, .int i16, .ref o12])) rfl rfl (hb hby at_840) _ ?_
  refine st5 _ ?_
  exact kt
theorem own_put5 {p : Program} {l : Launch} {e : Env} {s : State} {m : MethodId} {args : Array Value} {below : List Frame} {meth : Method} {c : Code} {T0 : State} {locs : List Loc} {cells slots : Nat} {Z : State} {a0 : Array Value} {h0 : Heap} (s0 : Slot) (s1 : Slot) (j2 : Int64) (s4 : Slot) (s5 : Slot) (s6 : Slot) (s7 : Slot) (s8 : Slot) (s9 : Slot) (s10 : Slot) (s11 : Slot) (o12 : Addr) (o13 : Addr) (s14 : Slot) (i15 : Int32) (i16 : Int32) (s17 : Slot) (s_ nd : Nat) (es : List Int32) (ke kp : ClassId) (n0 : Nat)
    (X0 : Stand p l e own_R0 s m args below meth c T0 locs cells slots) (hx : p.tables.exec = Jvm.exec) (hZ : Z.Warmed39 s.vm) (hw : zH Z a0) (hby : c.code = code) (hml : c.maxLocals = 18) (hown : s.vm.findClass "com/example/dealt/dealt/metrics/ExpositionCounterPinLaw" = some m.cls) (e0 : T0.heap = h0) (V12 : Arv Z h0 o12 ke .char (55 : Int32) (es.map Value.int) (.int 0)) (V13 : Arv Z h0 o13 kp .long (19 : Int32) (own_p.map Value.long) (.long 0)) (he : es.length = 55) (h16 : i16 = Int32.ofNat s_) (h15 : i15 = Int32.ofNat nd) (hs54 : s_ + nd ≤ 54) (g_o12 : n0 ≤ o12) (Z0 : n0 ≤ h0.size) (N0 : Fr n0 locs) (hcl : cells ≤ own_R0.cells) (hsl : slots ≤ own_R0.slots) :
    ∃ (T' : State) (locs' : List Loc), Stand p l e own_R0 s m args below meth c T' locs' cells slots ∧ Fr n0 locs' ∧ Keep h0 T'.heap [o12] ∧ Arv Z T'.heap o12 ke .char (55 : Int32) ((own_put es s_ nd 5 (own_ch j2 (100000 : Int64))).map Value.int) (.int 0) ∧
      ∀ target, Steps p.tables e below (T'.setTop (mkF m 859 #[s0, s1, .val (.long j2), .second, s4, s5, s6, s7, s8, s9, s10, s11, .val (.ref o12), .val (.ref o13), s14, .val (.int i15), .val (.int i16), s17] [])) target → Steps p.tables e below (T0.setTop (mkF m 844 #[s0, s1, .val (.long j2), .second, s4, s5, s6, s7, s8, s9, s10, s11, .val (.ref o12), .val (.ref o13), s14, .val (.int i15), .val (.int i16), s17] [])) target := by
  obtain ⟨cl_o13, Ar_o13, q13, S13, N13_, H13, G13⟩ := id V13
  have hin855 : ¬ ((5 : Int32) < 0 ∨ cl_o13.slots.size ≤ ((5 : Int32)).toNatClampNeg) := inb_of S13 ⟨by decide, by decide⟩
  have hat855 : cl_o13.slots[((5 : Int32)).toNatClampNeg]? = some (.long 100000) := H13.at hin855 rfl
  obtain ⟨_, _, ⟨T5, L5, k5, n5⟩, -, X5, ⟨Lc5, hQ5, l5, y5, z5⟩, st5⟩ := Jvm.LawKit.callS X0 hx (y := y_2) hown (zT hZ hw 247 rfl) (zT hZ hw 248 rfl) (zT hZ hw 245 rfl) (zT hZ hw 249 rfl) (by decide) (backOf (W := 0) (r45 l Z a0 hw [] i16 i15 (5 : Int32) o12 s_ nd 5 j2 (100000 : Int64) es ke h0 n0 Z0 V12 he g_o12 hs54 (by decide) (by decide) h16 h15 rfl) hZ (zW hw 249 rfl) (zW hw 245 rfl) (by decide) (by decide)) (g := (mkF m 856 #[s0, s1, .val (.long j2), .second, s4, s5, s6, s7, s8, s9, s10, s11, .val (.ref o12), .val (.ref o13), s14, .val (.int i15), .val (.int i16), s17] [.long 100000, (.long j2), .int 5, .int i15, .int i16, .ref o12])) rfl (by rw [hml]; rfl) (argsL := [.ref o12, .int i16, .int i15, .int 5, (.long j2), .long 100000]) (rest := []) (lenOf pd_0_36 rfl) rfl (Nat.le_of_eq rfl) (hb hby at_856) (fun _ _ => ⟨rfl, e0, hcl, hsl⟩)
  dsimp only [Pt.U, Pt.locs, Pt.cells, Pt.slots] at X5 l5 y5 z5 st5 hQ5
  subst l5 y5 z5
  obtain ⟨rfl, N5q, K5, V5⟩ := hQ5
  have N5 := Fr.app N0 N5q
  refine ⟨T5, _, X5, N5, K5, V5, fun target kt => ?_⟩
  refine XS.aload X0.here hx rfl (hb hby at_844) rfl rfl ?_
  refine XS.iload X0.here hx rfl (hb hby at_846) rfl ?_
  refine XS.iload X0.here hx rfl (hb hby at_848) rfl ?_
  refine XS.iconst X0.here hx rfl (hb hby at_850) ?_
  refine XS.lloadN X0.here hx rfl (hb hby at_851) rfl ?_
  refine XS.aload X0.here hx rfl (hb hby at_852) rfl rfl ?_
  refine XS.iconst X0.here hx rfl (hb hby at_854) ?_
  refine X0.laload hx (j := (5 : Int32)) (v := (.long 100000)) (by rw [e0]; exact Ar_o13.1) (State.isArrayOf_alike hZ.alike Ar_o13.2.1) Ar_o13.2.2 hin855 hat855 (g := (mkF m 855 #[s0, s1, .val (.long j2), .second, s4, s5, s6, s7, s8, s9, s10, s11, .val (.ref o12), .val (.ref o13), s14, .val (.int i15), .val (.int i16), s17] [.int 5, .ref o13, (.long j2), .int 5, .int i15, .int i16, .ref o12])) rfl rfl (hb hby at_855) _ ?_
  refine st5 _ ?_
  exact kt
theorem own_put6 {p : Program} {l : Launch} {e : Env} {s : State} {m : MethodId} {args : Array Value} {below : List Frame} {meth : Method} {c : Code} {T0 : State} {locs : List Loc} {cells slots : Nat} {Z : State} {a0 : Array Value} {h0 : Heap} (s0 : Slot) (s1 : Slot) (j2 : Int64) (s4 : Slot) (s5 : Slot) (s6 : Slot) (s7 : Slot) (s8 : Slot) (s9 : Slot) (s10 : Slot) (s11 : Slot) (o12 : Addr) (o13 : Addr) (s14 : Slot) (i15 : Int32) (i16 : Int32) (s17 : Slot) (s_ nd : Nat) (es : List Int32) (ke kp : ClassId) (n0 : Nat)
    (X0 : Stand p l e own_R0 s m args below meth c T0 locs cells slots) (hx : p.tables.exec = Jvm.exec) (hZ : Z.Warmed39 s.vm) (hw : zH Z a0) (hby : c.code = code) (hml : c.maxLocals = 18) (hown : s.vm.findClass "com/example/dealt/dealt/metrics/ExpositionCounterPinLaw" = some m.cls) (e0 : T0.heap = h0) (V12 : Arv Z h0 o12 ke .char (55 : Int32) (es.map Value.int) (.int 0)) (V13 : Arv Z h0 o13 kp .long (19 : Int32) (own_p.map Value.long) (.long 0)) (he : es.length = 55) (h16 : i16 = Int32.ofNat s_) (h15 : i15 = Int32.ofNat nd) (hs54 : s_ + nd ≤ 54) (g_o12 : n0 ≤ o12) (Z0 : n0 ≤ h0.size) (N0 : Fr n0 locs) (hcl : cells ≤ own_R0.cells) (hsl : slots ≤ own_R0.slots) :
    ∃ (T' : State) (locs' : List Loc), Stand p l e own_R0 s m args below meth c T' locs' cells slots ∧ Fr n0 locs' ∧ Keep h0 T'.heap [o12] ∧ Arv Z T'.heap o12 ke .char (55 : Int32) ((own_put es s_ nd 6 (own_ch j2 (1000000 : Int64))).map Value.int) (.int 0) ∧
      ∀ target, Steps p.tables e below (T'.setTop (mkF m 876 #[s0, s1, .val (.long j2), .second, s4, s5, s6, s7, s8, s9, s10, s11, .val (.ref o12), .val (.ref o13), s14, .val (.int i15), .val (.int i16), s17] [])) target → Steps p.tables e below (T0.setTop (mkF m 859 #[s0, s1, .val (.long j2), .second, s4, s5, s6, s7, s8, s9, s10, s11, .val (.ref o12), .val (.ref o13), s14, .val (.int i15), .val (.int i16), s17] [])) target := by
  obtain ⟨cl_o13, Ar_o13, q13, S13, N13_, H13, G13⟩ := id V13
  have hin872 : ¬ ((6 : Int32) < 0 ∨ cl_o13.slots.size ≤ ((6 : Int32)).toNatClampNeg) := inb_of S13 ⟨by decide, by decide⟩
  have hat872 : cl_o13.slots[((6 : Int32)).toNatClampNeg]? = some (.long 1000000) := H13.at hin872 rfl
  obtain ⟨_, _, ⟨T5, L5, k5, n5⟩, -, X5, ⟨Lc5, hQ5, l5, y5, z5⟩, st5⟩ := Jvm.LawKit.callS X0 hx (y := y_2) hown (zT hZ hw 247 rfl) (zT hZ hw 248 rfl) (zT hZ hw 245 rfl) (zT hZ hw 249 rfl) (by decide) (backOf (W := 0) (r45 l Z a0 hw [] i16 i15 (6 : Int32) o12 s_ nd 6 j2 (1000000 : Int64) es ke h0 n0 Z0 V12 he g_o12 hs54 (by decide) (by decide) h16 h15 rfl) hZ (zW hw 249 rfl) (zW hw 245 rfl) (by decide) (by decide)) (g := (mkF m 873 #[s0, s1, .val (.long j2), .second, s4, s5, s6, s7, s8, s9, s10, s11, .val (.ref o12), .val (.ref o13), s14, .val (.int i15), .val (.int i16), s17] [.long 1000000, (.long j2), .int 6, .int i15, .int i16, .ref o12])) rfl (by rw [hml]; rfl) (argsL := [.ref o12, .int i16, .int i15, .int 6, (.long j2), .long 1000000]) (rest := []) (lenOf pd_0_36 rfl) rfl (Nat.le_of_eq rfl) (hb hby at_873) (fun _ _ => ⟨rfl, e0, hcl, hsl⟩)
  dsimp only [Pt.U, Pt.locs, Pt.cells, Pt.slots] at X5 l5 y5 z5 st5 hQ5
  subst l5 y5 z5
  obtain ⟨rfl, N5q, K5, V5⟩ := hQ5
  have N5 := Fr.app N0 N5q
  refine ⟨T5, _, X5, N5, K5, V5, fun target kt => ?_⟩
  refine XS.aload X0.here hx rfl (hb hby at_859) rfl rfl ?_
  refine XS.iload X0.here hx rfl (hb hby at_861) rfl ?_
  refine XS.iload X0.here hx rfl (hb hby at_863) rfl ?_
  refine XS.bipush X0.here hx rfl (hb hby at_865) ?_
  refine XS.lloadN X0.here hx rfl (hb hby at_867) rfl ?_
  refine XS.aload X0.here hx rfl (hb hby at_868) rfl rfl ?_
  refine XS.bipush X0.here hx rfl (hb hby at_870) ?_
  refine X0.laload hx (j := (6 : Int32)) (v := (.long 1000000)) (by rw [e0]; exact Ar_o13.1) (State.isArrayOf_alike hZ.alike Ar_o13.2.1) Ar_o13.2.2 hin872 hat872 (g := (mkF m 872 #[s0, s1, .val (.long j2), .second, s4, s5, s6, s7, s8, s9, s10, s11, .val (.ref o12), .val (.ref o13), s14, .val (.int i15), .val (.int i16), s17] [.int 6, .ref o13, (.long j2), .int 6, .int i15, .int i16, .ref o12])) rfl rfl (hb hby at_872) _ ?_
  refine st5 _ ?_
  exact kt
theorem own_put7 {p : Program} {l : Launch} {e : Env} {s : State} {m : MethodId} {args : Array Value} {below : List Frame} {meth : Method} {c : Code} {T0 : State} {locs : List Loc} {cells slots : Nat} {Z : State} {a0 : Array Value} {h0 : Heap} (s0 : Slot) (s1 : Slot) (j2 : Int64) (s4 : Slot) (s5 : Slot) (s6 : Slot) (s7 : Slot) (s8 : Slot) (s9 : Slot) (s10 : Slot) (s11 : Slot) (o12 : Addr) (o13 : Addr) (s14 : Slot) (i15 : Int32) (i16 : Int32) (s17 : Slot) (s_ nd : Nat) (es : List Int32) (ke kp : ClassId) (n0 : Nat)
    (X0 : Stand p l e own_R0 s m args below meth c T0 locs cells slots) (hx : p.tables.exec = Jvm.exec) (hZ : Z.Warmed39 s.vm) (hw : zH Z a0) (hby : c.code = code) (hml : c.maxLocals = 18) (hown : s.vm.findClass "com/example/dealt/dealt/metrics/ExpositionCounterPinLaw" = some m.cls) (e0 : T0.heap = h0) (V12 : Arv Z h0 o12 ke .char (55 : Int32) (es.map Value.int) (.int 0)) (V13 : Arv Z h0 o13 kp .long (19 : Int32) (own_p.map Value.long) (.long 0)) (he : es.length = 55) (h16 : i16 = Int32.ofNat s_) (h15 : i15 = Int32.ofNat nd) (hs54 : s_ + nd ≤ 54) (g_o12 : n0 ≤ o12) (Z0 : n0 ≤ h0.size) (N0 : Fr n0 locs) (hcl : cells ≤ own_R0.cells) (hsl : slots ≤ own_R0.slots) :
    ∃ (T' : State) (locs' : List Loc), Stand p l e own_R0 s m args below meth c T' locs' cells slots ∧ Fr n0 locs' ∧ Keep h0 T'.heap [o12] ∧ Arv Z T'.heap o12 ke .char (55 : Int32) ((own_put es s_ nd 7 (own_ch j2 (10000000 : Int64))).map Value.int) (.int 0) ∧
      ∀ target, Steps p.tables e below (T'.setTop (mkF m 893 #[s0, s1, .val (.long j2), .second, s4, s5, s6, s7, s8, s9, s10, s11, .val (.ref o12), .val (.ref o13), s14, .val (.int i15), .val (.int i16), s17] [])) target → Steps p.tables e below (T0.setTop (mkF m 876 #[s0, s1, .val (.long j2), .second, s4, s5, s6, s7, s8, s9, s10, s11, .val (.ref o12), .val (.ref o13), s14, .val (.int i15), .val (.int i16), s17] [])) target := by
  obtain ⟨cl_o13, Ar_o13, q13, S13, N13_, H13, G13⟩ := id V13
  have hin889 : ¬ ((7 : Int32) < 0 ∨ cl_o13.slots.size ≤ ((7 : Int32)).toNatClampNeg) := inb_of S13 ⟨by decide, by decide⟩
  have hat889 : cl_o13.slots[((7 : Int32)).toNatClampNeg]? = some (.long 10000000) := H13.at hin889 rfl
  obtain ⟨_, _, ⟨T5, L5, k5, n5⟩, -, X5, ⟨Lc5, hQ5, l5, y5, z5⟩, st5⟩ := Jvm.LawKit.callS X0 hx (y := y_2) hown (zT hZ hw 247 rfl) (zT hZ hw 248 rfl) (zT hZ hw 245 rfl) (zT hZ hw 249 rfl) (by decide) (backOf (W := 0) (r45 l Z a0 hw [] i16 i15 (7 : Int32) o12 s_ nd 7 j2 (10000000 : Int64) es ke h0 n0 Z0 V12 he g_o12 hs54 (by decide) (by decide) h16 h15 rfl) hZ (zW hw 249 rfl) (zW hw 245 rfl) (by decide) (by decide)) (g := (mkF m 890 #[s0, s1, .val (.long j2), .second, s4, s5, s6, s7, s8, s9, s10, s11, .val (.ref o12), .val (.ref o13), s14, .val (.int i15), .val (.int i16), s17] [.long 10000000, (.long j2), .int 7, .int i15, .int i16, .ref o12])) rfl (by rw [hml]; rfl) (argsL := [.ref o12, .int i16, .int i15, .int 7, (.long j2), .long 10000000]) (rest := []) (lenOf pd_0_36 rfl) rfl (Nat.le_of_eq rfl) (hb hby at_890) (fun _ _ => ⟨rfl, e0, hcl, hsl⟩)
  dsimp only [Pt.U, Pt.locs, Pt.cells, Pt.slots] at X5 l5 y5 z5 st5 hQ5
  subst l5 y5 z5
  obtain ⟨rfl, N5q, K5, V5⟩ := hQ5
  have N5 := Fr.app N0 N5q
  refine ⟨T5, _, X5, N5, K5, V5, fun target kt => ?_⟩
  refine XS.aload X0.here hx rfl (hb hby at_876) rfl rfl ?_
  refine XS.iload X0.here hx rfl (hb hby at_878) rfl ?_
  refine XS.iload X0.here hx rfl (hb hby at_880) rfl ?_
  refine XS.bipush X0.here hx rfl (hb hby at_882) ?_
  refine XS.lloadN X0.here hx rfl (hb hby at_884) rfl ?_
  refine XS.aload X0.here hx rfl (hb hby at_885) rfl rfl ?_
  refine XS.bipush X0.here hx rfl (hb hby at_887) ?_
  refine X0.laload hx (j := (7 : Int32)) (v := (.long 10000000)) (by rw [e0]; exact Ar_o13.1) (State.isArrayOf_alike hZ.alike Ar_o13.2.1) Ar_o13.2.2 hin889 hat889 (g := (mkF m 889 #[s0, s1, .val (.long j2), .second, s4, s5, s6, s7, s8, s9, s10, s11, .val (.ref o12), .val (.ref o13), s14, .val (.int i15), .val (.int i16), s17] [.int 7, .ref o13, (.long j2), .int 7, .int i15, .int i16, .ref o12])) rfl rfl (hb hby at_889) _ ?_
  refine st5 _ ?_
  exact kt
theorem own_put8 {p : Program} {l : Launch} {e : Env} {s : State} {m : MethodId} {args : Array Value} {below : List Frame} {meth : Method} {c : Code} {T0 : State} {locs : List Loc} {cells slots : Nat} {Z : State} {a0 : Array Value} {h0 : Heap} (s0 : Slot) (s1 : Slot) (j2 : Int64) (s4 : Slot) (s5 : Slot) (s6 : Slot) (s7 : Slot) (s8 : Slot) (s9 : Slot) (s10 : Slot) (s11 : Slot) (o12 : Addr) (o13 : Addr) (s14 : Slot) (i15 : Int32) (i16 : Int32) (s17 : Slot) (s_ nd : Nat) (es : List Int32) (ke kp : ClassId) (n0 : Nat)
    (X0 : Stand p l e own_R0 s m args below meth c T0 locs cells slots) (hx : p.tables.exec = Jvm.exec) (hZ : Z.Warmed39 s.vm) (hw : zH Z a0) (hby : c.code = code) (hml : c.maxLocals = 18) (hown : s.vm.findClass "com/example/dealt/dealt/metrics/ExpositionCounterPinLaw" = some m.cls) (e0 : T0.heap = h0) (V12 : Arv Z h0 o12 ke .char (55 : Int32) (es.map Value.int) (.int 0)) (V13 : Arv Z h0 o13 kp .long (19 : Int32) (own_p.map Value.long) (.long 0)) (he : es.length = 55) (h16 : i16 = Int32.ofNat s_) (h15 : i15 = Int32.ofNat nd) (hs54 : s_ + nd ≤ 54) (g_o12 : n0 ≤ o12) (Z0 : n0 ≤ h0.size) (N0 : Fr n0 locs) (hcl : cells ≤ own_R0.cells) (hsl : slots ≤ own_R0.slots) :
    ∃ (T' : State) (locs' : List Loc), Stand p l e own_R0 s m args below meth c T' locs' cells slots ∧ Fr n0 locs' ∧ Keep h0 T'.heap [o12] ∧ Arv Z T'.heap o12 ke .char (55 : Int32) ((own_put es s_ nd 8 (own_ch j2 (100000000 : Int64))).map Value.int) (.int 0) ∧
      ∀ target, Steps p.tables e below (T'.setTop (mkF m 910 #[s0, s1, .val (.long j2), .second, s4, s5, s6, s7, s8, s9, s10, s11, .val (.ref o12), .val (.ref o13), s14, .val (.int i15), .val (.int i16), s17] [])) target → Steps p.tables e below (T0.setTop (mkF m 893 #[s0, s1, .val (.long j2), .second, s4, s5, s6, s7, s8, s9, s10, s11, .val (.ref o12), .val (.ref o13), s14, .val (.int i15), .val (.int i16), s17] [])) target := by
  obtain ⟨cl_o13, Ar_o13, q13, S13, N13_, H13, G13⟩ := id V13
  have hin906 : ¬ ((8 : Int32) < 0 ∨ cl_o13.slots.size ≤ ((8 : Int32)).toNatClampNeg) := inb_of S13 ⟨by decide, by decide⟩
  have hat906 : cl_o13.slots[((8 : Int32)).toNatClampNeg]? = some (.long 100000000) := H13.at hin906 rfl
  obtain ⟨_, _, ⟨T5, L5, k5, n5⟩, -, X5, ⟨Lc5, hQ5, l5, y5, z5⟩, st5⟩ := Jvm.LawKit.callS X0 hx (y := y_2) hown (zT hZ hw 247 rfl) (zT hZ hw 248 rfl) (zT hZ hw 245 rfl) (zT hZ hw 249 rfl) (by decide) (backOf (W := 0) (r45 l Z a0 hw [] i16 i15 (8 : Int32) o12 s_ nd 8 j2 (100000000 : Int64) es ke h0 n0 Z0 V12 he g_o12 hs54 (by decide) (by decide) h16 h15 rfl) hZ (zW hw 249 rfl) (zW hw 245 rfl) (by decide) (by decide)) (g := (mkF m 907 #[s0, s1, .val (.long j2), .second, s4, s5, s6, s7, s8, s9, s10, s11, .val (.ref o12), .val (.ref o13), s14, .val (.int i15), .val (.int i16), s17] [.long 100000000, (.long j2), .int 8, .int i15, .int i16, .ref o12])) rfl (by rw [hml]; rfl) (argsL := [.ref o12, .int i16, .int i15, .int 8, (.long j2), .long 100000000]) (rest := []) (lenOf pd_0_36 rfl) rfl (Nat.le_of_eq rfl) (hb hby at_907) (fun _ _ => ⟨rfl, e0, hcl, hsl⟩)
  dsimp only [Pt.U, Pt.locs, Pt.cells, Pt.slots] at X5 l5 y5 z5 st5 hQ5
  subst l5 y5 z5
  obtain ⟨rfl, N5q, K5, V5⟩ := hQ5
  have N5 := Fr.app N0 N5q
  refine ⟨T5, _, X5, N5, K5, V5, fun target kt => ?_⟩
  refine XS.aload X0.here hx rfl (hb hby at_893) rfl rfl ?_
  refine XS.iload X0.here hx rfl (hb hby at_895) rfl ?_
  refine XS.iload X0.here hx rfl (hb hby at_897) rfl ?_
  refine XS.bipush X0.here hx rfl (hb hby at_899) ?_
  refine XS.lloadN X0.here hx rfl (hb hby at_901) rfl ?_
  refine XS.aload X0.here hx rfl (hb hby at_902) rfl rfl ?_
  refine XS.bipush X0.here hx rfl (hb hby at_904) ?_
  refine X0.laload hx (j := (8 : Int32)) (v := (.long 100000000)) (by rw [e0]; exact Ar_o13.1) (State.isArrayOf_alike hZ.alike Ar_o13.2.1) Ar_o13.2.2 hin906 hat906 (g := (mkF m 906 #[s0, s1, .val (.long j2), .second, s4, s5, s6, s7, s8, s9, s10, s11, .val (.ref o12), .val (.ref o13), s14, .val (.int i15), .val (.int i16), s17] [.int 8, .ref o13, (.long j2), .int 8, .int i15, .int i16, .ref o12])) rfl rfl (hb hby at_906) _ ?_
  refine st5 _ ?_
  exact kt
theorem own_put9 {p : Program} {l : Launch} {e : Env} {s : State} {m : MethodId} {args : Array Value} {below : List Frame} {meth : Method} {c : Code} {T0 : State} {locs : List Loc} {cells slots : Nat} {Z : State} {a0 : Array Value} {h0 : Heap} (s0 : Slot) (s1 : Slot) (j2 : Int64) (s4 : Slot) (s5 : Slot) (s6 : Slot) (s7 : Slot) (s8 : Slot) (s9 : Slot) (s10 : Slot) (s11 : Slot) (o12 : Addr) (o13 : Addr) (s14 : Slot) (i15 : Int32) (i16 : Int32) (s17 : Slot) (s_ nd : Nat) (es : List Int32) (ke kp : ClassId) (n0 : Nat)
    (X0 : Stand p l e own_R0 s m args below meth c T0 locs cells slots) (hx : p.tables.exec = Jvm.exec) (hZ : Z.Warmed39 s.vm) (hw : zH Z a0) (hby : c.code = code) (hml : c.maxLocals = 18) (hown : s.vm.findClass "com/example/dealt/dealt/metrics/ExpositionCounterPinLaw" = some m.cls) (e0 : T0.heap = h0) (V12 : Arv Z h0 o12 ke .char (55 : Int32) (es.map Value.int) (.int 0)) (V13 : Arv Z h0 o13 kp .long (19 : Int32) (own_p.map Value.long) (.long 0)) (he : es.length = 55) (h16 : i16 = Int32.ofNat s_) (h15 : i15 = Int32.ofNat nd) (hs54 : s_ + nd ≤ 54) (g_o12 : n0 ≤ o12) (Z0 : n0 ≤ h0.size) (N0 : Fr n0 locs) (hcl : cells ≤ own_R0.cells) (hsl : slots ≤ own_R0.slots) :
    ∃ (T' : State) (locs' : List Loc), Stand p l e own_R0 s m args below meth c T' locs' cells slots ∧ Fr n0 locs' ∧ Keep h0 T'.heap [o12] ∧ Arv Z T'.heap o12 ke .char (55 : Int32) ((own_put es s_ nd 9 (own_ch j2 (1000000000 : Int64))).map Value.int) (.int 0) ∧
      ∀ target, Steps p.tables e below (T'.setTop (mkF m 927 #[s0, s1, .val (.long j2), .second, s4, s5, s6, s7, s8, s9, s10, s11, .val (.ref o12), .val (.ref o13), s14, .val (.int i15), .val (.int i16), s17] [])) target → Steps p.tables e below (T0.setTop (mkF m 910 #[s0, s1, .val (.long j2), .second, s4, s5, s6, s7, s8, s9, s10, s11, .val (.ref o12), .val (.ref o13), s14, .val (.int i15), .val (.int i16), s17] [])) target := by
  obtain ⟨cl_o13, Ar_o13, q13, S13, N13_, H13, G13⟩ := id V13
  have hin923 : ¬ ((9 : Int32) < 0 ∨ cl_o13.slots.size ≤ ((9 : Int32)).toNatClampNeg) := inb_of S13 ⟨by decide, by decide⟩
  have hat923 : cl_o13.slots[((9 : Int32)).toNatClampNeg]? = some (.long 1000000000) := H13.at hin923 rfl
  obtain ⟨_, _, ⟨T5, L5, k5, n5⟩, -, X5, ⟨Lc5, hQ5, l5, y5, z5⟩, st5⟩ := Jvm.LawKit.callS X0 hx (y := y_2) hown (zT hZ hw 247 rfl) (zT hZ hw 248 rfl) (zT hZ hw 245 rfl) (zT hZ hw 249 rfl) (by decide) (backOf (W := 0) (r45 l Z a0 hw [] i16 i15 (9 : Int32) o12 s_ nd 9 j2 (1000000000 : Int64) es ke h0 n0 Z0 V12 he g_o12 hs54 (by decide) (by decide) h16 h15 rfl) hZ (zW hw 249 rfl) (zW hw 245 rfl) (by decide) (by decide)) (g := (mkF m 924 #[s0, s1, .val (.long j2), .second, s4, s5, s6, s7, s8, s9, s10, s11, .val (.ref o12), .val (.ref o13), s14, .val (.int i15), .val (.int i16), s17] [.long 1000000000, (.long j2), .int 9, .int i15, .int i16, .ref o12])) rfl (by rw [hml]; rfl) (argsL := [.ref o12, .int i16, .int i15, .int 9, (.long j2), .long 1000000000]) (rest := []) (lenOf pd_0_36 rfl) rfl (Nat.le_of_eq rfl) (hb hby at_924) (fun _ _ => ⟨rfl, e0, hcl, hsl⟩)
  dsimp only [Pt.U, Pt.locs, Pt.cells, Pt.slots] at X5 l5 y5 z5 st5 hQ5
  subst l5 y5 z5
  obtain ⟨rfl, N5q, K5, V5⟩ := hQ5
  have N5 := Fr.app N0 N5q
  refine ⟨T5, _, X5, N5, K5, V5, fun target kt => ?_⟩
  refine XS.aload X0.here hx rfl (hb hby at_910) rfl rfl ?_
  refine XS.iload X0.here hx rfl (hb hby at_912) rfl ?_
  refine XS.iload X0.here hx rfl (hb hby at_914) rfl ?_
  refine XS.bipush X0.here hx rfl (hb hby at_916) ?_
  refine XS.lloadN X0.here hx rfl (hb hby at_918) rfl ?_
  refine XS.aload X0.here hx rfl (hb hby at_919) rfl rfl ?_
  refine XS.bipush X0.here hx rfl (hb hby at_921) ?_
  refine X0.laload hx (j := (9 : Int32)) (v := (.long 1000000000)) (by rw [e0]; exact Ar_o13.1) (State.isArrayOf_alike hZ.alike Ar_o13.2.1) Ar_o13.2.2 hin923 hat923 (g := (mkF m 923 #[s0, s1, .val (.long j2), .second, s4, s5, s6, s7, s8, s9, s10, s11, .val (.ref o12), .val (.ref o13), s14, .val (.int i15), .val (.int i16), s17] [.int 9, .ref o13, (.long j2), .int 9, .int i15, .int i16, .ref o12])) rfl rfl (hb hby at_923) _ ?_
  refine st5 _ ?_
  exact kt
theorem own_put10 {p : Program} {l : Launch} {e : Env} {s : State} {m : MethodId} {args : Array Value} {below : List Frame} {meth : Method} {c : Code} {T0 : State} {locs : List Loc} {cells slots : Nat} {Z : State} {a0 : Array Value} {h0 : Heap} (s0 : Slot) (s1 : Slot) (j2 : Int64) (s4 : Slot) (s5 : Slot) (s6 : Slot) (s7 : Slot) (s8 : Slot) (s9 : Slot) (s10 : Slot) (s11 : Slot) (o12 : Addr) (o13 : Addr) (s14 : Slot) (i15 : Int32) (i16 : Int32) (s17 : Slot) (s_ nd : Nat) (es : List Int32) (ke kp : ClassId) (n0 : Nat)
    (X0 : Stand p l e own_R0 s m args below meth c T0 locs cells slots) (hx : p.tables.exec = Jvm.exec) (hZ : Z.Warmed39 s.vm) (hw : zH Z a0) (hby : c.code = code) (hml : c.maxLocals = 18) (hown : s.vm.findClass "com/example/dealt/dealt/metrics/ExpositionCounterPinLaw" = some m.cls) (e0 : T0.heap = h0) (V12 : Arv Z h0 o12 ke .char (55 : Int32) (es.map Value.int) (.int 0)) (V13 : Arv Z h0 o13 kp .long (19 : Int32) (own_p.map Value.long) (.long 0)) (he : es.length = 55) (h16 : i16 = Int32.ofNat s_) (h15 : i15 = Int32.ofNat nd) (hs54 : s_ + nd ≤ 54) (g_o12 : n0 ≤ o12) (Z0 : n0 ≤ h0.size) (N0 : Fr n0 locs) (hcl : cells ≤ own_R0.cells) (hsl : slots ≤ own_R0.slots) :
    ∃ (T' : State) (locs' : List Loc), Stand p l e own_R0 s m args below meth c T' locs' cells slots ∧ Fr n0 locs' ∧ Keep h0 T'.heap [o12] ∧ Arv Z T'.heap o12 ke .char (55 : Int32) ((own_put es s_ nd 10 (own_ch j2 (10000000000 : Int64))).map Value.int) (.int 0) ∧
      ∀ target, Steps p.tables e below (T'.setTop (mkF m 944 #[s0, s1, .val (.long j2), .second, s4, s5, s6, s7, s8, s9, s10, s11, .val (.ref o12), .val (.ref o13), s14, .val (.int i15), .val (.int i16), s17] [])) target → Steps p.tables e below (T0.setTop (mkF m 927 #[s0, s1, .val (.long j2), .second, s4, s5, s6, s7, s8, s9, s10, s11, .val (.ref o12), .val (.ref o13), s14, .val (.int i15), .val (.int i16), s17] [])) target := by
  obtain ⟨cl_o13, Ar_o13, q13, S13, N13_, H13, G13⟩ := id V13
  have hin940 : ¬ ((10 : Int32) < 0 ∨ cl_o13.slots.size ≤ ((10 : Int32)).toNatClampNeg) := inb_of S13 ⟨by decide, by decide⟩
  have hat940 : cl_o13.slots[((10 : Int32)).toNatClampNeg]? = some (.long 10000000000) := H13.at hin940 rfl
  obtain ⟨_, _, ⟨T5, L5, k5, n5⟩, -, X5, ⟨Lc5, hQ5, l5, y5, z5⟩, st5⟩ := Jvm.LawKit.callS X0 hx (y := y_2) hown (zT hZ hw 247 rfl) (zT hZ hw 248 rfl) (zT hZ hw 245 rfl) (zT hZ hw 249 rfl) (by decide) (backOf (W := 0) (r45 l Z a0 hw [] i16 i15 (10 : Int32) o12 s_ nd 10 j2 (10000000000 : Int64) es ke h0 n0 Z0 V12 he g_o12 hs54 (by decide) (by decide) h16 h15 rfl) hZ (zW hw 249 rfl) (zW hw 245 rfl) (by decide) (by decide)) (g := (mkF m 941 #[s0, s1, .val (.long j2), .second, s4, s5, s6, s7, s8, s9, s10, s11, .val (.ref o12), .val (.ref o13), s14, .val (.int i15), .val (.int i16), s17] [.long 10000000000, (.long j2), .int 10, .int i15, .int i16, .ref o12])) rfl (by rw [hml]; rfl) (argsL := [.ref o12, .int i16, .int i15, .int 10, (.long j2), .long 10000000000]) (rest := []) (lenOf pd_0_36 rfl) rfl (Nat.le_of_eq rfl) (hb hby at_941) (fun _ _ => ⟨rfl, e0, hcl, hsl⟩)
  dsimp only [Pt.U, Pt.locs, Pt.cells, Pt.slots] at X5 l5 y5 z5 st5 hQ5
  subst l5 y5 z5
  obtain ⟨rfl, N5q, K5, V5⟩ := hQ5
  have N5 := Fr.app N0 N5q
  refine ⟨T5, _, X5, N5, K5, V5, fun target kt => ?_⟩
  refine XS.aload X0.here hx rfl (hb hby at_927) rfl rfl ?_
  refine XS.iload X0.here hx rfl (hb hby at_929) rfl ?_
  refine XS.iload X0.here hx rfl (hb hby at_931) rfl ?_
  refine XS.bipush X0.here hx rfl (hb hby at_933) ?_
  refine XS.lloadN X0.here hx rfl (hb hby at_935) rfl ?_
  refine XS.aload X0.here hx rfl (hb hby at_936) rfl rfl ?_
  refine XS.bipush X0.here hx rfl (hb hby at_938) ?_
  refine X0.laload hx (j := (10 : Int32)) (v := (.long 10000000000)) (by rw [e0]; exact Ar_o13.1) (State.isArrayOf_alike hZ.alike Ar_o13.2.1) Ar_o13.2.2 hin940 hat940 (g := (mkF m 940 #[s0, s1, .val (.long j2), .second, s4, s5, s6, s7, s8, s9, s10, s11, .val (.ref o12), .val (.ref o13), s14, .val (.int i15), .val (.int i16), s17] [.int 10, .ref o13, (.long j2), .int 10, .int i15, .int i16, .ref o12])) rfl rfl (hb hby at_940) _ ?_
  refine st5 _ ?_
  exact kt
theorem own_put11 {p : Program} {l : Launch} {e : Env} {s : State} {m : MethodId} {args : Array Value} {below : List Frame} {meth : Method} {c : Code} {T0 : State} {locs : List Loc} {cells slots : Nat} {Z : State} {a0 : Array Value} {h0 : Heap} (s0 : Slot) (s1 : Slot) (j2 : Int64) (s4 : Slot) (s5 : Slot) (s6 : Slot) (s7 : Slot) (s8 : Slot) (s9 : Slot) (s10 : Slot) (s11 : Slot) (o12 : Addr) (o13 : Addr) (s14 : Slot) (i15 : Int32) (i16 : Int32) (s17 : Slot) (s_ nd : Nat) (es : List Int32) (ke kp : ClassId) (n0 : Nat)
    (X0 : Stand p l e own_R0 s m args below meth c T0 locs cells slots) (hx : p.tables.exec = Jvm.exec) (hZ : Z.Warmed39 s.vm) (hw : zH Z a0) (hby : c.code = code) (hml : c.maxLocals = 18) (hown : s.vm.findClass "com/example/dealt/dealt/metrics/ExpositionCounterPinLaw" = some m.cls) (e0 : T0.heap = h0) (V12 : Arv Z h0 o12 ke .char (55 : Int32) (es.map Value.int) (.int 0)) (V13 : Arv Z h0 o13 kp .long (19 : Int32) (own_p.map Value.long) (.long 0)) (he : es.length = 55) (h16 : i16 = Int32.ofNat s_) (h15 : i15 = Int32.ofNat nd) (hs54 : s_ + nd ≤ 54) (g_o12 : n0 ≤ o12) (Z0 : n0 ≤ h0.size) (N0 : Fr n0 locs) (hcl : cells ≤ own_R0.cells) (hsl : slots ≤ own_R0.slots) :
    ∃ (T' : State) (locs' : List Loc), Stand p l e own_R0 s m args below meth c T' locs' cells slots ∧ Fr n0 locs' ∧ Keep h0 T'.heap [o12] ∧ Arv Z T'.heap o12 ke .char (55 : Int32) ((own_put es s_ nd 11 (own_ch j2 (100000000000 : Int64))).map Value.int) (.int 0) ∧
      ∀ target, Steps p.tables e below (T'.setTop (mkF m 961 #[s0, s1, .val (.long j2), .second, s4, s5, s6, s7, s8, s9, s10, s11, .val (.ref o12), .val (.ref o13), s14, .val (.int i15), .val (.int i16), s17] [])) target → Steps p.tables e below (T0.setTop (mkF m 944 #[s0, s1, .val (.long j2), .second, s4, s5, s6, s7, s8, s9, s10, s11, .val (.ref o12), .val (.ref o13), s14, .val (.int i15), .val (.int i16), s17] [])) target := by
  obtain ⟨cl_o13, Ar_o13, q13, S13, N13_, H13, G13⟩ := id V13
  have hin957 : ¬ ((11 : Int32) < 0 ∨ cl_o13.slots.size ≤ ((11 : Int32)).toNatClampNeg) := inb_of S13 ⟨by decide, by decide⟩
  have hat957 : cl_o13.slots[((11 : Int32)).toNatClampNeg]? = some (.long 100000000000) := H13.at hin957 rfl
  obtain ⟨_, _, ⟨T5, L5, k5, n5⟩, -, X5, ⟨Lc5, hQ5, l5, y5, z5⟩, st5⟩ := Jvm.LawKit.callS X0 hx (y := y_2) hown (zT hZ hw 247 rfl) (zT hZ hw 248 rfl) (zT hZ hw 245 rfl) (zT hZ hw 249 rfl) (by decide) (backOf (W := 0) (r45 l Z a0 hw [] i16 i15 (11 : Int32) o12 s_ nd 11 j2 (100000000000 : Int64) es ke h0 n0 Z0 V12 he g_o12 hs54 (by decide) (by decide) h16 h15 rfl) hZ (zW hw 249 rfl) (zW hw 245 rfl) (by decide) (by decide)) (g := (mkF m 958 #[s0, s1, .val (.long j2), .second, s4, s5, s6, s7, s8, s9, s10, s11, .val (.ref o12), .val (.ref o13), s14, .val (.int i15), .val (.int i16), s17] [.long 100000000000, (.long j2), .int 11, .int i15, .int i16, .ref o12])) rfl (by rw [hml]; rfl) (argsL := [.ref o12, .int i16, .int i15, .int 11, (.long j2), .long 100000000000]) (rest := []) (lenOf pd_0_36 rfl) rfl (Nat.le_of_eq rfl) (hb hby at_958) (fun _ _ => ⟨rfl, e0, hcl, hsl⟩)
  dsimp only [Pt.U, Pt.locs, Pt.cells, Pt.slots] at X5 l5 y5 z5 st5 hQ5
  subst l5 y5 z5
  obtain ⟨rfl, N5q, K5, V5⟩ := hQ5
  have N5 := Fr.app N0 N5q
  refine ⟨T5, _, X5, N5, K5, V5, fun target kt => ?_⟩
  refine XS.aload X0.here hx rfl (hb hby at_944) rfl rfl ?_
  refine XS.iload X0.here hx rfl (hb hby at_946) rfl ?_
  refine XS.iload X0.here hx rfl (hb hby at_948) rfl ?_
  refine XS.bipush X0.here hx rfl (hb hby at_950) ?_
  refine XS.lloadN X0.here hx rfl (hb hby at_952) rfl ?_
  refine XS.aload X0.here hx rfl (hb hby at_953) rfl rfl ?_
  refine XS.bipush X0.here hx rfl (hb hby at_955) ?_
  refine X0.laload hx (j := (11 : Int32)) (v := (.long 100000000000)) (by rw [e0]; exact Ar_o13.1) (State.isArrayOf_alike hZ.alike Ar_o13.2.1) Ar_o13.2.2 hin957 hat957 (g := (mkF m 957 #[s0, s1, .val (.long j2), .second, s4, s5, s6, s7, s8, s9, s10, s11, .val (.ref o12), .val (.ref o13), s14, .val (.int i15), .val (.int i16), s17] [.int 11, .ref o13, (.long j2), .int 11, .int i15, .int i16, .ref o12])) rfl rfl (hb hby at_957) _ ?_
  refine st5 _ ?_
  exact kt
theorem own_put12 {p : Program} {l : Launch} {e : Env} {s : State} {m : MethodId} {args : Array Value} {below : List Frame} {meth : Method} {c : Code} {T0 : State} {locs : List Loc} {cells slots : Nat} {Z : State} {a0 : Array Value} {h0 : Heap} (s0 : Slot) (s1 : Slot) (j2 : Int64) (s4 : Slot) (s5 : Slot) (s6 : Slot) (s7 : Slot) (s8 : Slot) (s9 : Slot) (s10 : Slot) (s11 : Slot) (o12 : Addr) (o13 : Addr) (s14 : Slot) (i15 : Int32) (i16 : Int32) (s17 : Slot) (s_ nd : Nat) (es : List Int32) (ke kp : ClassId) (n0 : Nat)
    (X0 : Stand p l e own_R0 s m args below meth c T0 locs cells slots) (hx : p.tables.exec = Jvm.exec) (hZ : Z.Warmed39 s.vm) (hw : zH Z a0) (hby : c.code = code) (hml : c.maxLocals = 18) (hown : s.vm.findClass "com/example/dealt/dealt/metrics/ExpositionCounterPinLaw" = some m.cls) (e0 : T0.heap = h0) (V12 : Arv Z h0 o12 ke .char (55 : Int32) (es.map Value.int) (.int 0)) (V13 : Arv Z h0 o13 kp .long (19 : Int32) (own_p.map Value.long) (.long 0)) (he : es.length = 55) (h16 : i16 = Int32.ofNat s_) (h15 : i15 = Int32.ofNat nd) (hs54 : s_ + nd ≤ 54) (g_o12 : n0 ≤ o12) (Z0 : n0 ≤ h0.size) (N0 : Fr n0 locs) (hcl : cells ≤ own_R0.cells) (hsl : slots ≤ own_R0.slots) :
    ∃ (T' : State) (locs' : List Loc), Stand p l e own_R0 s m args below meth c T' locs' cells slots ∧ Fr n0 locs' ∧ Keep h0 T'.heap [o12] ∧ Arv Z T'.heap o12 ke .char (55 : Int32) ((own_put es s_ nd 12 (own_ch j2 (1000000000000 : Int64))).map Value.int) (.int 0) ∧
      ∀ target, Steps p.tables e below (T'.setTop (mkF m 978 #[s0, s1, .val (.long j2), .second, s4, s5, s6, s7, s8, s9, s10, s11, .val (.ref o12), .val (.ref o13), s14, .val (.int i15), .val (.int i16), s17] [])) target → Steps p.tables e below (T0.setTop (mkF m 961 #[s0, s1, .val (.long j2), .second, s4, s5, s6, s7, s8, s9, s10, s11, .val (.ref o12), .val (.ref o13), s14, .val (.int i15), .val (.int i16), s17] [])) target := by
  obtain ⟨cl_o13, Ar_o13, q13, S13, N13_, H13, G13⟩ := id V13
  have hin974 : ¬ ((12 : Int32) < 0 ∨ cl_o13.slots.size ≤ ((12 : Int32)).toNatClampNeg) := inb_of S13 ⟨by decide, by decide⟩
  have hat974 : cl_o13.slots[((12 : Int32)).toNatClampNeg]? = some (.long 1000000000000) := H13.at hin974 rfl
  obtain ⟨_, _, ⟨T5, L5, k5, n5⟩, -, X5, ⟨Lc5, hQ5, l5, y5, z5⟩, st5⟩ := Jvm.LawKit.callS X0 hx (y := y_2) hown (zT hZ hw 247 rfl) (zT hZ hw 248 rfl) (zT hZ hw 245 rfl) (zT hZ hw 249 rfl) (by decide) (backOf (W := 0) (r45 l Z a0 hw [] i16 i15 (12 : Int32) o12 s_ nd 12 j2 (1000000000000 : Int64) es ke h0 n0 Z0 V12 he g_o12 hs54 (by decide) (by decide) h16 h15 rfl) hZ (zW hw 249 rfl) (zW hw 245 rfl) (by decide) (by decide)) (g := (mkF m 975 #[s0, s1, .val (.long j2), .second, s4, s5, s6, s7, s8, s9, s10, s11, .val (.ref o12), .val (.ref o13), s14, .val (.int i15), .val (.int i16), s17] [.long 1000000000000, (.long j2), .int 12, .int i15, .int i16, .ref o12])) rfl (by rw [hml]; rfl) (argsL := [.ref o12, .int i16, .int i15, .int 12, (.long j2), .long 1000000000000]) (rest := []) (lenOf pd_0_36 rfl) rfl (Nat.le_of_eq rfl) (hb hby at_975) (fun _ _ => ⟨rfl, e0, hcl, hsl⟩)
  dsimp only [Pt.U, Pt.locs, Pt.cells, Pt.slots] at X5 l5 y5 z5 st5 hQ5
  subst l5 y5 z5
  obtain ⟨rfl, N5q, K5, V5⟩ := hQ5
  have N5 := Fr.app N0 N5q
  refine ⟨T5, _, X5, N5, K5, V5, fun target kt => ?_⟩
  refine XS.aload X0.here hx rfl (hb hby at_961) rfl rfl ?_
  refine XS.iload X0.here hx rfl (hb hby at_963) rfl ?_
  refine XS.iload X0.here hx rfl (hb hby at_965) rfl ?_
  refine XS.bipush X0.here hx rfl (hb hby at_967) ?_
  refine XS.lloadN X0.here hx rfl (hb hby at_969) rfl ?_
  refine XS.aload X0.here hx rfl (hb hby at_970) rfl rfl ?_
  refine XS.bipush X0.here hx rfl (hb hby at_972) ?_
  refine X0.laload hx (j := (12 : Int32)) (v := (.long 1000000000000)) (by rw [e0]; exact Ar_o13.1) (State.isArrayOf_alike hZ.alike Ar_o13.2.1) Ar_o13.2.2 hin974 hat974 (g := (mkF m 974 #[s0, s1, .val (.long j2), .second, s4, s5, s6, s7, s8, s9, s10, s11, .val (.ref o12), .val (.ref o13), s14, .val (.int i15), .val (.int i16), s17] [.int 12, .ref o13, (.long j2), .int 12, .int i15, .int i16, .ref o12])) rfl rfl (hb hby at_974) _ ?_
  refine st5 _ ?_
  exact kt
theorem own_put13 {p : Program} {l : Launch} {e : Env} {s : State} {m : MethodId} {args : Array Value} {below : List Frame} {meth : Method} {c : Code} {T0 : State} {locs : List Loc} {cells slots : Nat} {Z : State} {a0 : Array Value} {h0 : Heap} (s0 : Slot) (s1 : Slot) (j2 : Int64) (s4 : Slot) (s5 : Slot) (s6 : Slot) (s7 : Slot) (s8 : Slot) (s9 : Slot) (s10 : Slot) (s11 : Slot) (o12 : Addr) (o13 : Addr) (s14 : Slot) (i15 : Int32) (i16 : Int32) (s17 : Slot) (s_ nd : Nat) (es : List Int32) (ke kp : ClassId) (n0 : Nat)
    (X0 : Stand p l e own_R0 s m args below meth c T0 locs cells slots) (hx : p.tables.exec = Jvm.exec) (hZ : Z.Warmed39 s.vm) (hw : zH Z a0) (hby : c.code = code) (hml : c.maxLocals = 18) (hown : s.vm.findClass "com/example/dealt/dealt/metrics/ExpositionCounterPinLaw" = some m.cls) (e0 : T0.heap = h0) (V12 : Arv Z h0 o12 ke .char (55 : Int32) (es.map Value.int) (.int 0)) (V13 : Arv Z h0 o13 kp .long (19 : Int32) (own_p.map Value.long) (.long 0)) (he : es.length = 55) (h16 : i16 = Int32.ofNat s_) (h15 : i15 = Int32.ofNat nd) (hs54 : s_ + nd ≤ 54) (g_o12 : n0 ≤ o12) (Z0 : n0 ≤ h0.size) (N0 : Fr n0 locs) (hcl : cells ≤ own_R0.cells) (hsl : slots ≤ own_R0.slots) :
    ∃ (T' : State) (locs' : List Loc), Stand p l e own_R0 s m args below meth c T' locs' cells slots ∧ Fr n0 locs' ∧ Keep h0 T'.heap [o12] ∧ Arv Z T'.heap o12 ke .char (55 : Int32) ((own_put es s_ nd 13 (own_ch j2 (10000000000000 : Int64))).map Value.int) (.int 0) ∧
      ∀ target, Steps p.tables e below (T'.setTop (mkF m 995 #[s0, s1, .val (.long j2), .second, s4, s5, s6, s7, s8, s9, s10, s11, .val (.ref o12), .val (.ref o13), s14, .val (.int i15), .val (.int i16), s17] [])) target → Steps p.tables e below (T0.setTop (mkF m 978 #[s0, s1, .val (.long j2), .second, s4, s5, s6, s7, s8, s9, s10, s11, .val (.ref o12), .val (.ref o13), s14, .val (.int i15), .val (.int i16), s17] [])) target := by
  obtain ⟨cl_o13, Ar_o13, q13, S13, N13_, H13, G13⟩ := id V13
  have hin991 : ¬ ((13 : Int32) < 0 ∨ cl_o13.slots.size ≤ ((13 : Int32)).toNatClampNeg) := inb_of S13 ⟨by decide, by decide⟩
  have hat991 : cl_o13.slots[((13 : Int32)).toNatClampNeg]? = some (.long 10000000000000) := H13.at hin991 rfl
  obtain ⟨_, _, ⟨T5, L5, k5, n5⟩, -, X5, ⟨Lc5, hQ5, l5, y5, z5⟩, st5⟩ := Jvm.LawKit.callS X0 hx (y := y_2) hown (zT hZ hw 247 rfl) (zT hZ hw 248 rfl) (zT hZ hw 245 rfl) (zT hZ hw 249 rfl) (by decide) (backOf (W := 0) (r45 l Z a0 hw [] i16 i15 (13 : Int32) o12 s_ nd 13 j2 (10000000000000 : Int64) es ke h0 n0 Z0 V12 he g_o12 hs54 (by decide) (by decide) h16 h15 rfl) hZ (zW hw 249 rfl) (zW hw 245 rfl) (by decide) (by decide)) (g := (mkF m 992 #[s0, s1, .val (.long j2), .second, s4, s5, s6, s7, s8, s9, s10, s11, .val (.ref o12), .val (.ref o13), s14, .val (.int i15), .val (.int i16), s17] [.long 10000000000000, (.long j2), .int 13, .int i15, .int i16, .ref o12])) rfl (by rw [hml]; rfl) (argsL := [.ref o12, .int i16, .int i15, .int 13, (.long j2), .long 10000000000000]) (rest := []) (lenOf pd_0_36 rfl) rfl (Nat.le_of_eq rfl) (hb hby at_992) (fun _ _ => ⟨rfl, e0, hcl, hsl⟩)
  dsimp only [Pt.U, Pt.locs, Pt.cells, Pt.slots] at X5 l5 y5 z5 st5 hQ5
  subst l5 y5 z5
  obtain ⟨rfl, N5q, K5, V5⟩ := hQ5
  have N5 := Fr.app N0 N5q
  refine ⟨T5, _, X5, N5, K5, V5, fun target kt => ?_⟩
  refine XS.aload X0.here hx rfl (hb hby at_978) rfl rfl ?_
  refine XS.iload X0.here hx rfl (hb hby at_980) rfl ?_
  refine XS.iload X0.here hx rfl (hb hby at_982) rfl ?_
  refine XS.bipush X0.here hx rfl (hb hby at_984) ?_
  refine XS.lloadN X0.here hx rfl (hb hby at_986) rfl ?_
  refine XS.aload X0.here hx rfl (hb hby at_987) rfl rfl ?_
  refine XS.bipush X0.here hx rfl (hb hby at_989) ?_
  refine X0.laload hx (j := (13 : Int32)) (v := (.long 10000000000000)) (by rw [e0]; exact Ar_o13.1) (State.isArrayOf_alike hZ.alike Ar_o13.2.1) Ar_o13.2.2 hin991 hat991 (g := (mkF m 991 #[s0, s1, .val (.long j2), .second, s4, s5, s6, s7, s8, s9, s10, s11, .val (.ref o12), .val (.ref o13), s14, .val (.int i15), .val (.int i16), s17] [.int 13, .ref o13, (.long j2), .int 13, .int i15, .int i16, .ref o12])) rfl rfl (hb hby at_991) _ ?_
  refine st5 _ ?_
  exact kt
theorem own_put14 {p : Program} {l : Launch} {e : Env} {s : State} {m : MethodId} {args : Array Value} {below : List Frame} {meth : Method} {c : Code} {T0 : State} {locs : List Loc} {cells slots : Nat} {Z : State} {a0 : Array Value} {h0 : Heap} (s0 : Slot) (s1 : Slot) (j2 : Int64) (s4 : Slot) (s5 : Slot) (s6 : Slot) (s7 : Slot) (s8 : Slot) (s9 : Slot) (s10 : Slot) (s11 : Slot) (o12 : Addr) (o13 : Addr) (s14 : Slot) (i15 : Int32) (i16 : Int32) (s17 : Slot) (s_ nd : Nat) (es : List Int32) (ke kp : ClassId) (n0 : Nat)
    (X0 : Stand p l e own_R0 s m args below meth c T0 locs cells slots) (hx : p.tables.exec = Jvm.exec) (hZ : Z.Warmed39 s.vm) (hw : zH Z a0) (hby : c.code = code) (hml : c.maxLocals = 18) (hown : s.vm.findClass "com/example/dealt/dealt/metrics/ExpositionCounterPinLaw" = some m.cls) (e0 : T0.heap = h0) (V12 : Arv Z h0 o12 ke .char (55 : Int32) (es.map Value.int) (.int 0)) (V13 : Arv Z h0 o13 kp .long (19 : Int32) (own_p.map Value.long) (.long 0)) (he : es.length = 55) (h16 : i16 = Int32.ofNat s_) (h15 : i15 = Int32.ofNat nd) (hs54 : s_ + nd ≤ 54) (g_o12 : n0 ≤ o12) (Z0 : n0 ≤ h0.size) (N0 : Fr n0 locs) (hcl : cells ≤ own_R0.cells) (hsl : slots ≤ own_R0.slots) :
    ∃ (T' : State) (locs' : List Loc), Stand p l e own_R0 s m args below meth c T' locs' cells slots ∧ Fr n0 locs' ∧ Keep h0 T'.heap [o12] ∧ Arv Z T'.heap o12 ke .char (55 : Int32) ((own_put es s_ nd 14 (own_ch j2 (100000000000000 : Int64))).map Value.int) (.int 0) ∧
      ∀ target, Steps p.tables e below (T'.setTop (mkF m 1012 #[s0, s1, .val (.long j2), .second, s4, s5, s6, s7, s8, s9, s10, s11, .val (.ref o12), .val (.ref o13), s14, .val (.int i15), .val (.int i16), s17] [])) target → Steps p.tables e below (T0.setTop (mkF m 995 #[s0, s1, .val (.long j2), .second, s4, s5, s6, s7, s8, s9, s10, s11, .val (.ref o12), .val (.ref o13), s14, .val (.int i15), .val (.int i16), s17] [])) target := by
  obtain ⟨cl_o13, Ar_o13, q13, S13, N13_, H13, G13⟩ := id V13
  have hin1008 : ¬ ((14 : Int32) < 0 ∨ cl_o13.slots.size ≤ ((14 : Int32)).toNatClampNeg) := inb_of S13 ⟨by decide, by decide⟩
  have hat1008 : cl_o13.slots[((14 : Int32)).toNatClampNeg]? = some (.long 100000000000000) := H13.at hin1008 rfl
  obtain ⟨_, _, ⟨T5, L5, k5, n5⟩, -, X5, ⟨Lc5, hQ5, l5, y5, z5⟩, st5⟩ := Jvm.LawKit.callS X0 hx (y := y_2) hown (zT hZ hw 247 rfl) (zT hZ hw 248 rfl) (zT hZ hw 245 rfl) (zT hZ hw 249 rfl) (by decide) (backOf (W := 0) (r45 l Z a0 hw [] i16 i15 (14 : Int32) o12 s_ nd 14 j2 (100000000000000 : Int64) es ke h0 n0 Z0 V12 he g_o12 hs54 (by decide) (by decide) h16 h15 rfl) hZ (zW hw 249 rfl) (zW hw 245 rfl) (by decide) (by decide)) (g := (mkF m 1009 #[s0, s1, .val (.long j2), .second, s4, s5, s6, s7, s8, s9, s10, s11, .val (.ref o12), .val (.ref o13), s14, .val (.int i15), .val (.int i16), s17] [.long 100000000000000, (.long j2), .int 14, .int i15, .int i16, .ref o12])) rfl (by rw [hml]; rfl) (argsL := [.ref o12, .int i16, .int i15, .int 14, (.long j2), .long 100000000000000]) (rest := []) (lenOf pd_0_36 rfl) rfl (Nat.le_of_eq rfl) (hb hby at_1009) (fun _ _ => ⟨rfl, e0, hcl, hsl⟩)
  dsimp only [Pt.U, Pt.locs, Pt.cells, Pt.slots] at X5 l5 y5 z5 st5 hQ5
  subst l5 y5 z5
  obtain ⟨rfl, N5q, K5, V5⟩ := hQ5
  have N5 := Fr.app N0 N5q
  refine ⟨T5, _, X5, N5, K5, V5, fun target kt => ?_⟩
  refine XS.aload X0.here hx rfl (hb hby at_995) rfl rfl ?_
  refine XS.iload X0.here hx rfl (hb hby at_997) rfl ?_
  refine XS.iload X0.here hx rfl (hb hby at_999) rfl ?_
  refine XS.bipush X0.here hx rfl (hb hby at_1001) ?_
  refine XS.lloadN X0.here hx rfl (hb hby at_1003) rfl ?_
  refine XS.aload X0.here hx rfl (hb hby at_1004) rfl rfl ?_
  refine XS.bipush X0.here hx rfl (hb hby at_1006) ?_
  refine X0.laload hx (j := (14 : Int32)) (v := (.long 100000000000000)) (by rw [e0]; exact Ar_o13.1) (State.isArrayOf_alike hZ.alike Ar_o13.2.1) Ar_o13.2.2 hin1008 hat1008 (g := (mkF m 1008 #[s0, s1, .val (.long j2), .second, s4, s5, s6, s7, s8, s9, s10, s11, .val (.ref o12), .val (.ref o13), s14, .val (.int i15), .val (.int i16), s17] [.int 14, .ref o13, (.long j2), .int 14, .int i15, .int i16, .ref o12])) rfl rfl (hb hby at_1008) _ ?_
  refine st5 _ ?_
  exact kt
theorem own_put15 {p : Program} {l : Launch} {e : Env} {s : State} {m : MethodId} {args : Array Value} {below : List Frame} {meth : Method} {c : Code} {T0 : State} {locs : List Loc} {cells slots : Nat} {Z : State} {a0 : Array Value} {h0 : Heap} (s0 : Slot) (s1 : Slot) (j2 : Int64) (s4 : Slot) (s5 : Slot) (s6 : Slot) (s7 : Slot) (s8 : Slot) (s9 : Slot) (s10 : Slot) (s11 : Slot) (o12 : Addr) (o13 : Addr) (s14 : Slot) (i15 : Int32) (i16 : Int32) (s17 : Slot) (s_ nd : Nat) (es : List Int32) (ke kp : ClassId) (n0 : Nat)
    (X0 : Stand p l e own_R0 s m args below meth c T0 locs cells slots) (hx : p.tables.exec = Jvm.exec) (hZ : Z.Warmed39 s.vm) (hw : zH Z a0) (hby : c.code = code) (hml : c.maxLocals = 18) (hown : s.vm.findClass "com/example/dealt/dealt/metrics/ExpositionCounterPinLaw" = some m.cls) (e0 : T0.heap = h0) (V12 : Arv Z h0 o12 ke .char (55 : Int32) (es.map Value.int) (.int 0)) (V13 : Arv Z h0 o13 kp .long (19 : Int32) (own_p.map Value.long) (.long 0)) (he : es.length = 55) (h16 : i16 = Int32.ofNat s_) (h15 : i15 = Int32.ofNat nd) (hs54 : s_ + nd ≤ 54) (g_o12 : n0 ≤ o12) (Z0 : n0 ≤ h0.size) (N0 : Fr n0 locs) (hcl : cells ≤ own_R0.cells) (hsl : slots ≤ own_R0.slots) :
    ∃ (T' : State) (locs' : List Loc), Stand p l e own_R0 s m args below meth c T' locs' cells slots ∧ Fr n0 locs' ∧ Keep h0 T'.heap [o12] ∧ Arv Z T'.heap o12 ke .char (55 : Int32) ((own_put es s_ nd 15 (own_ch j2 (1000000000000000 : Int64))).map Value.int) (.int 0) ∧
      ∀ target, Steps p.tables e below (T'.setTop (mkF m 1029 #[s0, s1, .val (.long j2), .second, s4, s5, s6, s7, s8, s9, s10, s11, .val (.ref o12), .val (.ref o13), s14, .val (.int i15), .val (.int i16), s17] [])) target → Steps p.tables e below (T0.setTop (mkF m 1012 #[s0, s1, .val (.long j2), .second, s4, s5, s6, s7, s8, s9, s10, s11, .val (.ref o12), .val (.ref o13), s14, .val (.int i15), .val (.int i16), s17] [])) target := by
  obtain ⟨cl_o13, Ar_o13, q13, S13, N13_, H13, G13⟩ := id V13
  have hin1025 : ¬ ((15 : Int32) < 0 ∨ cl_o13.slots.size ≤ ((15 : Int32)).toNatClampNeg) := inb_of S13 ⟨by decide, by decide⟩
  have hat1025 : cl_o13.slots[((15 : Int32)).toNatClampNeg]? = some (.long 1000000000000000) := H13.at hin1025 rfl
  obtain ⟨_, _, ⟨T5, L5, k5, n5⟩, -, X5, ⟨Lc5, hQ5, l5, y5, z5⟩, st5⟩ := Jvm.LawKit.callS X0 hx (y := y_2) hown (zT hZ hw 247 rfl) (zT hZ hw 248 rfl) (zT hZ hw 245 rfl) (zT hZ hw 249 rfl) (by decide) (backOf (W := 0) (r45 l Z a0 hw [] i16 i15 (15 : Int32) o12 s_ nd 15 j2 (1000000000000000 : Int64) es ke h0 n0 Z0 V12 he g_o12 hs54 (by decide) (by decide) h16 h15 rfl) hZ (zW hw 249 rfl) (zW hw 245 rfl) (by decide) (by decide)) (g := (mkF m 1026 #[s0, s1, .val (.long j2), .second, s4, s5, s6, s7, s8, s9, s10, s11, .val (.ref o12), .val (.ref o13), s14, .val (.int i15), .val (.int i16), s17] [.long 1000000000000000, (.long j2), .int 15, .int i15, .int i16, .ref o12])) rfl (by rw [hml]; rfl) (argsL := [.ref o12, .int i16, .int i15, .int 15, (.long j2), .long 1000000000000000]) (rest := []) (lenOf pd_0_36 rfl) rfl (Nat.le_of_eq rfl) (hb hby at_1026) (fun _ _ => ⟨rfl, e0, hcl, hsl⟩)
  dsimp only [Pt.U, Pt.locs, Pt.cells, Pt.slots] at X5 l5 y5 z5 st5 hQ5
  subst l5 y5 z5
  obtain ⟨rfl, N5q, K5, V5⟩ := hQ5
  have N5 := Fr.app N0 N5q
  refine ⟨T5, _, X5, N5, K5, V5, fun target kt => ?_⟩
  refine XS.aload X0.here hx rfl (hb hby at_1012) rfl rfl ?_
  refine XS.iload X0.here hx rfl (hb hby at_1014) rfl ?_
  refine XS.iload X0.here hx rfl (hb hby at_1016) rfl ?_
  refine XS.bipush X0.here hx rfl (hb hby at_1018) ?_
  refine XS.lloadN X0.here hx rfl (hb hby at_1020) rfl ?_
  refine XS.aload X0.here hx rfl (hb hby at_1021) rfl rfl ?_
  refine XS.bipush X0.here hx rfl (hb hby at_1023) ?_
  refine X0.laload hx (j := (15 : Int32)) (v := (.long 1000000000000000)) (by rw [e0]; exact Ar_o13.1) (State.isArrayOf_alike hZ.alike Ar_o13.2.1) Ar_o13.2.2 hin1025 hat1025 (g := (mkF m 1025 #[s0, s1, .val (.long j2), .second, s4, s5, s6, s7, s8, s9, s10, s11, .val (.ref o12), .val (.ref o13), s14, .val (.int i15), .val (.int i16), s17] [.int 15, .ref o13, (.long j2), .int 15, .int i15, .int i16, .ref o12])) rfl rfl (hb hby at_1025) _ ?_
  refine st5 _ ?_
  exact kt
theorem own_put16 {p : Program} {l : Launch} {e : Env} {s : State} {m : MethodId} {args : Array Value} {below : List Frame} {meth : Method} {c : Code} {T0 : State} {locs : List Loc} {cells slots : Nat} {Z : State} {a0 : Array Value} {h0 : Heap} (s0 : Slot) (s1 : Slot) (j2 : Int64) (s4 : Slot) (s5 : Slot) (s6 : Slot) (s7 : Slot) (s8 : Slot) (s9 : Slot) (s10 : Slot) (s11 : Slot) (o12 : Addr) (o13 : Addr) (s14 : Slot) (i15 : Int32) (i16 : Int32) (s17 : Slot) (s_ nd : Nat) (es : List Int32) (ke kp : ClassId) (n0 : Nat)
    (X0 : Stand p l e own_R0 s m args below meth c T0 locs cells slots) (hx : p.tables.exec = Jvm.exec) (hZ : Z.Warmed39 s.vm) (hw : zH Z a0) (hby : c.code = code) (hml : c.maxLocals = 18) (hown : s.vm.findClass "com/example/dealt/dealt/metrics/ExpositionCounterPinLaw" = some m.cls) (e0 : T0.heap = h0) (V12 : Arv Z h0 o12 ke .char (55 : Int32) (es.map Value.int) (.int 0)) (V13 : Arv Z h0 o13 kp .long (19 : Int32) (own_p.map Value.long) (.long 0)) (he : es.length = 55) (h16 : i16 = Int32.ofNat s_) (h15 : i15 = Int32.ofNat nd) (hs54 : s_ + nd ≤ 54) (g_o12 : n0 ≤ o12) (Z0 : n0 ≤ h0.size) (N0 : Fr n0 locs) (hcl : cells ≤ own_R0.cells) (hsl : slots ≤ own_R0.slots) :
    ∃ (T' : State) (locs' : List Loc), Stand p l e own_R0 s m args below meth c T' locs' cells slots ∧ Fr n0 locs' ∧ Keep h0 T'.heap [o12] ∧ Arv Z T'.heap o12 ke .char (55 : Int32) ((own_put es s_ nd 16 (own_ch j2 (10000000000000000 : Int64))).map Value.int) (.int 0) ∧
      ∀ target, Steps p.tables e below (T'.setTop (mkF m 1046 #[s0, s1, .val (.long j2), .second, s4, s5, s6, s7, s8, s9, s10, s11, .val (.ref o12), .val (.ref o13), s14, .val (.int i15), .val (.int i16), s17] [])) target → Steps p.tables e below (T0.setTop (mkF m 1029 #[s0, s1, .val (.long j2), .second, s4, s5, s6, s7, s8, s9, s10, s11, .val (.ref o12), .val (.ref o13), s14, .val (.int i15), .val (.int i16), s17] [])) target := by
  obtain ⟨cl_o13, Ar_o13, q13, S13, N13_, H13, G13⟩ := id V13
  have hin1042 : ¬ ((16 : Int32) < 0 ∨ cl_o13.slots.size ≤ ((16 : Int32)).toNatClampNeg) := inb_of S13 ⟨by decide, by decide⟩
  have hat1042 : cl_o13.slots[((16 : Int32)).toNatClampNeg]? = some (.long 10000000000000000) := H13.at hin1042 rfl
  obtain ⟨_, _, ⟨T5, L5, k5, n5⟩, -, X5, ⟨Lc5, hQ5, l5, y5, z5⟩, st5⟩ := Jvm.LawKit.callS X0 hx (y := y_2) hown (zT hZ hw 247 rfl) (zT hZ hw 248 rfl) (zT hZ hw 245 rfl) (zT hZ hw 249 rfl) (by decide) (backOf (W := 0) (r45 l Z a0 hw [] i16 i15 (16 : Int32) o12 s_ nd 16 j2 (10000000000000000 : Int64) es ke h0 n0 Z0 V12 he g_o12 hs54 (by decide) (by decide) h16 h15 rfl) hZ (zW hw 249 rfl) (zW hw 245 rfl) (by decide) (by decide)) (g := (mkF m 1043 #[s0, s1, .val (.long j2), .second, s4, s5, s6, s7, s8, s9, s10, s11, .val (.ref o12), .val (.ref o13), s14, .val (.int i15), .val (.int i16), s17] [.long 10000000000000000, (.long j2), .int 16, .int i15, .int i16, .ref o12])) rfl (by rw [hml]; rfl) (argsL := [.ref o12, .int i16, .int i15, .int 16, (.long j2), .long 10000000000000000]) (rest := []) (lenOf pd_0_36 rfl) rfl (Nat.le_of_eq rfl) (hb hby at_1043) (fun _ _ => ⟨rfl, e0, hcl, hsl⟩)
  dsimp only [Pt.U, Pt.locs, Pt.cells, Pt.slots] at X5 l5 y5 z5 st5 hQ5
  subst l5 y5 z5
  obtain ⟨rfl, N5q, K5, V5⟩ := hQ5
  have N5 := Fr.app N0 N5q
  refine ⟨T5, _, X5, N5, K5, V5, fun target kt => ?_⟩
  refine XS.aload X0.here hx rfl (hb hby at_1029) rfl rfl ?_
  refine XS.iload X0.here hx rfl (hb hby at_1031) rfl ?_
  refine XS.iload X0.here hx rfl (hb hby at_1033) rfl ?_
  refine XS.bipush X0.here hx rfl (hb hby at_1035) ?_
  refine XS.lloadN X0.here hx rfl (hb hby at_1037) rfl ?_
  refine XS.aload X0.here hx rfl (hb hby at_1038) rfl rfl ?_
  refine XS.bipush X0.here hx rfl (hb hby at_1040) ?_
  refine X0.laload hx (j := (16 : Int32)) (v := (.long 10000000000000000)) (by rw [e0]; exact Ar_o13.1) (State.isArrayOf_alike hZ.alike Ar_o13.2.1) Ar_o13.2.2 hin1042 hat1042 (g := (mkF m 1042 #[s0, s1, .val (.long j2), .second, s4, s5, s6, s7, s8, s9, s10, s11, .val (.ref o12), .val (.ref o13), s14, .val (.int i15), .val (.int i16), s17] [.int 16, .ref o13, (.long j2), .int 16, .int i15, .int i16, .ref o12])) rfl rfl (hb hby at_1042) _ ?_
  refine st5 _ ?_
  exact kt
theorem own_put17 {p : Program} {l : Launch} {e : Env} {s : State} {m : MethodId} {args : Array Value} {below : List Frame} {meth : Method} {c : Code} {T0 : State} {locs : List Loc} {cells slots : Nat} {Z : State} {a0 : Array Value} {h0 : Heap} (s0 : Slot) (s1 : Slot) (j2 : Int64) (s4 : Slot) (s5 : Slot) (s6 : Slot) (s7 : Slot) (s8 : Slot) (s9 : Slot) (s10 : Slot) (s11 : Slot) (o12 : Addr) (o13 : Addr) (s14 : Slot) (i15 : Int32) (i16 : Int32) (s17 : Slot) (s_ nd : Nat) (es : List Int32) (ke kp : ClassId) (n0 : Nat)
    (X0 : Stand p l e own_R0 s m args below meth c T0 locs cells slots) (hx : p.tables.exec = Jvm.exec) (hZ : Z.Warmed39 s.vm) (hw : zH Z a0) (hby : c.code = code) (hml : c.maxLocals = 18) (hown : s.vm.findClass "com/example/dealt/dealt/metrics/ExpositionCounterPinLaw" = some m.cls) (e0 : T0.heap = h0) (V12 : Arv Z h0 o12 ke .char (55 : Int32) (es.map Value.int) (.int 0)) (V13 : Arv Z h0 o13 kp .long (19 : Int32) (own_p.map Value.long) (.long 0)) (he : es.length = 55) (h16 : i16 = Int32.ofNat s_) (h15 : i15 = Int32.ofNat nd) (hs54 : s_ + nd ≤ 54) (g_o12 : n0 ≤ o12) (Z0 : n0 ≤ h0.size) (N0 : Fr n0 locs) (hcl : cells ≤ own_R0.cells) (hsl : slots ≤ own_R0.slots) :
    ∃ (T' : State) (locs' : List Loc), Stand p l e own_R0 s m args below meth c T' locs' cells slots ∧ Fr n0 locs' ∧ Keep h0 T'.heap [o12] ∧ Arv Z T'.heap o12 ke .char (55 : Int32) ((own_put es s_ nd 17 (own_ch j2 (100000000000000000 : Int64))).map Value.int) (.int 0) ∧
      ∀ target, Steps p.tables e below (T'.setTop (mkF m 1063 #[s0, s1, .val (.long j2), .second, s4, s5, s6, s7, s8, s9, s10, s11, .val (.ref o12), .val (.ref o13), s14, .val (.int i15), .val (.int i16), s17] [])) target → Steps p.tables e below (T0.setTop (mkF m 1046 #[s0, s1, .val (.long j2), .second, s4, s5, s6, s7, s8, s9, s10, s11, .val (.ref o12), .val (.ref o13), s14, .val (.int i15), .val (.int i16), s17] [])) target := by
  obtain ⟨cl_o13, Ar_o13, q13, S13, N13_, H13, G13⟩ := id V13
  have hin1059 : ¬ ((17 : Int32) < 0 ∨ cl_o13.slots.size ≤ ((17 : Int32)).toNatClampNeg) := inb_of S13 ⟨by decide, by decide⟩
  have hat1059 : cl_o13.slots[((17 : Int32)).toNatClampNeg]? = some (.long 100000000000000000) := H13.at hin1059 rfl
  obtain ⟨_, _, ⟨T5, L5, k5, n5⟩, -, X5, ⟨Lc5, hQ5, l5, y5, z5⟩, st5⟩ := Jvm.LawKit.callS X0 hx (y := y_2) hown (zT hZ hw 247 rfl) (zT hZ hw 248 rfl) (zT hZ hw 245 rfl) (zT hZ hw 249 rfl) (by decide) (backOf (W := 0) (r45 l Z a0 hw [] i16 i15 (17 : Int32) o12 s_ nd 17 j2 (100000000000000000 : Int64) es ke h0 n0 Z0 V12 he g_o12 hs54 (by decide) (by decide) h16 h15 rfl) hZ (zW hw 249 rfl) (zW hw 245 rfl) (by decide) (by decide)) (g := (mkF m 1060 #[s0, s1, .val (.long j2), .second, s4, s5, s6, s7, s8, s9, s10, s11, .val (.ref o12), .val (.ref o13), s14, .val (.int i15), .val (.int i16), s17] [.long 100000000000000000, (.long j2), .int 17, .int i15, .int i16, .ref o12])) rfl (by rw [hml]; rfl) (argsL := [.ref o12, .int i16, .int i15, .int 17, (.long j2), .long 100000000000000000]) (rest := []) (lenOf pd_0_36 rfl) rfl (Nat.le_of_eq rfl) (hb hby at_1060) (fun _ _ => ⟨rfl, e0, hcl, hsl⟩)
  dsimp only [Pt.U, Pt.locs, Pt.cells, Pt.slots] at X5 l5 y5 z5 st5 hQ5
  subst l5 y5 z5
  obtain ⟨rfl, N5q, K5, V5⟩ := hQ5
  have N5 := Fr.app N0 N5q
  refine ⟨T5, _, X5, N5, K5, V5, fun target kt => ?_⟩
  refine XS.aload X0.here hx rfl (hb hby at_1046) rfl rfl ?_
  refine XS.iload X0.here hx rfl (hb hby at_1048) rfl ?_
  refine XS.iload X0.here hx rfl (hb hby at_1050) rfl ?_
  refine XS.bipush X0.here hx rfl (hb hby at_1052) ?_
  refine XS.lloadN X0.here hx rfl (hb hby at_1054) rfl ?_
  refine XS.aload X0.here hx rfl (hb hby at_1055) rfl rfl ?_
  refine XS.bipush X0.here hx rfl (hb hby at_1057) ?_
  refine X0.laload hx (j := (17 : Int32)) (v := (.long 100000000000000000)) (by rw [e0]; exact Ar_o13.1) (State.isArrayOf_alike hZ.alike Ar_o13.2.1) Ar_o13.2.2 hin1059 hat1059 (g := (mkF m 1059 #[s0, s1, .val (.long j2), .second, s4, s5, s6, s7, s8, s9, s10, s11, .val (.ref o12), .val (.ref o13), s14, .val (.int i15), .val (.int i16), s17] [.int 17, .ref o13, (.long j2), .int 17, .int i15, .int i16, .ref o12])) rfl rfl (hb hby at_1059) _ ?_
  refine st5 _ ?_
  exact kt
theorem own_put18 {p : Program} {l : Launch} {e : Env} {s : State} {m : MethodId} {args : Array Value} {below : List Frame} {meth : Method} {c : Code} {T0 : State} {locs : List Loc} {cells slots : Nat} {Z : State} {a0 : Array Value} {h0 : Heap} (s0 : Slot) (s1 : Slot) (j2 : Int64) (s4 : Slot) (s5 : Slot) (s6 : Slot) (s7 : Slot) (s8 : Slot) (s9 : Slot) (s10 : Slot) (s11 : Slot) (o12 : Addr) (o13 : Addr) (s14 : Slot) (i15 : Int32) (i16 : Int32) (s17 : Slot) (s_ nd : Nat) (es : List Int32) (ke kp : ClassId) (n0 : Nat)
    (X0 : Stand p l e own_R0 s m args below meth c T0 locs cells slots) (hx : p.tables.exec = Jvm.exec) (hZ : Z.Warmed39 s.vm) (hw : zH Z a0) (hby : c.code = code) (hml : c.maxLocals = 18) (hown : s.vm.findClass "com/example/dealt/dealt/metrics/ExpositionCounterPinLaw" = some m.cls) (e0 : T0.heap = h0) (V12 : Arv Z h0 o12 ke .char (55 : Int32) (es.map Value.int) (.int 0)) (V13 : Arv Z h0 o13 kp .long (19 : Int32) (own_p.map Value.long) (.long 0)) (he : es.length = 55) (h16 : i16 = Int32.ofNat s_) (h15 : i15 = Int32.ofNat nd) (hs54 : s_ + nd ≤ 54) (g_o12 : n0 ≤ o12) (Z0 : n0 ≤ h0.size) (N0 : Fr n0 locs) (hcl : cells ≤ own_R0.cells) (hsl : slots ≤ own_R0.slots) :
    ∃ (T' : State) (locs' : List Loc), Stand p l e own_R0 s m args below meth c T' locs' cells slots ∧ Fr n0 locs' ∧ Keep h0 T'.heap [o12] ∧ Arv Z T'.heap o12 ke .char (55 : Int32) ((own_put es s_ nd 18 (own_ch j2 (1000000000000000000 : Int64))).map Value.int) (.int 0) ∧
      ∀ target, Steps p.tables e below (T'.setTop (mkF m 1080 #[s0, s1, .val (.long j2), .second, s4, s5, s6, s7, s8, s9, s10, s11, .val (.ref o12), .val (.ref o13), s14, .val (.int i15), .val (.int i16), s17] [])) target → Steps p.tables e below (T0.setTop (mkF m 1063 #[s0, s1, .val (.long j2), .second, s4, s5, s6, s7, s8, s9, s10, s11, .val (.ref o12), .val (.ref o13), s14, .val (.int i15), .val (.int i16), s17] [])) target := by
  obtain ⟨cl_o13, Ar_o13, q13, S13, N13_, H13, G13⟩ := id V13
  have hin1076 : ¬ ((18 : Int32) < 0 ∨ cl_o13.slots.size ≤ ((18 : Int32)).toNatClampNeg) := inb_of S13 ⟨by decide, by decide⟩
  have hat1076 : cl_o13.slots[((18 : Int32)).toNatClampNeg]? = some (.long 1000000000000000000) := H13.at hin1076 rfl
  obtain ⟨_, _, ⟨T5, L5, k5, n5⟩, -, X5, ⟨Lc5, hQ5, l5, y5, z5⟩, st5⟩ := Jvm.LawKit.callS X0 hx (y := y_2) hown (zT hZ hw 247 rfl) (zT hZ hw 248 rfl) (zT hZ hw 245 rfl) (zT hZ hw 249 rfl) (by decide) (backOf (W := 0) (r45 l Z a0 hw [] i16 i15 (18 : Int32) o12 s_ nd 18 j2 (1000000000000000000 : Int64) es ke h0 n0 Z0 V12 he g_o12 hs54 (by decide) (by decide) h16 h15 rfl) hZ (zW hw 249 rfl) (zW hw 245 rfl) (by decide) (by decide)) (g := (mkF m 1077 #[s0, s1, .val (.long j2), .second, s4, s5, s6, s7, s8, s9, s10, s11, .val (.ref o12), .val (.ref o13), s14, .val (.int i15), .val (.int i16), s17] [.long 1000000000000000000, (.long j2), .int 18, .int i15, .int i16, .ref o12])) rfl (by rw [hml]; rfl) (argsL := [.ref o12, .int i16, .int i15, .int 18, (.long j2), .long 1000000000000000000]) (rest := []) (lenOf pd_0_36 rfl) rfl (Nat.le_of_eq rfl) (hb hby at_1077) (fun _ _ => ⟨rfl, e0, hcl, hsl⟩)
  dsimp only [Pt.U, Pt.locs, Pt.cells, Pt.slots] at X5 l5 y5 z5 st5 hQ5
  subst l5 y5 z5
  obtain ⟨rfl, N5q, K5, V5⟩ := hQ5
  have N5 := Fr.app N0 N5q
  refine ⟨T5, _, X5, N5, K5, V5, fun target kt => ?_⟩
  refine XS.aload X0.here hx rfl (hb hby at_1063) rfl rfl ?_
  refine XS.iload X0.here hx rfl (hb hby at_1065) rfl ?_
  refine XS.iload X0.here hx rfl (hb hby at_1067) rfl ?_
  refine XS.bipush X0.here hx rfl (hb hby at_1069) ?_
  refine XS.lloadN X0.here hx rfl (hb hby at_1071) rfl ?_
  refine XS.aload X0.here hx rfl (hb hby at_1072) rfl rfl ?_
  refine XS.bipush X0.here hx rfl (hb hby at_1074) ?_
  refine X0.laload hx (j := (18 : Int32)) (v := (.long 1000000000000000000)) (by rw [e0]; exact Ar_o13.1) (State.isArrayOf_alike hZ.alike Ar_o13.2.1) Ar_o13.2.2 hin1076 hat1076 (g := (mkF m 1076 #[s0, s1, .val (.long j2), .second, s4, s5, s6, s7, s8, s9, s10, s11, .val (.ref o12), .val (.ref o13), s14, .val (.int i15), .val (.int i16), s17] [.int 18, .ref o13, (.long j2), .int 18, .int i15, .int i16, .ref o12])) rfl rfl (hb hby at_1076) _ ?_
  refine st5 _ ?_
  exact kt
def own_f (v : Int64) (j : Nat) : Int32 := own_ch v (own_p.getD j 0)
def own_puts (es : List Int32) (s nd : Nat) (f : Nat → Int32) : Nat → List Int32
  | 0 => es
  | m + 1 => own_put (own_puts es s nd f m) s nd m (f m)
theorem own_puts_len (es : List Int32) (s nd : Nat) (f : Nat → Int32) : ∀ m, (own_puts es s nd f m).length = es.length
  | 0 => rfl
  | m + 1 => by
    have := own_puts_len es s nd f m
    unfold own_puts own_put
    split
    · rw [List.length_set]; exact this
    · exact this
theorem own_getD_set (es : List Int32) (k i : Nat) (x : Int32) (hk : k < es.length) : (es.set k x).getD i 0 = if k = i then x else es.getD i 0 := by
  simp only [List.getD_eq_getElem?_getD, List.getElem?_set]
  by_cases h : k = i
  · subst h; simp [hk]
  · simp [h]
theorem own_puts_get (es : List Int32) (s nd : Nat) (f : Nat → Int32) (hl : s + nd ≤ es.length) : ∀ m i, (own_puts es s nd f m).getD i 0 = if s ≤ i ∧ i < s + nd ∧ s + nd - 1 - i < m then f (s + nd - 1 - i) else es.getD i 0
  | 0, i => by rw [if_neg (by omega)]; rfl
  | m + 1, i => by
    have ih := own_puts_get es s nd f hl m i
    have hlen := own_puts_len es s nd f m
    show (own_put (own_puts es s nd f m) s nd m (f m)).getD i 0 = _
    unfold own_put
    by_cases hm : m < nd
    · rw [if_pos hm, own_getD_set _ _ _ _ (by omega)]
      by_cases h : s + nd - 1 - m = i
      · rw [if_pos h, if_pos (by omega), show s + nd - 1 - i = m by omega]
      · rw [if_neg h, ih]
        by_cases q : s ≤ i ∧ i < s + nd ∧ s + nd - 1 - i < m
        · rw [if_pos q, if_pos (by omega)]
        · rw [if_neg q, if_neg (by omega)]
    · rw [if_neg hm, ih]
      by_cases q : s ≤ i ∧ i < s + nd ∧ s + nd - 1 - i < m
      · rw [if_pos q, if_pos (by omega)]
      · rw [if_neg q, if_neg (by omega)]
def own_pre (i4 i5 i6 i7 : Int32) : List Int32 := [35, 32, 72, 69, 76, 80, 32, nar .char i4, nar .char i5, 32, nar .char i6, nar .char i7, 10, 35, 32, 84, 89, 80, 69, 32, nar .char i4, nar .char i5, 32, 99, 111, 117, 110, 116, 101, 114, 10, nar .char i4, nar .char i5, 32]
theorem own_blk_pre (i4 i5 i6 i7 : Int32) (v : Int64) (nn : Nat) : own_blk [nar .char i4, nar .char i5] [nar .char i6, nar .char i7] v nn = own_pre i4 i5 i6 i7 ++ (own_num v nn ++ [(10 : Int32)]) := rfl
theorem own_nc0 : nar .char 0 = 0 := by decide +kernel
theorem own_nc10 : nar .char 10 = 10 := by decide +kernel
theorem own_nc32 : nar .char 32 = 32 := by decide +kernel
theorem own_nc35 : nar .char 35 = 35 := by decide +kernel
theorem own_nc69 : nar .char 69 = 69 := by decide +kernel
theorem own_nc72 : nar .char 72 = 72 := by decide +kernel
theorem own_nc76 : nar .char 76 = 76 := by decide +kernel
theorem own_nc80 : nar .char 80 = 80 := by decide +kernel
theorem own_nc84 : nar .char 84 = 84 := by decide +kernel
theorem own_nc89 : nar .char 89 = 89 := by decide +kernel
theorem own_nc99 : nar .char 99 = 99 := by decide +kernel
theorem own_nc101 : nar .char 101 = 101 := by decide +kernel
theorem own_nc110 : nar .char 110 = 110 := by decide +kernel
theorem own_nc111 : nar .char 111 = 111 := by decide +kernel
theorem own_nc114 : nar .char 114 = 114 := by decide +kernel
theorem own_nc116 : nar .char 116 = 116 := by decide +kernel
theorem own_nc117 : nar .char 117 = 117 := by decide +kernel
theorem own_nc45 : nar .char 45 = 45 := by decide +kernel
theorem own_e0_pre (i4 i5 i6 i7 : Int32) : own_e0 i4 i5 i6 i7 = own_pre i4 i5 i6 i7 ++ List.replicate 21 0 := by
  simp only [own_e0, own_pre, List.map_cons, List.map_nil, own_nc0, own_nc10, own_nc32, own_nc35, own_nc69, own_nc72, own_nc76, own_nc80, own_nc84, own_nc89, own_nc99, own_nc101, own_nc110, own_nc111, own_nc114, own_nc116, own_nc117]
  rfl
def own_sg (v : Int64) : Nat := if v < 0 then 1 else 0
def own_e1 (v : Int64) (i4 i5 i6 i7 : Int32) : List Int32 := if v < 0 then (own_e0 i4 i5 i6 i7).set 34 (nar .char 45) else own_e0 i4 i5 i6 i7
def own_e3 (v : Int64) (nn : Nat) (i4 i5 i6 i7 : Int32) : List Int32 := (own_puts (own_e1 v i4 i5 i6 i7) (34 + own_sg v) (Jvm.Free.SBG.digitsL nn) (own_f v) 19).set (34 + own_sg v + Jvm.Free.SBG.digitsL nn) (nar .char 10)
theorem own_e0_len (i4 i5 i6 i7 : Int32) : (own_e0 i4 i5 i6 i7).length = 55 := rfl
theorem own_e1_len (v : Int64) (i4 i5 i6 i7 : Int32) : (own_e1 v i4 i5 i6 i7).length = 55 := by
  unfold own_e1
  split
  · rw [List.length_set]; rfl
  · rfl
theorem own_num_get (v : Int64) (nn t : Nat) (ht : t < Jvm.Free.SBG.digitsL nn) : (own_num v nn ++ [(10 : Int32)]).getD (own_sg v + t) 0 = Int32.ofNat (48 + nn / 10 ^ (Jvm.Free.SBG.digitsL nn - 1 - t) % 10) := by
  unfold own_num own_sg
  by_cases h : v < 0
  · rw [if_pos h, if_pos h, List.getD_eq_getElem?_getD]
    rw [List.append_assoc, List.getElem?_append_right (by simp), show 1 + t - [(45 : Int32)].length = t from Nat.add_sub_cancel_left 1 t, List.getElem?_append_left (by simp; exact ht), List.getElem?_map, List.getElem?_range ht]
    rfl
  · rw [if_neg h, if_neg h, List.getD_eq_getElem?_getD]
    show (List.map _ _ ++ [10])[0 + t]?.getD 0 = _
    rw [Nat.zero_add, List.getElem?_append_left (by simp; exact ht), List.getElem?_map, List.getElem?_range ht]
    rfl
theorem own_num_sg (v : Int64) (nn : Nat) : (own_num v nn).length = own_sg v + Jvm.Free.SBG.digitsL nn := by
  rw [own_num_len]; unfold own_sg Jvm.Free.SBG.GetCharsL.sgnL; omega
theorem own_match (v : Int64) (nn : Nat) (i4 i5 i6 i7 : Int32) (ha : own_Ab v nn) (i : Nat) (hi : i < 35 + (own_num v nn).length) : (own_blk [nar .char i4, nar .char i5] [nar .char i6, nar .char i7] v nn).getD i 0 = (own_e3 v nn i4 i5 i6 i7).getD i 0 := by
  have hD := own_dg19 nn ha.1
  have hsg : own_sg v = 0 ∨ own_sg v = 1 := by unfold own_sg; split <;> omega
  have hlp : (own_pre i4 i5 i6 i7).length = 34 := rfl
  rw [own_num_sg] at hi
  unfold own_e3
  rw [own_getD_set _ _ _ _ (by rw [own_puts_len, own_e1_len]; omega), own_puts_get _ _ _ _ (by rw [own_e1_len]; omega), own_blk_pre]
  by_cases c1 : i < 34
  · rw [if_neg (by omega), if_neg (by omega), List.getD_eq_getElem?_getD, List.getElem?_append_left (by omega)]
    have e1 : (own_e1 v i4 i5 i6 i7).getD i 0 = (own_e0 i4 i5 i6 i7).getD i 0 := by
      unfold own_e1
      split
      · rw [own_getD_set _ _ _ _ (by rw [own_e0_len]; omega), if_neg (by omega)]
      · rfl
    rw [e1, own_e0_pre, List.getD_eq_getElem?_getD, List.getElem?_append_left (by omega)]
  · rw [List.getD_eq_getElem?_getD, List.getElem?_append_right (by omega), hlp, ← List.getD_eq_getElem?_getD]
    by_cases c2 : i = 34 + own_sg v + Jvm.Free.SBG.digitsL nn
    · rw [if_pos c2.symm, own_nc10, List.getD_eq_getElem?_getD, List.getElem?_append_right (by rw [own_num_sg]; omega), own_num_sg, show i - 34 - (own_sg v + Jvm.Free.SBG.digitsL nn) = 0 by omega]
      rfl
    · rw [if_neg (fun q => c2 q.symm)]
      by_cases c3 : 34 + own_sg v ≤ i
      · rw [if_pos (by omega)]
        have := own_num_get v nn (i - 34 - own_sg v) (by omega)
        rw [show own_sg v + (i - 34 - own_sg v) = i - 34 by omega] at this
        rw [this]
        unfold own_f
        rw [own_ch_eq v _ nn _ ha (own_pint (34 + own_sg v + Jvm.Free.SBG.digitsL nn - 1 - i) (by omega)), show 34 + own_sg v + Jvm.Free.SBG.digitsL nn - 1 - i = Jvm.Free.SBG.digitsL nn - 1 - (i - 34 - own_sg v) by omega]
      · rw [if_neg (by omega)]
        have hs1 : own_sg v = 1 := by omega
        have hv : v < 0 := by unfold own_sg at hs1; split at hs1; assumption; omega
        obtain rfl : i = 34 := by omega
        unfold own_e1 own_num
        rw [if_pos hv, if_pos hv, own_getD_set _ _ _ _ (by rw [own_e0_len]; omega), if_pos rfl, own_nc45]
        rfl
theorem own_match2 (v : Int64) (nn : Nat) (i4 i5 i6 i7 : Int32) (ha : own_Ab v nn) (n off : Nat) (hn : n = 35 + (own_num v nn).length) (ho : off = 0 ∨ off = n) (i : Nat) (hi : i < n) : ((own_blk [nar .char i4, nar .char i5] [nar .char i6, nar .char i7] v nn) ++ (own_blk [nar .char i4, nar .char i5] [nar .char i6, nar .char i7] v nn)).getD (off + i) 0 = (own_e3 v nn i4 i5 i6 i7).getD i 0 := by
  have hl : (own_blk [nar .char i4, nar .char i5] [nar .char i6, nar .char i7] v nn).length = n := by
    rw [own_blk_pre, List.length_append, List.length_append, hn]
    have : (own_pre i4 i5 i6 i7).length = 34 := rfl
    have h1 : [(10 : Int32)].length = 1 := rfl
    omega
  rw [← own_match v nn i4 i5 i6 i7 ha i (by omega)]
  simp only [List.getD_eq_getElem?_getD]
  rcases ho with rfl | rfl
  · rw [Nat.zero_add, List.getElem?_append_left (by omega)]
  · rw [List.getElem?_append_right (by omega), hl, Nat.add_sub_cancel_left]
theorem own_blk_lat (nm hp : List Int32) (v : Int64) (nn : Nat) (h1 : ∀ c ∈ nm, ¬ c < 0 ∧ ¬ (255 : Int32) < c) (h2 : ∀ c ∈ hp, ¬ c < 0 ∧ ¬ (255 : Int32) < c) : ∀ c ∈ own_blk nm hp v nn, ¬ c < 0 ∧ ¬ (255 : Int32) < c := by
  have hnum : ∀ c ∈ own_num v nn, ¬ c < 0 ∧ ¬ (255 : Int32) < c := by
    intro c hc
    unfold own_num at hc
    rcases List.mem_append.mp hc with hc | hc
    · split at hc
      · cases List.mem_singleton.mp hc; decide
      · cases hc
    · obtain ⟨t, -, rfl⟩ := List.mem_map.mp hc
      have hlt : nn / 10 ^ (Jvm.Free.SBG.digitsL nn - 1 - t) % 10 < 10 := Nat.mod_lt _ (by omega)
      exact (by decide +kernel : ∀ d : Fin 10, ¬ Int32.ofNat (48 + d.val) < 0 ∧ ¬ (255 : Int32) < Int32.ofNat (48 + d.val)) ⟨_, hlt⟩
  have lit : ∀ L : List Int32, (L.all fun c => decide (¬ c < 0 ∧ ¬ (255 : Int32) < c)) = true → ∀ c ∈ L, ¬ c < 0 ∧ ¬ (255 : Int32) < c := fun L hL c hc => of_decide_eq_true (List.all_eq_true.mp hL c hc)
  have l87 := lit own_L87 (by decide +kernel)
  have l89 := lit own_L89 (by decide +kernel)
  have l38 := lit own_L38 (by decide +kernel)
  have l22 := lit own_L22 (by decide +kernel)
  have l32 := lit [(32 : Int32)] (by decide +kernel)
  have l10 := lit [(10 : Int32)] (by decide +kernel)
  intro c hc
  unfold own_blk at hc
  simp only [List.mem_append] at hc
  rcases hc with h | h | h | h | h | h | h | h | h | h | h | h | h | h | h
  · exact l87 c h
  · exact h1 c h
  · exact l32 c h
  · exact h2 c h
  · exact l10 c h
  · exact l89 c h
  · exact h1 c h
  · exact l32 c h
  · exact l38 c h
  · exact l10 c h
  · exact h1 c h
  · exact l22 c h
  · exact l32 c h
  · exact hnum c h
  · exact l10 c h
theorem pd_0_38 : parseMethodDescriptor "(Ljava/lang/String;[CII)Z" = some ⟨[(.object "java/lang/String"), (.array .char), .int, .int], some .boolean⟩ := by decide +kernel
theorem own_tl {p : Program} {l : Launch} {e : Env} {s : State} {m : MethodId} {args : Array Value} {below : List Frame} {meth : Method} {c : Code} {T0 : State} {locs : List Loc} {cells slots : Nat} {Z : State} {a0 : Array Value} {h0 : Heap} (s0 : Slot) (s1 : Slot) (s2 : Slot) (s3 : Slot) (s4 : Slot) (s5 : Slot) (s6 : Slot) (s7 : Slot) (s8 : Slot) (s9 : Slot) (s10 : Slot) (o11 : Addr) (o12 : Addr) (s13 : Slot) (s14 : Slot) (s15 : Slot) (s16 : Slot) (i17 : Int32) (xs es : List Int32) (ke : ClassId) (n_ : Nat) (n0 : Nat)
    (X0 : Stand p l e own_R0 s m args below meth c T0 locs cells slots) (hx : p.tables.exec = Jvm.exec) (hZ : Z.Warmed39 s.vm) (hw : zH Z a0) (hby : c.code = code) (hml : c.maxLocals = 18) (hown : s.vm.findClass "com/example/dealt/dealt/metrics/ExpositionCounterPinLaw" = some m.cls) (e0 : T0.heap = h0) (M : own_M Z h0 o11 o12 n_ 0 xs es ke) (M2 : own_M Z h0 o11 o12 n_ n_ xs es ke) (h17 : i17 = Int32.ofNat n_) (Z0 : n0 ≤ h0.size) (N0 : Fr n0 locs) (hcl : cells ≤ own_R0.cells) (hsl : slots ≤ own_R0.slots) (hk0 : (Int32.ofNat xs.length) = ((2 : Int32) * i17)) (hk1 : ¬ ((1 : Int32) = (0 : Int32))) (hk2 : ¬ ((1 : Int32) = (0 : Int32))) :
    ∃ (T' : State) (locs' : List Loc), Stand p l e own_R0 s m args below meth c T' locs' cells slots ∧ Fr n0 locs' ∧ T'.heap = h0 ∧
      ∀ target, Steps p.tables e below (T'.setTop (mkF m 1138 #[s0, s1, s2, s3, s4, s5, s6, s7, s8, s9, s10, .val (.ref o11), .val (.ref o12), s13, s14, s15, s16, .val (.int i17)] [])) target → Steps p.tables e below (T0.setTop (mkF m 1099 #[s0, s1, s2, s3, s4, s5, s6, s7, s8, s9, s10, .val (.ref o11), .val (.ref o12), s13, s14, s15, s16, .val (.int i17)] [])) target := by
  obtain ⟨cq4, kq4, q4a, q4b, q4c⟩ := isOf hZ e0 M.S.1
  obtain ⟨_, _, ⟨T4, L4, k4, n4⟩, -, X4, ⟨Lc4, hQ4, l4, y4, z4⟩, st4⟩ := X0.virtualBack hx (y := y_7) hown (zT hZ hw 253 rfl) (zT hZ hw 81 rfl) (notFace_of_selects (args := #[]) (zT hZ hw 83 rfl)) (zT hZ hw 83 rfl) (zT hZ hw 82 rfl) (by decide) (backOf (W := 0) (r14n l Z a0 hw [] o11 xs h0 n0 Z0 M.S M.cs) hZ (zW hw 84 rfl) (zW hw 2 rfl) (by decide) (by decide)) q4a q4c (g := (mkF m 1101 #[s0, s1, s2, s3, s4, s5, s6, s7, s8, s9, s10, .val (.ref o11), .val (.ref o12), s13, s14, s15, s16, .val (.int i17)] [.ref o11])) rfl (by rw [hml]; rfl) (Steps.refl _) (argsL := []) (rest := []) (lenOf pd_39_11 rfl) rfl (Nat.le_of_eq rfl) (hb hby at_1101) (fun _ _ => ⟨rfl, e0, hcl, hsl⟩)
  dsimp only [Pt.U, Pt.locs, Pt.cells, Pt.slots] at X4 l4 y4 z4 st4 hQ4
  subst l4 y4 z4
  obtain ⟨rfl, N4q, e4⟩ := hQ4
  have N4 := Fr.app N0 N4q
  obtain ⟨_, _, ⟨T5, L5, k5, n5⟩, -, X5, ⟨Lc5, hQ5, l5, y5, z5⟩, st5⟩ := Jvm.LawKit.callS X4 hx (y := y_28) hown (zT hZ hw 254 rfl) (zT hZ hw 255 rfl) (zT hZ hw 245 rfl) (zT hZ hw 256 rfl) (by decide) (backOf (W := 0) (r47 l Z a0 hw [] o11 o12 i17 (0 : Int32) n_ 0 xs es ke h0 n0 Z0 h17 rfl M) hZ (zW hw 256 rfl) (zW hw 245 rfl) (by decide) (by decide)) (g := (mkF m 1118 #[s0, s1, s2, s3, s4, s5, s6, s7, s8, s9, s10, .val (.ref o11), .val (.ref o12), s13, s14, s15, s16, .val (.int i17)] [.int 0, .int i17, .ref o12, .ref o11])) rfl (by rw [hml]; rfl) (argsL := [.ref o11, .ref o12, .int i17, .int 0]) (rest := []) (lenOf pd_0_38 rfl) rfl (Nat.le_of_eq rfl) (hb hby at_1118) (fun _ _ => ⟨rfl, e4, hcl, hsl⟩)
  dsimp only [Pt.U, Pt.locs, Pt.cells, Pt.slots] at X5 l5 y5 z5 st5 hQ5
  subst l5 y5 z5
  obtain ⟨rfl, N5q, e5⟩ := hQ5
  have N5 := Fr.app N4 N5q
  obtain ⟨_, _, ⟨T6, L6, k6, n6⟩, -, X6, ⟨Lc6, hQ6, l6, y6, z6⟩, st6⟩ := Jvm.LawKit.callS X5 hx (y := y_28) hown (zT hZ hw 254 rfl) (zT hZ hw 255 rfl) (zT hZ hw 245 rfl) (zT hZ hw 256 rfl) (by decide) (backOf (W := 0) (r47 l Z a0 hw [] o11 o12 i17 i17 n_ n_ xs es ke h0 n0 Z0 h17 h17 M2) hZ (zW hw 256 rfl) (zW hw 245 rfl) (by decide) (by decide)) (g := (mkF m 1132 #[s0, s1, s2, s3, s4, s5, s6, s7, s8, s9, s10, .val (.ref o11), .val (.ref o12), s13, s14, s15, s16, .val (.int i17)] [.int i17, .int i17, .ref o12, .ref o11])) rfl (by rw [hml]; rfl) (argsL := [.ref o11, .ref o12, .int i17, .int i17]) (rest := []) (lenOf pd_0_38 rfl) rfl (Nat.le_of_eq rfl) (hb hby at_1132) (fun _ _ => ⟨rfl, e5, hcl, hsl⟩)
  dsimp only [Pt.U, Pt.locs, Pt.cells, Pt.slots] at X6 l6 y6 z6 st6 hQ6
  subst l6 y6 z6
  obtain ⟨rfl, N6q, e6⟩ := hQ6
  have N6 := Fr.app N5 N6q
  refine ⟨T6, _, X6, N6, e6, fun target kt => ?_⟩
  refine XS.aload X0.here hx rfl (hb hby at_1099) rfl rfl ?_
  refine st4.trans ?_
  refine XS.iconst X4.here hx rfl (hb hby at_1104) ?_
  refine XS.iload X4.here hx rfl (hb hby at_1105) rfl ?_
  refine XS.imul X4.here hx rfl (hb hby at_1107) rfl ?_
  refine XS.icmpNo X4.here hx rfl (hb hby at_1108) rfl (teq (hk0 : (Int32.ofNat xs.length) = ((2 : Int32) * i17))).2 ?_
  refine XS.aload X4.here hx rfl (hb hby at_1111) rfl rfl ?_
  refine XS.aload X4.here hx rfl (hb hby at_1113) rfl rfl ?_
  refine XS.iload X4.here hx rfl (hb hby at_1115) rfl ?_
  refine XS.iconst X4.here hx rfl (hb hby at_1117) ?_
  refine st5 _ ?_
  refine XS.ifNo X5.here hx rfl (hb hby at_1121) rfl ((if0 _ _).trans (feq (hk1 : ¬ ((1 : Int32) = (0 : Int32)))).1) ?_
  refine XS.aload X5.here hx rfl (hb hby at_1124) rfl rfl ?_
  refine XS.aload X5.here hx rfl (hb hby at_1126) rfl rfl ?_
  refine XS.iload X5.here hx rfl (hb hby at_1128) rfl ?_
  refine XS.iload X5.here hx rfl (hb hby at_1130) rfl ?_
  refine st6 _ ?_
  refine XS.ifNo X6.here hx rfl (hb hby at_1135) rfl ((if0 _ _).trans (feq (hk2 : ¬ ((1 : Int32) = (0 : Int32)))).1) ?_
  exact kt
theorem own_Sn.mk {Z : State} {h h' : Heap} {o t : Addr} {xs : List Int32} (S : own_Str Z h o xs) (K : Keep h h' []) (ht : h.size ≤ t) : own_Sn Z h' o xs t := by
  refine ⟨S.keep0 K, fun y F => ?_⟩
  obtain ⟨-, -, tv, k, FV, V⟩ := S
  cases own_Fu F (FV.keep K nin0)
  exact Nat.ne_of_lt (Nat.lt_of_lt_of_le V.lt ht)
theorem own_FM.ext {Z : State} {h h' : Heap} (F : own_FM Z h) (E : Ext h h') : own_FM Z h' := by
  obtain ⟨fm, S, r⟩ := F
  exact ⟨fm, S.ext E, r⟩
def Q0 (h0 : Heap) (n0 : Nat) (v : Option Value) (h : Heap) (L : List Loc) : Prop := v = some (.int 1) ∧ Fr n0 L
theorem ef_0 (m : MethodId) (x0 : Int32) (x1 : Int32) (x2 : Int64) : entryFrame m #[.int x0, .int x1, (.long x2)] maxLocals = mkF m 0 #[.val (.int x0), .val (.int x1), .val (.long x2), .second, .unset, .unset, .unset, .unset, .unset, .unset, .unset, .unset, .unset, .unset, .unset, .unset, .unset, .unset] [] := by first | (simp [entryFrame, mkF, argsToLocals, Value.category, maxLocals]; done) | rfl
theorem rm0 (l : Launch) (Z : State) (a0 : Array Value) (hw : zH Z a0) (hwS : ∀ d ∈ Bundle.stringAtoms, d.before a0 Z = true) (ws : List Jvm.Cond) (p1 : Int32) (p2 : Int32) (q3 : Int64) (h0 : Heap) (n0 : Nat) (Z0 : n0 ≤ h0.size) (O : Old Z n0 h0) (CS : own_CS Z Z.heap) (FM : own_FM Z Z.heap) (DG : own_DG Z) :
    MetFree l x (head1 (Jvm.Cond.code x code maxLocals ret :: ws) room_1) (fun a U => a = #[.int p1, .int p2, (.long q3)] ∧ Z.Warmed39 U.vm ∧ U.heap = h0 ∧ CHv Z own_EL U.vm h0) (fun _ _ _ _ _ => True) (fun _ U o U' => ∃ v L, o = .returned v ∧ Q0 h0 n0 v U'.heap L ∧ ReturnedEndW U o U' L room_1.cells room_1.slots) := by
  refine MetFree.of_bodySF (plainFor_of_name pn_44) hisR ?_
  intro p e s m args below meth c s₁ Bd hml0 hP hK
  obtain ⟨rfl, hZ, hh, hC⟩ := hP
  have hx := Bd.exec
  have hby := Bd.bytes
  have hml : c.maxLocals = 18 := hml0
  have hown : s.vm.findClass "com/example/dealt/dealt/metrics/ExpositionCounterPinLaw" = some m.cls := findClass_of_methodNamed Bd.named
  have X0 : Stand p l e room_1 s m #[.int p1, .int p2, (.long q3)] below meth c s₁ [] 0 0 := Stand.of_body Bd
  have e0 : s₁.heap = h0 := by rw [← hh, Bd.state]; rfl
  have N0 := Fr.nil n0
  have pre0 := zP p e below s₁ (ef_0 m p1 p2 q3)
  obtain ⟨T1, X1, e1, st1⟩ := own_c0 p1 p2 (.val (.long q3)) .second .unset .unset .unset .unset .unset .unset .unset .unset .unset .unset .unset .unset .unset .unset X0 hx hZ hw hby hml hown e0 One.u One.u One.u One.u
  have a4 := own_chars p1
  have a5 := own_chars ((p1.toUInt32 >>> ((8 : Int32) &&& 31).toUInt32).toInt32)
  have a6 := own_chars p2
  have a7 := own_chars ((p2.toUInt32 >>> ((8 : Int32) &&& 31).toUInt32).toInt32)
  obtain ⟨y4, hy4⟩ : ∃ y, y = ((p1 &&& (255 : Int32)).toUInt32.toUInt16.toUInt32.toInt32) := ⟨_, rfl⟩
  obtain ⟨y5, hy5⟩ : ∃ y, y = ((((p1.toUInt32 >>> ((8 : Int32) &&& 31).toUInt32).toInt32) &&& (255 : Int32)).toUInt32.toUInt16.toUInt32.toInt32) := ⟨_, rfl⟩
  obtain ⟨y6, hy6⟩ : ∃ y, y = ((p2 &&& (255 : Int32)).toUInt32.toUInt16.toUInt32.toInt32) := ⟨_, rfl⟩
  obtain ⟨y7, hy7⟩ : ∃ y, y = ((((p2.toUInt32 >>> ((8 : Int32) &&& 31).toUInt32).toInt32) &&& (255 : Int32)).toUInt32.toUInt16.toUInt32.toInt32) := ⟨_, rfl⟩
  rw [← hy4, ← hy5, ← hy6, ← hy7] at st1
  rw [← hy4] at a4
  rw [← hy5] at a5
  rw [← hy6] at a6
  rw [← hy7] at a7
  clear hy4 hy5 hy6 hy7
  obtain ⟨T2, L2, X2, N2, K2, S2, st2⟩ := own_s8 (.val (.int p1)) (.val (.int p2)) (.val (.long q3)) .second y4 y5 (.val (.int y6)) (.val (.int y7)) .unset .unset .unset .unset .unset .unset .unset .unset .unset .unset n0 X1 hx hZ hw hby hml hown e1 CS O a4 a5 Z0 N0 One.u
  have Z2 := Nat.le_trans Z0 K2.1
  have O2 := O.keep K2 all0
  obtain ⟨T3, L3, X3, N3, K3, S3, st3⟩ := own_s9 (.val (.int p1)) (.val (.int p2)) (.val (.long q3)) .second (.val (.int y4)) (.val (.int y5)) y6 y7 (.val (.ref h0.size)) .unset .unset .unset .unset .unset .unset .unset .unset .unset n0 X2 hx hZ hw hby hml hown rfl CS O2 a6 a7 Z2 N2 One.u
  have Z3 := Nat.le_trans Z2 K3.1
  have O3 := O2.keep K3 all0
  obtain ⟨T4, L4, X4, N4, K4, ⟨b, t0, Ex, FT, SB, hbb, htt⟩, st4⟩ := own_x (.val (.int p1)) (.val (.int p2)) (.val (.long q3)) .second (.val (.int y4)) (.val (.int y5)) (.val (.int y6)) (.val (.int y7)) (.val (.ref h0.size)) (.val (.ref T2.heap.size)) .unset .unset .unset .unset .unset .unset .unset .unset n0 X3 hx hZ hw hby hml hown rfl CS O3 Z3 N3 One.u
  have Z4 := Nat.le_trans Z3 K4.1
  have O4 := O3.keep K4 all0
  have hC4 : CHv Z own_EL s.vm T4.heap := ((hC.keep K2 all0).keep K3 all0).keep K4 all0
  obtain ⟨nn, hn, hnx⟩ := Jvm.Free.SBG.negL_of q3
  have ha := own_ab q3 nn hn hnx
  have Snm := own_Sn.mk (S2.keep0 K3) K4 htt
  have Shp := own_Sn.mk S3 K4 htt
  obtain ⟨T5, vm5, L5, k5, tt, X5, S5, hk5, hZ5, hown5, N5, Z5, O5, St5, st5⟩ := own_mid (s := s) (.val (.int p1)) (.val (.int p2)) (.val (.int y4)) (.val (.int y5)) (.val (.int y6)) (.val (.int y7)) .unset .unset .unset .unset .unset .unset .unset q3 h0.size T2.heap.size T3.heap.size b t0 ([nar .char y4, nar .char y5] : List Int32) ([nar .char y6, nar .char y7] : List Int32) nn n0 X4 hx hZ hw hwS hC4 hby hml hown rfl Z4 N4 One.u CS O4 Ex FT SB (Nat.le_trans Z3 hbb) (Nat.le_trans Z3 htt) Snm rfl Shp rfl hn hnx DG
  obtain ⟨T6, L6, ke, X6, N6, K6, V6, st6⟩ := own_e (s := s.setVm vm5) (.val (.int p1)) (.val (.int p2)) (.val (.long q3)) .second y4 y5 y6 y7 (.val (.ref h0.size)) (.val (.ref T2.heap.size)) (.val (.ref T3.heap.size)) (.val (.ref tt)) .unset .unset .unset .unset .unset .unset n0 X5 hx hZ5 hw hby hml hown5 rfl Z5 N5 One.u
  have Z6 := Nat.le_trans Z5 K6.1
  obtain ⟨T7, L7, kp, X7, N7, K7, P7, st7⟩ := own_pw (s := s.setVm vm5) (.val (.int p1)) (.val (.int p2)) (.val (.long q3)) .second (.val (.int y4)) (.val (.int y5)) (.val (.int y6)) (.val (.int y7)) (.val (.ref h0.size)) (.val (.ref T2.heap.size)) (.val (.ref T3.heap.size)) (.val (.ref tt)) (.val (.ref T5.heap.size)) .unset .unset .unset .unset .unset n0 X6 hx hZ5 hw hby hml hown5 rfl Z6 N6 One.u
  have Z7 := Nat.le_trans Z6 K7.1
  have V7 := V6.keep K7 nin0
  have ho : T6.heap.size ≠ T5.heap.size := Nat.ne_of_gt V6.lt
  have g12 : n0 ≤ T5.heap.size := Z5
  have KK7 : Keep T5.heap T7.heap [] := K6.trans K7 all0
  have hNeg : ∃ (T8 : State) (L8 : List Loc), Stand p l e own_R0 (s.setVm vm5) m #[.int p1, .int p2, (.long q3)] below meth c T8 L8 39 1877 ∧ Fr n0 L8 ∧ Keep T7.heap T8.heap [T5.heap.size] ∧ Arv Z T8.heap T5.heap.size ke .char (55 : Int32) ((own_e1 q3 y4 y5 y6 y7).map Value.int) (.int 0) ∧ ∀ target, Steps p.tables e below (T8.setTop (mkF m 584 #[.val (.int p1), .val (.int p2), .val (.long q3), .second, .val (.int y4), .val (.int y5), .val (.int y6), .val (.int y7), .val (.ref h0.size), .val (.ref T2.heap.size), .val (.ref T3.heap.size), .val (.ref tt), .val (.ref T5.heap.size), .val (.ref T6.heap.size), .val (.int (Int32.ofNat (own_sg q3))), .unset, .unset, .unset] [])) target → Steps p.tables e below (T7.setTop (mkF m 558 #[.val (.int p1), .val (.int p2), .val (.long q3), .second, .val (.int y4), .val (.int y5), .val (.int y6), .val (.int y7), .val (.ref h0.size), .val (.ref T2.heap.size), .val (.ref T3.heap.size), .val (.ref tt), .val (.ref T5.heap.size), .val (.ref T6.heap.size), .unset, .unset, .unset, .unset] [])) target := by
    by_cases hv : q3 < 0
    · obtain ⟨T8, L8, X8, N8, K8, V8, st8⟩ := own_ngn (s := s.setVm vm5) (.val (.int p1)) (.val (.int p2)) q3 (.val (.int y4)) (.val (.int y5)) (.val (.int y6)) (.val (.int y7)) (.val (.ref h0.size)) (.val (.ref T2.heap.size)) (.val (.ref T3.heap.size)) (.val (.ref tt)) T5.heap.size (.val (.ref T6.heap.size)) .unset .unset .unset .unset (own_e0 y4 y5 y6 y7) ke n0 X7 hx hZ5 hw hby hml hown5 rfl V7 (own_e0_len _ _ _ _) Z7 N7 (by decide) (by decide) One.u g12 ((lw_lt _ _).mpr hv) ((lw_lt _ _).mpr hv)
      refine ⟨T8, L8, X8, N8, K8, ?_, ?_⟩
      · rw [show (own_e1 q3 y4 y5 y6 y7) = (own_e0 y4 y5 y6 y7).set 34 (nar .char 45) from if_pos hv]; exact V8
      · rw [show own_sg q3 = 1 from if_pos hv]; exact st8
    · obtain ⟨T8, X8, e8, st8⟩ := own_ngp (s := s.setVm vm5) (.val (.int p1)) (.val (.int p2)) q3 (.val (.int y4)) (.val (.int y5)) (.val (.int y6)) (.val (.int y7)) (.val (.ref h0.size)) (.val (.ref T2.heap.size)) (.val (.ref T3.heap.size)) (.val (.ref tt)) (.val (.ref T5.heap.size)) (.val (.ref T6.heap.size)) .unset .unset .unset .unset X7 hx hZ5 hw hby hml hown5 rfl One.u (fun q => hv ((lw_lt _ _).mp q)) (fun q => hv ((lw_lt _ _).mp q))
      refine ⟨T8, L7, X8, N7, by rw [e8]; exact Keep.refl _ _, ?_, ?_⟩
      · rw [e8, show (own_e1 q3 y4 y5 y6 y7) = own_e0 y4 y5 y6 y7 from if_neg hv]; exact V7
      · rw [show own_sg q3 = 0 from if_neg hv]; exact st8
  obtain ⟨T8, L8, X8, N8, K8, V8, st8⟩ := hNeg
  have Z8 := Nat.le_trans Z7 K8.1
  have KK8 := KK7.trans K8 (allS (Or.inr (Nat.le_refl _)) all0)
  have P8 := P7.keep K8 (ninS ho nin0)
  obtain ⟨T9, L9, X9, N9, e9, st9⟩ := own_nzs (s := s.setVm vm5) (.val (.int p1)) (.val (.int p2)) q3 (.val (.int y4)) (.val (.int y5)) (.val (.int y6)) (.val (.int y7)) (.val (.ref h0.size)) (.val (.ref T2.heap.size)) (.val (.ref T3.heap.size)) (.val (.ref tt)) (.val (.ref T5.heap.size)) T6.heap.size (Int32.ofNat (own_sg q3)) .unset .unset .unset nn kp n0 X8 hx hZ5 hw hby hml hown5 rfl P8 ha Z8 N8 (by decide) (by decide) One.u One.u
  have hD := own_dg19 nn hn
  have hsg : own_sg q3 = 0 ∨ own_sg q3 = 1 := by unfold own_sg; split <;> omega
  have hs54 : (34 + own_sg q3) + (Jvm.Free.SBG.digitsL nn) ≤ 54 := by omega
  have eN := own_nd (Jvm.Free.SBG.digitsL nn) (by omega) hD.1
  have e34 : (34 : Int32) + (Int32.ofNat (own_sg q3)) = (Int32.ofNat (34 + own_sg q3)) := (Int32.ofNat_add 34 _).symm
  rw [eN, e34] at st9
  have VP0 : Arv Z T9.heap T5.heap.size ke .char (55 : Int32) ((own_puts (own_e1 q3 y4 y5 y6 y7) (34 + own_sg q3) (Jvm.Free.SBG.digitsL nn) (own_f q3) 0).map Value.int) (.int 0) := by rw [e9]; exact V8
  have PP0 : Arv Z T9.heap T6.heap.size kp .long (19 : Int32) (own_p.map Value.long) (.long 0) := by rw [e9]; exact P8
  have KP0 : Keep T5.heap T9.heap [] := by rw [e9]; exact KK8
  obtain ⟨T10, L10, X10, N10, K10, VV10, st10⟩ := own_put0 (s := s.setVm vm5) (.val (.int p1)) (.val (.int p2)) q3 (.val (.int y4)) (.val (.int y5)) (.val (.int y6)) (.val (.int y7)) (.val (.ref h0.size)) (.val (.ref T2.heap.size)) (.val (.ref T3.heap.size)) (.val (.ref tt)) T5.heap.size T6.heap.size (.val (.int (Int32.ofNat (own_sg q3)))) (Int32.ofNat (Jvm.Free.SBG.digitsL nn)) (Int32.ofNat (34 + own_sg q3)) .unset (34 + own_sg q3) (Jvm.Free.SBG.digitsL nn) (own_puts (own_e1 q3 y4 y5 y6 y7) (34 + own_sg q3) (Jvm.Free.SBG.digitsL nn) (own_f q3) 0) ke kp n0 X9 hx hZ5 hw hby hml hown5 rfl VP0 PP0 (by rw [own_puts_len, own_e1_len]) rfl rfl hs54 g12 (Nat.le_trans Z5 KP0.1) N9 (by decide) (by decide)
  have VP1 : Arv Z T10.heap T5.heap.size ke .char (55 : Int32) ((own_puts (own_e1 q3 y4 y5 y6 y7) (34 + own_sg q3) (Jvm.Free.SBG.digitsL nn) (own_f q3) 1).map Value.int) (.int 0) := VV10
  have PP1 := PP0.keep K10 (ninS ho nin0)
  have KP1 := KP0.trans K10 (allS (Or.inr (Nat.le_refl _)) all0)
  obtain ⟨T11, L11, X11, N11, K11, VV11, st11⟩ := own_put1 (s := s.setVm vm5) (.val (.int p1)) (.val (.int p2)) q3 (.val (.int y4)) (.val (.int y5)) (.val (.int y6)) (.val (.int y7)) (.val (.ref h0.size)) (.val (.ref T2.heap.size)) (.val (.ref T3.heap.size)) (.val (.ref tt)) T5.heap.size T6.heap.size (.val (.int (Int32.ofNat (own_sg q3)))) (Int32.ofNat (Jvm.Free.SBG.digitsL nn)) (Int32.ofNat (34 + own_sg q3)) .unset (34 + own_sg q3) (Jvm.Free.SBG.digitsL nn) (own_puts (own_e1 q3 y4 y5 y6 y7) (34 + own_sg q3) (Jvm.Free.SBG.digitsL nn) (own_f q3) 1) ke kp n0 X10 hx hZ5 hw hby hml hown5 rfl VP1 PP1 (by rw [own_puts_len, own_e1_len]) rfl rfl hs54 g12 (Nat.le_trans Z5 KP1.1) N10 (by decide) (by decide)
  have VP2 : Arv Z T11.heap T5.heap.size ke .char (55 : Int32) ((own_puts (own_e1 q3 y4 y5 y6 y7) (34 + own_sg q3) (Jvm.Free.SBG.digitsL nn) (own_f q3) 2).map Value.int) (.int 0) := VV11
  have PP2 := PP1.keep K11 (ninS ho nin0)
  have KP2 := KP1.trans K11 (allS (Or.inr (Nat.le_refl _)) all0)
  obtain ⟨T12, L12, X12, N12, K12, VV12, st12⟩ := own_put2 (s := s.setVm vm5) (.val (.int p1)) (.val (.int p2)) q3 (.val (.int y4)) (.val (.int y5)) (.val (.int y6)) (.val (.int y7)) (.val (.ref h0.size)) (.val (.ref T2.heap.size)) (.val (.ref T3.heap.size)) (.val (.ref tt)) T5.heap.size T6.heap.size (.val (.int (Int32.ofNat (own_sg q3)))) (Int32.ofNat (Jvm.Free.SBG.digitsL nn)) (Int32.ofNat (34 + own_sg q3)) .unset (34 + own_sg q3) (Jvm.Free.SBG.digitsL nn) (own_puts (own_e1 q3 y4 y5 y6 y7) (34 + own_sg q3) (Jvm.Free.SBG.digitsL nn) (own_f q3) 2) ke kp n0 X11 hx hZ5 hw hby hml hown5 rfl VP2 PP2 (by rw [own_puts_len, own_e1_len]) rfl rfl hs54 g12 (Nat.le_trans Z5 KP2.1) N11 (by decide) (by decide)
  have VP3 : Arv Z T12.heap T5.heap.size ke .char (55 : Int32) ((own_puts (own_e1 q3 y4 y5 y6 y7) (34 + own_sg q3) (Jvm.Free.SBG.digitsL nn) (own_f q3) 3).map Value.int) (.int 0) := VV12
  have PP3 := PP2.keep K12 (ninS ho nin0)
  have KP3 := KP2.trans K12 (allS (Or.inr (Nat.le_refl _)) all0)
  obtain ⟨T13, L13, X13, N13, K13, VV13, st13⟩ := own_put3 (s := s.setVm vm5) (.val (.int p1)) (.val (.int p2)) q3 (.val (.int y4)) (.val (.int y5)) (.val (.int y6)) (.val (.int y7)) (.val (.ref h0.size)) (.val (.ref T2.heap.size)) (.val (.ref T3.heap.size)) (.val (.ref tt)) T5.heap.size T6.heap.size (.val (.int (Int32.ofNat (own_sg q3)))) (Int32.ofNat (Jvm.Free.SBG.digitsL nn)) (Int32.ofNat (34 + own_sg q3)) .unset (34 + own_sg q3) (Jvm.Free.SBG.digitsL nn) (own_puts (own_e1 q3 y4 y5 y6 y7) (34 + own_sg q3) (Jvm.Free.SBG.digitsL nn) (own_f q3) 3) ke kp n0 X12 hx hZ5 hw hby hml hown5 rfl VP3 PP3 (by rw [own_puts_len, own_e1_len]) rfl rfl hs54 g12 (Nat.le_trans Z5 KP3.1) N12 (by decide) (by decide)
  have VP4 : Arv Z T13.heap T5.heap.size ke .char (55 : Int32) ((own_puts (own_e1 q3 y4 y5 y6 y7) (34 + own_sg q3) (Jvm.Free.SBG.digitsL nn) (own_f q3) 4).map Value.int) (.int 0) := VV13
  have PP4 := PP3.keep K13 (ninS ho nin0)
  have KP4 := KP3.trans K13 (allS (Or.inr (Nat.le_refl _)) all0)
  obtain ⟨T14, L14, X14, N14, K14, VV14, st14⟩ := own_put4 (s := s.setVm vm5) (.val (.int p1)) (.val (.int p2)) q3 (.val (.int y4)) (.val (.int y5)) (.val (.int y6)) (.val (.int y7)) (.val (.ref h0.size)) (.val (.ref T2.heap.size)) (.val (.ref T3.heap.size)) (.val (.ref tt)) T5.heap.size T6.heap.size (.val (.int (Int32.ofNat (own_sg q3)))) (Int32.ofNat (Jvm.Free.SBG.digitsL nn)) (Int32.ofNat (34 + own_sg q3)) .unset (34 + own_sg q3) (Jvm.Free.SBG.digitsL nn) (own_puts (own_e1 q3 y4 y5 y6 y7) (34 + own_sg q3) (Jvm.Free.SBG.digitsL nn) (own_f q3) 4) ke kp n0 X13 hx hZ5 hw hby hml hown5 rfl VP4 PP4 (by rw [own_puts_len, own_e1_len]) rfl rfl hs54 g12 (Nat.le_trans Z5 KP4.1) N13 (by decide) (by decide)
  have VP5 : Arv Z T14.heap T5.heap.size ke .char (55 : Int32) ((own_puts (own_e1 q3 y4 y5 y6 y7) (34 + own_sg q3) (Jvm.Free.SBG.digitsL nn) (own_f q3) 5).map Value.int) (.int 0) := VV14
  have PP5 := PP4.keep K14 (ninS ho nin0)
  have KP5 := KP4.trans K14 (allS (Or.inr (Nat.le_refl _)) all0)
  obtain ⟨T15, L15, X15, N15, K15, VV15, st15⟩ := own_put5 (s := s.setVm vm5) (.val (.int p1)) (.val (.int p2)) q3 (.val (.int y4)) (.val (.int y5)) (.val (.int y6)) (.val (.int y7)) (.val (.ref h0.size)) (.val (.ref T2.heap.size)) (.val (.ref T3.heap.size)) (.val (.ref tt)) T5.heap.size T6.heap.size (.val (.int (Int32.ofNat (own_sg q3)))) (Int32.ofNat (Jvm.Free.SBG.digitsL nn)) (Int32.ofNat (34 + own_sg q3)) .unset (34 + own_sg q3) (Jvm.Free.SBG.digitsL nn) (own_puts (own_e1 q3 y4 y5 y6 y7) (34 + own_sg q3) (Jvm.Free.SBG.digitsL nn) (own_f q3) 5) ke kp n0 X14 hx hZ5 hw hby hml hown5 rfl VP5 PP5 (by rw [own_puts_len, own_e1_len]) rfl rfl hs54 g12 (Nat.le_trans Z5 KP5.1) N14 (by decide) (by decide)
  have VP6 : Arv Z T15.heap T5.heap.size ke .char (55 : Int32) ((own_puts (own_e1 q3 y4 y5 y6 y7) (34 + own_sg q3) (Jvm.Free.SBG.digitsL nn) (own_f q3) 6).map Value.int) (.int 0) := VV15
  have PP6 := PP5.keep K15 (ninS ho nin0)
  have KP6 := KP5.trans K15 (allS (Or.inr (Nat.le_refl _)) all0)
  obtain ⟨T16, L16, X16, N16, K16, VV16, st16⟩ := own_put6 (s := s.setVm vm5) (.val (.int p1)) (.val (.int p2)) q3 (.val (.int y4)) (.val (.int y5)) (.val (.int y6)) (.val (.int y7)) (.val (.ref h0.size)) (.val (.ref T2.heap.size)) (.val (.ref T3.heap.size)) (.val (.ref tt)) T5.heap.size T6.heap.size (.val (.int (Int32.ofNat (own_sg q3)))) (Int32.ofNat (Jvm.Free.SBG.digitsL nn)) (Int32.ofNat (34 + own_sg q3)) .unset (34 + own_sg q3) (Jvm.Free.SBG.digitsL nn) (own_puts (own_e1 q3 y4 y5 y6 y7) (34 + own_sg q3) (Jvm.Free.SBG.digitsL nn) (own_f q3) 6) ke kp n0 X15 hx hZ5 hw hby hml hown5 rfl VP6 PP6 (by rw [own_puts_len, own_e1_len]) rfl rfl hs54 g12 (Nat.le_trans Z5 KP6.1) N15 (by decide) (by decide)
  have VP7 : Arv Z T16.heap T5.heap.size ke .char (55 : Int32) ((own_puts (own_e1 q3 y4 y5 y6 y7) (34 + own_sg q3) (Jvm.Free.SBG.digitsL nn) (own_f q3) 7).map Value.int) (.int 0) := VV16
  have PP7 := PP6.keep K16 (ninS ho nin0)
  have KP7 := KP6.trans K16 (allS (Or.inr (Nat.le_refl _)) all0)
  obtain ⟨T17, L17, X17, N17, K17, VV17, st17⟩ := own_put7 (s := s.setVm vm5) (.val (.int p1)) (.val (.int p2)) q3 (.val (.int y4)) (.val (.int y5)) (.val (.int y6)) (.val (.int y7)) (.val (.ref h0.size)) (.val (.ref T2.heap.size)) (.val (.ref T3.heap.size)) (.val (.ref tt)) T5.heap.size T6.heap.size (.val (.int (Int32.ofNat (own_sg q3)))) (Int32.ofNat (Jvm.Free.SBG.digitsL nn)) (Int32.ofNat (34 + own_sg q3)) .unset (34 + own_sg q3) (Jvm.Free.SBG.digitsL nn) (own_puts (own_e1 q3 y4 y5 y6 y7) (34 + own_sg q3) (Jvm.Free.SBG.digitsL nn) (own_f q3) 7) ke kp n0 X16 hx hZ5 hw hby hml hown5 rfl VP7 PP7 (by rw [own_puts_len, own_e1_len]) rfl rfl hs54 g12 (Nat.le_trans Z5 KP7.1) N16 (by decide) (by decide)
  have VP8 : Arv Z T17.heap T5.heap.size ke .char (55 : Int32) ((own_puts (own_e1 q3 y4 y5 y6 y7) (34 + own_sg q3) (Jvm.Free.SBG.digitsL nn) (own_f q3) 8).map Value.int) (.int 0) := VV17
  have PP8 := PP7.keep K17 (ninS ho nin0)
  have KP8 := KP7.trans K17 (allS (Or.inr (Nat.le_refl _)) all0)
  obtain ⟨T18, L18, X18, N18, K18, VV18, st18⟩ := own_put8 (s := s.setVm vm5) (.val (.int p1)) (.val (.int p2)) q3 (.val (.int y4)) (.val (.int y5)) (.val (.int y6)) (.val (.int y7)) (.val (.ref h0.size)) (.val (.ref T2.heap.size)) (.val (.ref T3.heap.size)) (.val (.ref tt)) T5.heap.size T6.heap.size (.val (.int (Int32.ofNat (own_sg q3)))) (Int32.ofNat (Jvm.Free.SBG.digitsL nn)) (Int32.ofNat (34 + own_sg q3)) .unset (34 + own_sg q3) (Jvm.Free.SBG.digitsL nn) (own_puts (own_e1 q3 y4 y5 y6 y7) (34 + own_sg q3) (Jvm.Free.SBG.digitsL nn) (own_f q3) 8) ke kp n0 X17 hx hZ5 hw hby hml hown5 rfl VP8 PP8 (by rw [own_puts_len, own_e1_len]) rfl rfl hs54 g12 (Nat.le_trans Z5 KP8.1) N17 (by decide) (by decide)
  have VP9 : Arv Z T18.heap T5.heap.size ke .char (55 : Int32) ((own_puts (own_e1 q3 y4 y5 y6 y7) (34 + own_sg q3) (Jvm.Free.SBG.digitsL nn) (own_f q3) 9).map Value.int) (.int 0) := VV18
  have PP9 := PP8.keep K18 (ninS ho nin0)
  have KP9 := KP8.trans K18 (allS (Or.inr (Nat.le_refl _)) all0)
  obtain ⟨T19, L19, X19, N19, K19, VV19, st19⟩ := own_put9 (s := s.setVm vm5) (.val (.int p1)) (.val (.int p2)) q3 (.val (.int y4)) (.val (.int y5)) (.val (.int y6)) (.val (.int y7)) (.val (.ref h0.size)) (.val (.ref T2.heap.size)) (.val (.ref T3.heap.size)) (.val (.ref tt)) T5.heap.size T6.heap.size (.val (.int (Int32.ofNat (own_sg q3)))) (Int32.ofNat (Jvm.Free.SBG.digitsL nn)) (Int32.ofNat (34 + own_sg q3)) .unset (34 + own_sg q3) (Jvm.Free.SBG.digitsL nn) (own_puts (own_e1 q3 y4 y5 y6 y7) (34 + own_sg q3) (Jvm.Free.SBG.digitsL nn) (own_f q3) 9) ke kp n0 X18 hx hZ5 hw hby hml hown5 rfl VP9 PP9 (by rw [own_puts_len, own_e1_len]) rfl rfl hs54 g12 (Nat.le_trans Z5 KP9.1) N18 (by decide) (by decide)
  have VP10 : Arv Z T19.heap T5.heap.size ke .char (55 : Int32) ((own_puts (own_e1 q3 y4 y5 y6 y7) (34 + own_sg q3) (Jvm.Free.SBG.digitsL nn) (own_f q3) 10).map Value.int) (.int 0) := VV19
  have PP10 := PP9.keep K19 (ninS ho nin0)
  have KP10 := KP9.trans K19 (allS (Or.inr (Nat.le_refl _)) all0)
  obtain ⟨T20, L20, X20, N20, K20, VV20, st20⟩ := own_put10 (s := s.setVm vm5) (.val (.int p1)) (.val (.int p2)) q3 (.val (.int y4)) (.val (.int y5)) (.val (.int y6)) (.val (.int y7)) (.val (.ref h0.size)) (.val (.ref T2.heap.size)) (.val (.ref T3.heap.size)) (.val (.ref tt)) T5.heap.size T6.heap.size (.val (.int (Int32.ofNat (own_sg q3)))) (Int32.ofNat (Jvm.Free.SBG.digitsL nn)) (Int32.ofNat (34 + own_sg q3)) .unset (34 + own_sg q3) (Jvm.Free.SBG.digitsL nn) (own_puts (own_e1 q3 y4 y5 y6 y7) (34 + own_sg q3) (Jvm.Free.SBG.digitsL nn) (own_f q3) 10) ke kp n0 X19 hx hZ5 hw hby hml hown5 rfl VP10 PP10 (by rw [own_puts_len, own_e1_len]) rfl rfl hs54 g12 (Nat.le_trans Z5 KP10.1) N19 (by decide) (by decide)
  have VP11 : Arv Z T20.heap T5.heap.size ke .char (55 : Int32) ((own_puts (own_e1 q3 y4 y5 y6 y7) (34 + own_sg q3) (Jvm.Free.SBG.digitsL nn) (own_f q3) 11).map Value.int) (.int 0) := VV20
  have PP11 := PP10.keep K20 (ninS ho nin0)
  have KP11 := KP10.trans K20 (allS (Or.inr (Nat.le_refl _)) all0)
  obtain ⟨T21, L21, X21, N21, K21, VV21, st21⟩ := own_put11 (s := s.setVm vm5) (.val (.int p1)) (.val (.int p2)) q3 (.val (.int y4)) (.val (.int y5)) (.val (.int y6)) (.val (.int y7)) (.val (.ref h0.size)) (.val (.ref T2.heap.size)) (.val (.ref T3.heap.size)) (.val (.ref tt)) T5.heap.size T6.heap.size (.val (.int (Int32.ofNat (own_sg q3)))) (Int32.ofNat (Jvm.Free.SBG.digitsL nn)) (Int32.ofNat (34 + own_sg q3)) .unset (34 + own_sg q3) (Jvm.Free.SBG.digitsL nn) (own_puts (own_e1 q3 y4 y5 y6 y7) (34 + own_sg q3) (Jvm.Free.SBG.digitsL nn) (own_f q3) 11) ke kp n0 X20 hx hZ5 hw hby hml hown5 rfl VP11 PP11 (by rw [own_puts_len, own_e1_len]) rfl rfl hs54 g12 (Nat.le_trans Z5 KP11.1) N20 (by decide) (by decide)
  have VP12 : Arv Z T21.heap T5.heap.size ke .char (55 : Int32) ((own_puts (own_e1 q3 y4 y5 y6 y7) (34 + own_sg q3) (Jvm.Free.SBG.digitsL nn) (own_f q3) 12).map Value.int) (.int 0) := VV21
  have PP12 := PP11.keep K21 (ninS ho nin0)
  have KP12 := KP11.trans K21 (allS (Or.inr (Nat.le_refl _)) all0)
  obtain ⟨T22, L22, X22, N22, K22, VV22, st22⟩ := own_put12 (s := s.setVm vm5) (.val (.int p1)) (.val (.int p2)) q3 (.val (.int y4)) (.val (.int y5)) (.val (.int y6)) (.val (.int y7)) (.val (.ref h0.size)) (.val (.ref T2.heap.size)) (.val (.ref T3.heap.size)) (.val (.ref tt)) T5.heap.size T6.heap.size (.val (.int (Int32.ofNat (own_sg q3)))) (Int32.ofNat (Jvm.Free.SBG.digitsL nn)) (Int32.ofNat (34 + own_sg q3)) .unset (34 + own_sg q3) (Jvm.Free.SBG.digitsL nn) (own_puts (own_e1 q3 y4 y5 y6 y7) (34 + own_sg q3) (Jvm.Free.SBG.digitsL nn) (own_f q3) 12) ke kp n0 X21 hx hZ5 hw hby hml hown5 rfl VP12 PP12 (by rw [own_puts_len, own_e1_len]) rfl rfl hs54 g12 (Nat.le_trans Z5 KP12.1) N21 (by decide) (by decide)
  have VP13 : Arv Z T22.heap T5.heap.size ke .char (55 : Int32) ((own_puts (own_e1 q3 y4 y5 y6 y7) (34 + own_sg q3) (Jvm.Free.SBG.digitsL nn) (own_f q3) 13).map Value.int) (.int 0) := VV22
  have PP13 := PP12.keep K22 (ninS ho nin0)
  have KP13 := KP12.trans K22 (allS (Or.inr (Nat.le_refl _)) all0)
  obtain ⟨T23, L23, X23, N23, K23, VV23, st23⟩ := own_put13 (s := s.setVm vm5) (.val (.int p1)) (.val (.int p2)) q3 (.val (.int y4)) (.val (.int y5)) (.val (.int y6)) (.val (.int y7)) (.val (.ref h0.size)) (.val (.ref T2.heap.size)) (.val (.ref T3.heap.size)) (.val (.ref tt)) T5.heap.size T6.heap.size (.val (.int (Int32.ofNat (own_sg q3)))) (Int32.ofNat (Jvm.Free.SBG.digitsL nn)) (Int32.ofNat (34 + own_sg q3)) .unset (34 + own_sg q3) (Jvm.Free.SBG.digitsL nn) (own_puts (own_e1 q3 y4 y5 y6 y7) (34 + own_sg q3) (Jvm.Free.SBG.digitsL nn) (own_f q3) 13) ke kp n0 X22 hx hZ5 hw hby hml hown5 rfl VP13 PP13 (by rw [own_puts_len, own_e1_len]) rfl rfl hs54 g12 (Nat.le_trans Z5 KP13.1) N22 (by decide) (by decide)
  have VP14 : Arv Z T23.heap T5.heap.size ke .char (55 : Int32) ((own_puts (own_e1 q3 y4 y5 y6 y7) (34 + own_sg q3) (Jvm.Free.SBG.digitsL nn) (own_f q3) 14).map Value.int) (.int 0) := VV23
  have PP14 := PP13.keep K23 (ninS ho nin0)
  have KP14 := KP13.trans K23 (allS (Or.inr (Nat.le_refl _)) all0)
  obtain ⟨T24, L24, X24, N24, K24, VV24, st24⟩ := own_put14 (s := s.setVm vm5) (.val (.int p1)) (.val (.int p2)) q3 (.val (.int y4)) (.val (.int y5)) (.val (.int y6)) (.val (.int y7)) (.val (.ref h0.size)) (.val (.ref T2.heap.size)) (.val (.ref T3.heap.size)) (.val (.ref tt)) T5.heap.size T6.heap.size (.val (.int (Int32.ofNat (own_sg q3)))) (Int32.ofNat (Jvm.Free.SBG.digitsL nn)) (Int32.ofNat (34 + own_sg q3)) .unset (34 + own_sg q3) (Jvm.Free.SBG.digitsL nn) (own_puts (own_e1 q3 y4 y5 y6 y7) (34 + own_sg q3) (Jvm.Free.SBG.digitsL nn) (own_f q3) 14) ke kp n0 X23 hx hZ5 hw hby hml hown5 rfl VP14 PP14 (by rw [own_puts_len, own_e1_len]) rfl rfl hs54 g12 (Nat.le_trans Z5 KP14.1) N23 (by decide) (by decide)
  have VP15 : Arv Z T24.heap T5.heap.size ke .char (55 : Int32) ((own_puts (own_e1 q3 y4 y5 y6 y7) (34 + own_sg q3) (Jvm.Free.SBG.digitsL nn) (own_f q3) 15).map Value.int) (.int 0) := VV24
  have PP15 := PP14.keep K24 (ninS ho nin0)
  have KP15 := KP14.trans K24 (allS (Or.inr (Nat.le_refl _)) all0)
  obtain ⟨T25, L25, X25, N25, K25, VV25, st25⟩ := own_put15 (s := s.setVm vm5) (.val (.int p1)) (.val (.int p2)) q3 (.val (.int y4)) (.val (.int y5)) (.val (.int y6)) (.val (.int y7)) (.val (.ref h0.size)) (.val (.ref T2.heap.size)) (.val (.ref T3.heap.size)) (.val (.ref tt)) T5.heap.size T6.heap.size (.val (.int (Int32.ofNat (own_sg q3)))) (Int32.ofNat (Jvm.Free.SBG.digitsL nn)) (Int32.ofNat (34 + own_sg q3)) .unset (34 + own_sg q3) (Jvm.Free.SBG.digitsL nn) (own_puts (own_e1 q3 y4 y5 y6 y7) (34 + own_sg q3) (Jvm.Free.SBG.digitsL nn) (own_f q3) 15) ke kp n0 X24 hx hZ5 hw hby hml hown5 rfl VP15 PP15 (by rw [own_puts_len, own_e1_len]) rfl rfl hs54 g12 (Nat.le_trans Z5 KP15.1) N24 (by decide) (by decide)
  have VP16 : Arv Z T25.heap T5.heap.size ke .char (55 : Int32) ((own_puts (own_e1 q3 y4 y5 y6 y7) (34 + own_sg q3) (Jvm.Free.SBG.digitsL nn) (own_f q3) 16).map Value.int) (.int 0) := VV25
  have PP16 := PP15.keep K25 (ninS ho nin0)
  have KP16 := KP15.trans K25 (allS (Or.inr (Nat.le_refl _)) all0)
  obtain ⟨T26, L26, X26, N26, K26, VV26, st26⟩ := own_put16 (s := s.setVm vm5) (.val (.int p1)) (.val (.int p2)) q3 (.val (.int y4)) (.val (.int y5)) (.val (.int y6)) (.val (.int y7)) (.val (.ref h0.size)) (.val (.ref T2.heap.size)) (.val (.ref T3.heap.size)) (.val (.ref tt)) T5.heap.size T6.heap.size (.val (.int (Int32.ofNat (own_sg q3)))) (Int32.ofNat (Jvm.Free.SBG.digitsL nn)) (Int32.ofNat (34 + own_sg q3)) .unset (34 + own_sg q3) (Jvm.Free.SBG.digitsL nn) (own_puts (own_e1 q3 y4 y5 y6 y7) (34 + own_sg q3) (Jvm.Free.SBG.digitsL nn) (own_f q3) 16) ke kp n0 X25 hx hZ5 hw hby hml hown5 rfl VP16 PP16 (by rw [own_puts_len, own_e1_len]) rfl rfl hs54 g12 (Nat.le_trans Z5 KP16.1) N25 (by decide) (by decide)
  have VP17 : Arv Z T26.heap T5.heap.size ke .char (55 : Int32) ((own_puts (own_e1 q3 y4 y5 y6 y7) (34 + own_sg q3) (Jvm.Free.SBG.digitsL nn) (own_f q3) 17).map Value.int) (.int 0) := VV26
  have PP17 := PP16.keep K26 (ninS ho nin0)
  have KP17 := KP16.trans K26 (allS (Or.inr (Nat.le_refl _)) all0)
  obtain ⟨T27, L27, X27, N27, K27, VV27, st27⟩ := own_put17 (s := s.setVm vm5) (.val (.int p1)) (.val (.int p2)) q3 (.val (.int y4)) (.val (.int y5)) (.val (.int y6)) (.val (.int y7)) (.val (.ref h0.size)) (.val (.ref T2.heap.size)) (.val (.ref T3.heap.size)) (.val (.ref tt)) T5.heap.size T6.heap.size (.val (.int (Int32.ofNat (own_sg q3)))) (Int32.ofNat (Jvm.Free.SBG.digitsL nn)) (Int32.ofNat (34 + own_sg q3)) .unset (34 + own_sg q3) (Jvm.Free.SBG.digitsL nn) (own_puts (own_e1 q3 y4 y5 y6 y7) (34 + own_sg q3) (Jvm.Free.SBG.digitsL nn) (own_f q3) 17) ke kp n0 X26 hx hZ5 hw hby hml hown5 rfl VP17 PP17 (by rw [own_puts_len, own_e1_len]) rfl rfl hs54 g12 (Nat.le_trans Z5 KP17.1) N26 (by decide) (by decide)
  have VP18 : Arv Z T27.heap T5.heap.size ke .char (55 : Int32) ((own_puts (own_e1 q3 y4 y5 y6 y7) (34 + own_sg q3) (Jvm.Free.SBG.digitsL nn) (own_f q3) 18).map Value.int) (.int 0) := VV27
  have PP18 := PP17.keep K27 (ninS ho nin0)
  have KP18 := KP17.trans K27 (allS (Or.inr (Nat.le_refl _)) all0)
  obtain ⟨T28, L28, X28, N28, K28, VV28, st28⟩ := own_put18 (s := s.setVm vm5) (.val (.int p1)) (.val (.int p2)) q3 (.val (.int y4)) (.val (.int y5)) (.val (.int y6)) (.val (.int y7)) (.val (.ref h0.size)) (.val (.ref T2.heap.size)) (.val (.ref T3.heap.size)) (.val (.ref tt)) T5.heap.size T6.heap.size (.val (.int (Int32.ofNat (own_sg q3)))) (Int32.ofNat (Jvm.Free.SBG.digitsL nn)) (Int32.ofNat (34 + own_sg q3)) .unset (34 + own_sg q3) (Jvm.Free.SBG.digitsL nn) (own_puts (own_e1 q3 y4 y5 y6 y7) (34 + own_sg q3) (Jvm.Free.SBG.digitsL nn) (own_f q3) 18) ke kp n0 X27 hx hZ5 hw hby hml hown5 rfl VP18 PP18 (by rw [own_puts_len, own_e1_len]) rfl rfl hs54 g12 (Nat.le_trans Z5 KP18.1) N27 (by decide) (by decide)
  have VP19 : Arv Z T28.heap T5.heap.size ke .char (55 : Int32) ((own_puts (own_e1 q3 y4 y5 y6 y7) (34 + own_sg q3) (Jvm.Free.SBG.digitsL nn) (own_f q3) 19).map Value.int) (.int 0) := VV28
  have PP19 := PP18.keep K28 (ninS ho nin0)
  have KP19 := KP18.trans K28 (allS (Or.inr (Nat.le_refl _)) all0)
  obtain ⟨T29, L29, X29, N29, K29, V29, st29⟩ := own_fin (s := s.setVm vm5) (.val (.int p1)) (.val (.int p2)) (.val (.long q3)) .second (.val (.int y4)) (.val (.int y5)) (.val (.int y6)) (.val (.int y7)) (.val (.ref h0.size)) (.val (.ref T2.heap.size)) (.val (.ref T3.heap.size)) (.val (.ref tt)) T5.heap.size (.val (.ref T6.heap.size)) (.val (.int (Int32.ofNat (own_sg q3)))) (Int32.ofNat (Jvm.Free.SBG.digitsL nn)) (Int32.ofNat (34 + own_sg q3)) .unset (own_puts (own_e1 q3 y4 y5 y6 y7) (34 + own_sg q3) (Jvm.Free.SBG.digitsL nn) (own_f q3) 19) ke (34 + own_sg q3) (Jvm.Free.SBG.digitsL nn) n0 X28 hx hZ5 hw hby hml hown5 rfl VP19 (by rw [own_puts_len, own_e1_len]) rfl rfl hs54 (Nat.le_trans Z5 KP19.1) N28 (by decide) (by decide) g12 One.u
  have KP29 := KP19.trans K29 (allS (Or.inr (Nat.le_refl _)) all0)
  have hnl : (34 + own_sg q3) + (Jvm.Free.SBG.digitsL nn) + 1 = (35 + (own_num q3 nn).length) := by rw [own_num_sg]; omega
  have e17 : (((Int32.ofNat (34 + own_sg q3)) + (Int32.ofNat (Jvm.Free.SBG.digitsL nn))) + (1 : Int32)) = Int32.ofNat (35 + (own_num q3 nn).length) := by rw [← Int32.ofNat_add, ← hnl, Int32.ofNat_add _ 1]; rfl
  rw [e17] at st29
  have O29 := O5.keep KP29 all0
  have hnl2 := own_num_sg q3 nn
  have hlB : (own_blk ([nar .char y4, nar .char y5] : List Int32) ([nar .char y6, nar .char y7] : List Int32) q3 nn).length = (35 + (own_num q3 nn).length) := own_blk_len _ _ _ _ rfl rfl
  have hM : ∀ off, off = 0 ∨ off = (35 + (own_num q3 nn).length) → own_M Z T29.heap tt T5.heap.size (35 + (own_num q3 nn).length) off ((own_blk ([nar .char y4, nar .char y5] : List Int32) ([nar .char y6, nar .char y7] : List Int32) q3 nn) ++ (own_blk ([nar .char y4, nar .char y5] : List Int32) ([nar .char y6, nar .char y7] : List Int32) q3 nn)) (own_e3 q3 nn y4 y5 y6 y7) ke := fun off hoff => ⟨St5.keep0 KP29, (by
      have hb1 := own_blk_lat ([nar .char y4, nar .char y5] : List Int32) ([nar .char y6, nar .char y7] : List Int32) q3 nn (fun c hc => by simp only [List.mem_cons, List.not_mem_nil, or_false] at hc; rcases hc with rfl | rfl; exact a4; exact a5) (fun c hc => by simp only [List.mem_cons, List.not_mem_nil, or_false] at hc; rcases hc with rfl | rfl; exact a6; exact a7)
      intro c hc
      exact (List.mem_append.mp hc).elim (hb1 c) (hb1 c)), CS.ext O29.2, FM.ext O29.2, V29, (by unfold own_e3; rw [List.length_set, own_puts_len, own_e1_len]), (by omega), (by rw [List.length_append, hlB]; omega), hoff, fun i hi => own_match2 q3 nn y4 y5 y6 y7 ha (35 + (own_num q3 nn).length) off rfl hoff i hi⟩
  obtain ⟨T30, L30, X30, N30, e30, st30⟩ := own_tl (s := s.setVm vm5) (.val (.int p1)) (.val (.int p2)) (.val (.long q3)) .second (.val (.int y4)) (.val (.int y5)) (.val (.int y6)) (.val (.int y7)) (.val (.ref h0.size)) (.val (.ref T2.heap.size)) (.val (.ref T3.heap.size)) tt T5.heap.size (.val (.ref T6.heap.size)) (.val (.int (Int32.ofNat (own_sg q3)))) (.val (.int (Int32.ofNat (Jvm.Free.SBG.digitsL nn)))) (.val (.int (Int32.ofNat (34 + own_sg q3)))) (Int32.ofNat (35 + (own_num q3 nn).length)) ((own_blk ([nar .char y4, nar .char y5] : List Int32) ([nar .char y6, nar .char y7] : List Int32) q3 nn) ++ (own_blk ([nar .char y4, nar .char y5] : List Int32) ([nar .char y6, nar .char y7] : List Int32) q3 nn)) (own_e3 q3 nn y4 y5 y6 y7) ke (35 + (own_num q3 nn).length) n0 X29 hx hZ5 hw hby hml hown5 rfl (hM 0 (Or.inl rfl)) (hM _ (Or.inr rfl)) rfl (Nat.le_trans Z5 KP29.1) N29 (by decide) (by decide) (by rw [(hM 0 (Or.inl rfl)).hl, Int32.ofNat_mul]; rfl) (by decide) (by decide)
  obtain ⟨fs, hr, hrun, hended, hRW⟩ := X30.leaveW (s := s) S5 (by rw [e30]; exact Nat.le_trans hk5 KP29.1) (v := some (.int 1)) (fun h => by rw [Bd.returns] at h; cases h)
  refine ⟨_, _, pre0 _ ?_, hrun, hended, _, _, rfl, ?_, ⟨hRW.1, hRW.2.1, hRW.2.2.1, hRW.2.2.2.mono (by decide) (by decide)⟩⟩
  · refine st1 _ (st2 _ (st3 _ (st4 _ (st5 _ (st6 _ (st7 _ (st8 _ (st9 _ ?_))))))))
    refine st10 _ (st11 _ (st12 _ (st13 _ (st14 _ (st15 _ (st16 _ (st17 _ (st18 _ (st19 _ (st20 _ (st21 _ (st22 _ (st23 _ (st24 _ (st25 _ (st26 _ (st27 _ (st28 _ (st29 _ (st30 _ ?_))))))))))))))))))))
    refine XS.iconst X30.here hx rfl (hb hby at_1138) ?_
    refine XS.goto X30.here hx rfl (pc0 := 1139) (pc' := 1143) rfl (hb hby at_1139) (by decide) (by decide) ?_
    exact retN X30 hx (t := .boolean) Bd.returns (by simp) (hb hby at_1143) hr
  · exact ⟨rfl, N30⟩
open Jvm.Free.SBG in
theorem own_tbl {a : Array Value} {s : State} {name : String} {rhs : Term} {F : Nat → Nat} (h1 : (Cond.laysStatic INT name "[B").before a s = true) (h2 : (Cond.exactly (Tof name) "[B").before a s = true) (h3 : (Cond.eq (.length (Tof name)) (.int 100)).before a s = true) (hini : (Cond.initialized INT).before a s = true) (harr : (Cond.arrayClass .byte).before a s = true) (hrhs : ∀ r, r < 100 → rhs.eval a s none [r] s = some (.int (Int32.ofNat (F r)))) (hall : (Cond.all (Tof name) (.eq (.elem (Tof name) (.index 0)) rhs)).before a s = true) :
    ∃ (c : ClassId) (k : Class) (st d : Addr) (D : Cell), s.vm.findClass INT = some c ∧ s.vm.classes[c]? = some k ∧ k.statics = some st ∧ Tbl s name st d D ∧ ∀ r, r < 100 → iAt D r = Int32.ofNat (F r) := by
  obtain ⟨c, k, i, f, st, cell, hc, hi, hst, ha, hcell, hs, -⟩ := Cond.laysStatic_spec h1
  obtain ⟨d, cB, D, kB, hev, hfcB, hcellD, hkB, hstatD, hclsD, -⟩ := Cond.exactly_spec h2
  have hevI : ∀ idx, (Tof name).eval a s none idx s = some (.ref d) := fun idx => hev
  have hsl : cell.slots[f.slot]? = some (.ref d) := by
    rw [← Jvm.Free.AList.static_eval' (args := a) (first := s) (o := none) (idx := []) hi hst ha hcell hs]; exact hev
  have hl := Cond.eq_int h3 rfl
  obtain ⟨d', D', hev', harrAt, hlen⟩ := Term.length_spec hl
  cases hev.symm.trans hev'
  obtain ⟨hcellD', hknD, -, -⟩ := State.arrayAt?_spec harrAt
  cases hcellD.symm.trans hcellD'
  have h31 := Jvm.Free.SBG.length_lt hev harrAt hl
  have hsz : D.slots.size = 100 := by
    have q : Int32.ofNat D.slots.size = Int32.ofNat 100 := by simpa using hlen.symm
    have := congrArg Int32.toInt q
    rw [Int32.toInt_ofNat_of_lt (by omega), Int32.toInt_ofNat_of_lt (by omega)] at this; omega
  obtain ⟨cB', kB', comp, hnameB, hkB', hkindB⟩ := Cond.arrayClass_spec harr
  have eBA : ("[" ++ FieldType.toString .byte) = "[B" := by decide
  rw [eBA] at hnameB
  cases hfcB.symm.trans hnameB
  cases hkB.symm.trans hkB'
  have hel : ∀ r, r < 100 → D.slots[r]? = some (.int (Int32.ofNat (F r))) := fun r hr => by
    have h := Cond.all_elim (hevI []) harrAt (Jvm.Free.AList.val_of_holds hall) r (by omega)
    have eL : (Term.elem (Tof name) (.index 0)).eval a s none [r] s = D.slots[r]? := Jvm.Free.SBG.elem_at (ix := .index 0) (hevI [r]) harrAt (by omega) (by omega) rfl
    have hv := Array.getElem?_eq_getElem (show r < D.slots.size by omega)
    rw [hv] at eL ⊢
    cases e : D.slots[r]'(by omega) with
    | int x =>
      rw [e] at eL
      rw [Cond.eq_ints eL (hrhs r hr)] at h
      rw [of_decide_eq_true (Option.some.inj h)]
    | _ => rw [e] at eL; simp [Cond.value, eL, hrhs r hr] at h
  refine ⟨c, k, st, d, D, hc, (State.fieldFound?_spec hi).1, ha, ⟨c, i, k, f, cell, hi, hst, Cond.initialized_spec hc (State.fieldFound?_spec hi).1 hini, ha, hcell, (fun q => by rw [q] at hs; cases hs), hsl, hcellD,
    ⟨(fun q h => by rw [h] at hstatD; cases hstatD), kB, (by rw [hclsD]; exact hkB), comp, hkindB⟩, hknD, hsz, fun r hr => ?_⟩, fun r hr => ?_⟩
  · have q := hel r hr
    rw [q]; simp [iAt, Array.getD_eq_getD_getElem?, q]
  · have q := hel r hr
    simp [iAt, Array.getD_eq_getD_getElem?, q]
open Jvm.Free.SBG in
theorem own_DGof {a : Array Value} {s : State} (hini : (Cond.initialized INT).before a s = true) (harr : (Cond.arrayClass .byte).before a s = true) (o1 : (Cond.laysStatic INT "DigitOnes" "[B").before a s = true) (o2 : (Cond.exactly (Tof "DigitOnes") "[B").before a s = true) (o3 : (Cond.eq (.length (Tof "DigitOnes")) (.int 100)).before a s = true) (o4 : onesW.before a s = true) (t1 : (Cond.laysStatic INT "DigitTens" "[B").before a s = true) (t2 : (Cond.exactly (Tof "DigitTens") "[B").before a s = true) (t3 : (Cond.eq (.length (Tof "DigitTens")) (.int 100)).before a s = true) (t4 : tensW.before a s = true) : own_DG s := by
  obtain ⟨c, k, st, d, D, h1, h2, h3, hT, hO⟩ := own_tbl (F := fun r => 48 + r % 10) o1 o2 o3 hini harr (fun r hr => by rw [← ones_num r hr]; rfl) o4
  obtain ⟨c', k', st', d', D', h1', h2', h3', hT', hO'⟩ := own_tbl (F := fun r => 48 + r / 10) t1 t2 t3 hini harr (fun r hr => by rw [← tens_num r hr]; rfl) t4
  cases h1.symm.trans h1'
  cases h2.symm.trans h2'
  cases h3.symm.trans h3'
  exact ⟨st, d, D, d', D', hT, hO, hT', hO'⟩
theorem own_perm : ∀ p ∈ own_EL, p ∈ consts_1 := by decide
theorem own_isRef {args : Array Value} {s : State} {t : Term} (h : (Cond.isRef t).value args s none s [] = some true) : ∃ v, t.eval args s none [] s = some v ∧ v.isRef = true := by
  cases hv : t.eval args s none [] s with
  | none => simp [Cond.value, hv] at h
  | some v => exact ⟨v, rfl, by cases v <;> simp_all [Cond.value, Value.isRef]⟩
theorem own_isL {args : Array Value} {s : State} {t : Term} (h : (Cond.isLong t).value args s none s [] = some true) : ∃ v : Int64, t.eval args s none [] s = some (.long v) := by
  cases hv : t.eval args s none [] s with
  | none => simp [Cond.value, hv] at h
  | some v => cases v <;> simp_all [Cond.value]
theorem own_eqv {args : Array Value} {s : State} {t : Term} {k : Int32} (h : (Cond.eq t (.int k)).value args s none s [] = some true) : t.eval args s none [] s = some (.int k) := by
  obtain ⟨x, y, hx, hy, k1, k2⟩ := cmp_v (Or.inl h)
  obtain rfl : y = .int k := (Option.some.inj ((Term.int_eval k).symm.trans hy)).symm
  obtain ⟨z, rfl⟩ := k2
  rw [hx]; congr 2
  exact gotT (Cond.eq_ints hx hy) h
theorem own_eqr {args : Array Value} {s : State} {t u : Term} {b : Addr} (h : (Cond.eq t u).value args s none s [] = some true) (hu : u.eval args s none [] s = some (.ref b)) : t.eval args s none [] s = some (.ref b) := by
  obtain ⟨x, y, hx, hy, k1, k2⟩ := cmp_v (Or.inl h)
  obtain rfl : y = .ref b := (Option.some.inj (hu.symm.trans hy)).symm
  rw [hx]; congr 1
  exact gotT (eq_R hx hy k2.2 rfl) h
theorem own_len {args : Array Value} {s : State} {t : Term} {a : Addr} {cl : Cell} {n : Int32} (h : (Term.length t).eval args s none [] s = some (.int n)) (ht : t.eval args s none [] s = some (.ref a)) (hc : s.heap[a]? = some cl) : cl.slots.size = n.toNatClampNeg ∧ ¬ n < 0 := by
  obtain ⟨a', cell, e1, e2, e3⟩ := Term.length_spec h
  cases ht.symm.trans e1
  cases hc.symm.trans (State.arrayAt?_spec e2).1
  have hl : cl.slots.size < 2 ^ 31 := by
    by_cases hn : cl.slots.size < 2147483648
    · exact hn
    · simp [Term.eval, ht, e2, hn] at h
  have q := len_toInt hl
  cases e3
  refine ⟨?_, fun hh => ?_⟩
  · simp only [Int32.toNatClampNeg, q]; rfl
  · rw [Int32.lt_iff_toInt_lt, q] at hh
    have z0 : (0 : Int32).toInt = 0 := by decide
    omega
theorem comes_1 {Post : Tables → Env → Array Value → State → Outcome → State → Prop} (hpost : ∀ tb e args s v u, (limb_1_1.after args s (.returned v) u = true ∧ limb_1_2.after args s (.returned v) u = true ∧ True) → ReturnedEndW s (.returned v) u (Jvm.fieldLocs frame_1_writes args s ++ Jvm.arrayLocs frame_1_arrays args s ++ Jvm.staticLocs frame_1_statics s) 48 5120 → Post tb e args s (.returned v) u) :
    ArmFor flags0 classFile x code maxLocals ret World_1 tables_1 room_1 Calls_1 rest_1 Pre_1 Post := by
  intro l hfl _ _ p e ha hc hk s m args below hf hA hF happ hP
  obtain ⟨hcalls, hrest, hpre⟩ := hP
  obtain ⟨-, -, -, hnamed, -, -, -, hat⟩ := (Spec.applies_iff hf).mp happ
  obtain ⟨hg, hn⟩ := and_e (Cond.before_iff.mp (show (Jvm.Cond.and given_1 narrow_1).before args s = true from hpre))
  obtain ⟨g0, r0⟩ := and_e hg
  obtain ⟨g1, r1_⟩ := and_e r0
  obtain ⟨g2, g3⟩ := and_e r1_
  obtain ⟨w0, w1, w2, rfl⟩ : ∃ w0 w1 w2 : Value, args = #[w0, w1, w2] := by
    have hs : args.size = 3 := by simpa [Cond.value, given_1] using g0
    obtain ⟨L⟩ := args
    match L, hs with
    | [w0, w1, w2], _ => exact ⟨w0, w1, w2, rfl⟩
  have hw := fun d (hd : d ∈ tables_1) => atoms_spec (ws := Jvm.Cond.code x code maxLocals ret :: tables_1) hat d (List.mem_cons_of_mem _ hd)
  obtain ⟨hsets, hown0⟩ := atoms_of _ (rest_1_c_eq ▸ (show rest_1_c.before _ s = true from hrest))
  obtain ⟨i0, ei0⟩ := is_v g1
  obtain rfl : w0 = (.int i0) := Option.some.inj ei0
  obtain ⟨i1, ei1⟩ := is_v g2
  obtain rfl : w1 = (.int i1) := Option.some.inj ei1
  obtain ⟨j2, ei2⟩ := own_isL g3
  obtain rfl : w2 = (.long j2) := Option.some.inj ei2
  have n5 := not_v (Cond.before_iff.mp (hsets _ (List.mem_of_getElem? (i := 2) rfl)))
  obtain ⟨G1, e9⟩ := is_v (Cond.before_iff.mp (hsets _ (List.mem_of_getElem? (i := 1) rfl)))
  have SCS : Sta s s.heap "java/lang/String" "COMPACT_STRINGS" "Z" (.int G1) := Sta.start e9 (Or.inl (hsets _ (List.mem_of_getElem? (i := 0) rfl)))
  have hcs : ¬ (G1 = (0 : Int32)) := gotF (Cond.eq_ints e9 (Term.int_eval (0))) n5
  obtain ⟨fm, ef, rf⟩ := own_isRef (Cond.before_iff.mp (hsets _ (List.mem_of_getElem? (i := 8) rfl)))
  have SFM : Sta s s.heap "jdk/internal/util/Preconditions" "SIOOBE_FORMATTER" "Ljava/util/function/BiFunction;" fm := Sta.start ef (Or.inl (hsets _ (List.mem_of_getElem? (i := 7) rfl)))
  have hDG : own_DG s := own_DGof (hsets _ (List.mem_of_getElem? (i := 9) rfl)) (zW hw 19 rfl) (hsets _ (List.mem_of_getElem? (i := 10) rfl)) (hsets _ (List.mem_of_getElem? (i := 12) rfl)) (hsets _ (List.mem_of_getElem? (i := 13) rfl)) (hsets _ (List.mem_of_getElem? (i := 14) rfl)) (hsets _ (List.mem_of_getElem? (i := 15) rfl)) (hsets _ (List.mem_of_getElem? (i := 17) rfl)) (hsets _ (List.mem_of_getElem? (i := 18) rfl)) (hsets _ (List.mem_of_getElem? (i := 19) rfl))
  have hwS : ∀ d ∈ Bundle.stringAtoms, d.before #[.int i0, .int i1, (.long j2)] s = true := fun d hd => hw d ((by decide +kernel : ∀ d ∈ Bundle.stringAtoms, d ∈ tables_1) d hd)
  have hCH : CHv s own_EL s.vm s.heap := CHv.start (own_EW hw) (fun p hp => hcalls.1 p (own_perm p hp)) (hsets _ (List.mem_of_getElem? (i := 2) rfl)) (zW hw 19 rfl) (zW hw 1 rfl)
  obtain ⟨n, o, h1, h2, h3, _, L, rfl, ⟨rfl, N⟩, hq⟩ := rm0 l s _ hw hwS tables_1 i0 i1 j2 s.heap s.heap.size (Nat.le_refl _) (Old.start s) ⟨G1, SCS, hcs⟩ ⟨fm, SFM, rf⟩ hDG p e ha hc hk s m _ below hf ((Spec.applies_iff_loose hf).mp happ).1 ⟨rfl, State.Warmed39.refl s, rfl, hCH⟩ trivial
  exact ⟨n, _, h1, h2, h3, hpost _ _ _ _ _ _ ⟨Cond.after_iff.mpr rfl, Cond.after_iff.mpr (eq_i res_at (Term.int_eval (1)) rfl), trivial⟩ ⟨hq.1, hq.2.1, hq.2.2.1, (hq.2.2.2.sift fun y hy => Or.inr (N y hy)).mono (by decide) (by decide)⟩⟩
theorem main_1_1 : Claimed_1_1 := comes_1 fun _ _ _ _ _ _ h hF => ⟨h.1, hF⟩
theorem main_1_2 : Claimed_1_2 := comes_1 fun _ _ _ _ _ _ h hF => ⟨h.2.1, hF⟩
end Jvm.Pilot.@@N@@
namespace Jvm.Pilot.@@N@@
open Jvm Jvm.ClassFile Sem Op Lib Jvm.Free Jvm.Stand Jvm.Pilot.@@N@@.Jvm.D
/-! MADE BY PROGRAM (witnessworld.py) out of the Statement's table words and the real class files: 31 classes; the members and pool entries that the words name. The judged class is class 1, her method 1. -/
namespace start1
open Jvm.ClassFile
def u (s : String) : CpInfo := .utf8 (stringToUtf16 s)
/-- a pool by its gaps: so many unusable entries, then the entry; so many at the end -/
def gap : Nat → List CpInfo → List CpInfo
  | 0, r => r
  | n + 1, r => .unusable :: gap n r
def poolList (es : List (Nat × CpInfo)) (last : Nat) : List CpInfo := es.foldr (fun e r => gap e.1 (e.2 :: r)) (gap last [])
def pool (es : List (Nat × CpInfo)) (last : Nat) : Array CpInfo := ⟨poolList es last⟩
def fileOf (pool : Array CpInfo) (this : Nat) (attrs : Array Attribute := #[]) (ms : Array MethodInfo := #[]) (fl : Nat := 33) (sup : Nat := 0) (ifs : Array Nat := #[]) (fds : Array FieldInfo := #[]) : ClassFile where
  minorVersion := 0
  majorVersion := 65
  constantPool := pool
  accessFlags := fl
  thisClass := this
  superClass := sup
  interfaces := ifs
  fields := fds
  methods := ms
  attributes := attrs
def plain (name : String) (sup : Option ClassId) : Class where
  name := name
  kind := .ordinary
  loader := none
  accessFlags := 33
  super := sup
  interfaces := #[]
  cf := none
  fields := #[]
  methods := #[]
  instanceTypes := #[]
  staticTypes := #[]
  resolved := #[]
  callSites := []
  init := .initialized
  statics := none
  mirror := none

def pool0 : Array CpInfo := pool [(5, u "<init>"), (0, u "()V"), (1, .class_ 10), (1, u "java/lang/Object")] 113

def k0c0 : Code := { maxStack := 0, maxLocals := 1, code := object_method_1_code, exceptionTable := #[], attributes := #[] }
def k0m0 : Method := { name := "<init>", desc := "()V", sig := { parameters := [], returnType := none }, accessFlags := 1, code := some k0c0 }
/-- java/lang/Object -/
def k0 : Class := { plain "java/lang/Object" none with
  accessFlags := 33
  interfaces := #[]
  cf := some (fileOf pool0 8 #[] #[{ accessFlags := 1, nameIndex := 5, descriptorIndex := 6, attributes := #[] }] 33 0 #[] #[])
  fields := #[]
  methods := #[k0m0]
  instanceTypes := #[]
  staticTypes := #[]
  resolved := Array.replicate 124 none
  statics := none }

def pool1 : Array CpInfo := pool [(2, .class_ 4), (0, .nameAndType 5 6), (0, u "java/lang/Object"), (0, u "<init>"), (0, u "()V"), (0, .class_ 8), (0, u "java/lang/String"), (0, .methodref 7 10), (0, .nameAndType 5 11), (0, u "([C)V"), (0, .class_ 13), (0, u "com/example/dealt/dealt/metrics/Exposition"), (0, .methodref 12 3), (0, .methodref 12 16), (0, .nameAndType 17 18), (0, u "counter"), (0, u "(Ljava/lang/String;Ljava/lang/String;J)V"), (0, .methodref 12 20), (0, .nameAndType 21 22), (0, u "text"), (0, u "()Ljava/lang/String;"), (0, .long 10), (1, .long 100), (1, .long 1000), (1, .long 10000), (1, .long 100000), (1, .long 1000000), (1, .long 10000000), (1, .long 100000000), (1, .long 1000000000), (1, .long 10000000000), (1, .long 100000000000), (1, .long 1000000000000), (1, .long 10000000000000), (1, .long 100000000000000), (1, .long 1000000000000000), (1, .long 10000000000000000), (1, .long 100000000000000000), (1, .long 1000000000000000000), (1, .methodref 60 61), (0, .class_ 62), (0, .nameAndType 63 64), (0, u "com/example/dealt/dealt/metrics/ExpositionCounterPinLaw"), (0, u "nz"), (0, u "(JJ)I"), (0, .methodref 60 66), (0, .nameAndType 67 68), (0, u "put"), (0, u "([CIIIJJ)V"), (0, .methodref 7 70), (0, .nameAndType 71 72), (0, u "length"), (0, u "()I"), (0, .methodref 60 74), (0, .nameAndType 75 76), (0, u "block"), (0, u "(Ljava/lang/String;[CII)Z"), (0, .methodref 78 79), (0, .class_ 80), (0, .nameAndType 81 82), (0, u "java/lang/Math"), (0, u "abs"), (0, u "(J)J"), (0, .methodref 7 84), (0, .nameAndType 85 86), (0, u "charAt"), (0, u "(I)C"), (0, .methodref 60 88), (0, .nameAndType 89 90), (0, u "q"), (0, u "(Ljava/lang/String;[CIII)Z"), (0, .methodref 60 92), (0, .nameAndType 93 90), (0, u "five"), (2, u "law"), (0, u "(IIJ)Z")] 7

def k1m0 : Method := { name := "<init>", desc := "()V", sig := { parameters := [], returnType := none }, accessFlags := 1, code := none }
def k1c1 : Code := { maxStack := 8, maxLocals := 18, code := code, exceptionTable := #[], attributes := #[] }
def k1m1 : Method := { name := "law", desc := "(IIJ)Z", sig := { parameters := [.int, .int, .long], returnType := some .boolean }, accessFlags := 9, code := some k1c1 }
def k1c2 : Code := { maxStack := 4, maxLocals := 4, code := method_3_code, exceptionTable := #[], attributes := #[] }
def k1m2 : Method := { name := "nz", desc := "(JJ)I", sig := { parameters := [.long, .long], returnType := some .int }, accessFlags := 10, code := some k1c2 }
def k1c3 : Code := { maxStack := 7, maxLocals := 8, code := method_4_code, exceptionTable := #[], attributes := #[] }
def k1m3 : Method := { name := "put", desc := "([CIIIJJ)V", sig := { parameters := [(.array .char), .int, .int, .int, .long, .long], returnType := none }, accessFlags := 10, code := some k1c3 }
def k1c4 : Code := { maxStack := 3, maxLocals := 5, code := method_5_code, exceptionTable := #[], attributes := #[] }
def k1m4 : Method := { name := "q", desc := "(Ljava/lang/String;[CIII)Z", sig := { parameters := [(.object "java/lang/String"), (.array .char), .int, .int, .int], returnType := some .boolean }, accessFlags := 10, code := some k1c4 }
def k1c5 : Code := { maxStack := 6, maxLocals := 5, code := method_6_code, exceptionTable := #[], attributes := #[] }
def k1m5 : Method := { name := "five", desc := "(Ljava/lang/String;[CIII)Z", sig := { parameters := [(.object "java/lang/String"), (.array .char), .int, .int, .int], returnType := some .boolean }, accessFlags := 10, code := some k1c5 }
def k1c6 : Code := { maxStack := 5, maxLocals := 4, code := method_7_code, exceptionTable := #[], attributes := #[] }
def k1m6 : Method := { name := "block", desc := "(Ljava/lang/String;[CII)Z", sig := { parameters := [(.object "java/lang/String"), (.array .char), .int, .int], returnType := some .boolean }, accessFlags := 10, code := some k1c6 }
/-- com/example/dealt/dealt/metrics/ExpositionCounterPinLaw -/
def k1 : Class := { plain "com/example/dealt/dealt/metrics/ExpositionCounterPinLaw" (some 0) with
  accessFlags := 49
  interfaces := #[]
  cf := some (fileOf pool1 60 #[] #[{ accessFlags := 1, nameIndex := 5, descriptorIndex := 6, attributes := #[] }, { accessFlags := 9, nameIndex := 96, descriptorIndex := 97, attributes := #[] }, { accessFlags := 10, nameIndex := 63, descriptorIndex := 64, attributes := #[] }, { accessFlags := 10, nameIndex := 67, descriptorIndex := 68, attributes := #[] }, { accessFlags := 10, nameIndex := 89, descriptorIndex := 90, attributes := #[] }, { accessFlags := 10, nameIndex := 93, descriptorIndex := 90, attributes := #[] }, { accessFlags := 10, nameIndex := 75, descriptorIndex := 76, attributes := #[] }] 49 2 #[] #[])
  fields := #[]
  methods := #[k1m0, k1m1, k1m2, k1m3, k1m4, k1m5, k1m6]
  instanceTypes := #[]
  staticTypes := #[]
  resolved := Array.replicate 105 none
  statics := none }

def pool2 : Array CpInfo := pool [(1, .class_ 2), (0, u "java/io/Serializable"), (0, .class_ 4), (0, u "java/lang/Object")] 2

/-- java/io/Serializable -/
def k2 : Class := { plain "java/io/Serializable" (some 0) with
  accessFlags := 1537
  interfaces := #[]
  cf := some (fileOf pool2 1 #[] #[] 1537 3 #[] #[])
  fields := #[]
  methods := #[]
  instanceTypes := #[]
  staticTypes := #[]
  resolved := Array.replicate 7 none
  statics := none }

def pool3 : Array CpInfo := pool [(1, .class_ 2), (0, u "java/lang/Comparable"), (0, .class_ 4), (0, u "java/lang/Object")] 7

/-- java/lang/Comparable -/
def k3 : Class := { plain "java/lang/Comparable" (some 0) with
  accessFlags := 1537
  interfaces := #[]
  cf := some (fileOf pool3 1 #[] #[] 1537 3 #[] #[])
  fields := #[]
  methods := #[]
  instanceTypes := #[]
  staticTypes := #[]
  resolved := Array.replicate 12 none
  statics := none }

def pool4 : Array CpInfo := pool [(2, .class_ 4), (1, u "java/lang/CharSequence"), (42, .class_ 48), (0, u "java/lang/CharSequence$1CodePointIterator"), (10, .class_ 60), (0, u "java/lang/CharSequence$1CharIterator"), (5, .class_ 67), (0, u "java/lang/Object")] 63

/-- java/lang/CharSequence -/
def k4 : Class := { plain "java/lang/CharSequence" (some 0) with
  accessFlags := 1537
  interfaces := #[]
  cf := some (fileOf pool4 2 #[.nestMembers #[47, 59]] #[] 1537 66 #[] #[])
  fields := #[]
  methods := #[]
  instanceTypes := #[]
  staticTypes := #[]
  resolved := Array.replicate 131 none
  statics := none }

def pool5 : Array CpInfo := pool [(1, .class_ 2), (0, u "java/lang/constant/Constable"), (0, .class_ 4), (0, u "java/lang/Object")] 6

/-- java/lang/constant/Constable -/
def k5 : Class := { plain "java/lang/constant/Constable" (some 0) with
  accessFlags := 1537
  interfaces := #[]
  cf := some (fileOf pool5 1 #[] #[] 1537 3 #[] #[])
  fields := #[]
  methods := #[]
  instanceTypes := #[]
  staticTypes := #[]
  resolved := Array.replicate 11 none
  statics := none }

def pool6 : Array CpInfo := pool [(1, .class_ 2), (0, u "java/lang/constant/ConstantDesc"), (0, .class_ 4), (0, u "java/lang/Object")] 32

/-- java/lang/constant/ConstantDesc -/
def k6 : Class := { plain "java/lang/constant/ConstantDesc" (some 0) with
  accessFlags := 1537
  interfaces := #[]
  cf := some (fileOf pool6 1 #[] #[] 1537 3 #[] #[])
  fields := #[]
  methods := #[]
  instanceTypes := #[]
  staticTypes := #[]
  resolved := Array.replicate 37 none
  statics := none }

def pool7 : Array CpInfo := pool [(1, .methodref 2 3), (0, .class_ 4), (0, .nameAndType 5 6), (0, u "java/lang/Object"), (0, u "<init>"), (0, u "()V"), (2, .fieldref 10 11), (0, .class_ 12), (0, .nameAndType 13 14), (0, u "java/lang/String"), (0, u "value"), (0, u "[B"), (0, .fieldref 10 16), (0, .nameAndType 17 18), (0, u "coder"), (0, u "B"), (2, u "hash"), (0, u "I"), (2, u "hashIsZero"), (0, u "Z"), (0, .methodref 10 28), (0, .nameAndType 5 29), (0, u "([CIILjava/lang/Void;)V"), (8, .fieldref 10 39), (0, .nameAndType 40 26), (0, u "COMPACT_STRINGS"), (1, .class_ 44), (1, u "java/lang/StringUTF16"), (0, u "compress"), (1, .methodref 42 48), (0, .nameAndType 49 50), (0, u "coderFromArrayLen"), (0, u "([BI)B"), (3, .methodref 55 56), (0, .class_ 57), (0, .nameAndType 58 59), (0, u "java/util/Arrays"), (0, u "copyOfRange"), (0, u "([BII)[B"), (47, .class_ 109), (1, u "java/lang/StringLatin1"), (32, u "()Z"), (34, .methodref 42 178), (0, .nameAndType 45 179), (0, u "([CII)[B"), (13, .class_ 195), (1, u "java/lang/System"), (16, .methodref 193 213), (0, .nameAndType 214 215), (0, u "arraycopy"), (0, u "(Ljava/lang/Object;ILjava/lang/Object;II)V"), (118, u "()I"), (0, .methodref 10 336), (0, .nameAndType 17 337), (0, u "()B"), (2, u "()[B"), (22, u "([BI)C"), (27, u "(II)V"), (35, u "(I)C"), (61, .methodref 10 490), (0, .nameAndType 5 491), (0, u "(Ljava/lang/AbstractStringBuilder;Ljava/lang/Void;)V"), (0, .methodref 10 493), (0, .nameAndType 494 142), (0, u "isLatin1"), (0, .methodref 107 496), (0, .nameAndType 497 363), (0, u "charAt"), (3, u "checkIndex"), (4, .nameAndType 507 334), (0, u "length"), (24, u "getBytes"), (16, .methodref 550 506), (0, .class_ 551), (0, u "java/lang/AbstractStringBuilder"), (0, .methodref 550 553), (0, .nameAndType 554 340), (0, u "getValue"), (20, .class_ 576), (0, u "java/lang/CharSequence"), (22, u "CASE_INSENSITIVE_ORDER"), (0, u "Ljava/util/Comparator;"), (220, u "([BIB)V"), (188, u "([C)V"), (36, .methodref 550 493), (5, .fieldref 1054 1055), (0, .class_ 1056), (0, .nameAndType 1057 1058), (0, u "jdk/internal/util/Preconditions"), (0, u "SIOOBE_FORMATTER"), (0, u "Ljava/util/function/BiFunction;"), (0, .methodref 1054 1060), (0, .nameAndType 501 1061), (0, u "(IILjava/util/function/BiFunction;)I"), (39, u "serialPersistentFields"), (0, u "[Ljava/io/ObjectStreamField;"), (0, .class_ 1104), (0, u "java/lang/String$CaseInsensitiveComparator"), (1, .class_ 1107), (0, u "java/io/Serializable"), (0, .class_ 1109), (0, u "java/lang/Comparable"), (0, .class_ 1111), (0, u "java/lang/constant/Constable"), (0, .class_ 1113), (0, u "java/lang/constant/ConstantDesc"), (2, u "serialVersionUID"), (0, u "J"), (3, u "REPL"), (0, u "C"), (2, u "LATIN1"), (1, u "UTF16"), (105, u "(Ljava/lang/StringBuilder;)V")] 217

def k7m0 : Method := { name := "<init>", desc := "()V", sig := { parameters := [], returnType := none }, accessFlags := 1, code := none }
def k7c1 : Code := { maxStack := 5, maxLocals := 2, code := jdk_42_method_3_code, exceptionTable := #[], attributes := #[] }
def k7m1 : Method := { name := "<init>", desc := "([C)V", sig := { parameters := [(.array .char)], returnType := none }, accessFlags := 1, code := some k7c1 }
def k7c2 : Code := { maxStack := 3, maxLocals := 2, code := jdk_42_method_53_code, exceptionTable := #[], attributes := #[] }
def k7m2 : Method := { name := "<init>", desc := "(Ljava/lang/StringBuilder;)V", sig := { parameters := [(.object "java/lang/StringBuilder")], returnType := none }, accessFlags := 1, code := some k7c2 }
def k7c3 : Code := { maxStack := 2, maxLocals := 1, code := jdk_42_method_54_code, exceptionTable := #[], attributes := #[] }
def k7m3 : Method := { name := "length", desc := "()I", sig := { parameters := [], returnType := some .int }, accessFlags := 1, code := some k7c3 }
def k7c4 : Code := { maxStack := 2, maxLocals := 2, code := jdk_42_method_56_code, exceptionTable := #[], attributes := #[] }
def k7m4 : Method := { name := "charAt", desc := "(I)C", sig := { parameters := [.int], returnType := some .char }, accessFlags := 1, code := some k7c4 }
def k7c5 : Code := { maxStack := 5, maxLocals := 4, code := jdk_42_method_147_code, exceptionTable := #[], attributes := #[] }
def k7m5 : Method := { name := "getBytes", desc := "([BIB)V", sig := { parameters := [(.array .byte), .int, .byte], returnType := none }, accessFlags := 0, code := some k7c5 }
def k7c6 : Code := { maxStack := 4, maxLocals := 6, code := jdk_42_method_149_code, exceptionTable := #[], attributes := #[] }
def k7m6 : Method := { name := "<init>", desc := "([CIILjava/lang/Void;)V", sig := { parameters := [(.array .char), .int, .int, (.object "java/lang/Void")], returnType := none }, accessFlags := 2, code := some k7c6 }
def k7c7 : Code := { maxStack := 5, maxLocals := 5, code := jdk_42_method_150_code, exceptionTable := #[], attributes := #[] }
def k7m7 : Method := { name := "<init>", desc := "(Ljava/lang/AbstractStringBuilder;Ljava/lang/Void;)V", sig := { parameters := [(.object "java/lang/AbstractStringBuilder"), (.object "java/lang/Void")], returnType := none }, accessFlags := 0, code := some k7c7 }
def k7c8 : Code := { maxStack := 1, maxLocals := 1, code := jdk_42_method_152_code, exceptionTable := #[], attributes := #[] }
def k7m8 : Method := { name := "coder", desc := "()B", sig := { parameters := [], returnType := some .byte }, accessFlags := 0, code := some k7c8 }
def k7c9 : Code := { maxStack := 1, maxLocals := 1, code := jdk_42_method_154_code, exceptionTable := #[], attributes := #[] }
def k7m9 : Method := { name := "isLatin1", desc := "()Z", sig := { parameters := [], returnType := some .boolean }, accessFlags := 0, code := some k7c9 }
def k7c10 : Code := { maxStack := 3, maxLocals := 2, code := jdk_42_method_155_code, exceptionTable := #[], attributes := #[] }
def k7m10 : Method := { name := "checkIndex", desc := "(II)V", sig := { parameters := [.int, .int], returnType := none }, accessFlags := 8, code := some k7c10 }
/-- java/lang/String -/
def k7 : Class := { plain "java/lang/String" (some 0) with
  accessFlags := 49
  interfaces := #[2, 3, 4, 5, 6]
  cf := some (fileOf pool7 10 #[.nestMembers #[1103]] #[{ accessFlags := 1, nameIndex := 5, descriptorIndex := 6, attributes := #[] }, { accessFlags := 1, nameIndex := 5, descriptorIndex := 1010, attributes := #[] }, { accessFlags := 1, nameIndex := 5, descriptorIndex := 1233, attributes := #[] }, { accessFlags := 1, nameIndex := 507, descriptorIndex := 334, attributes := #[] }, { accessFlags := 1, nameIndex := 497, descriptorIndex := 427, attributes := #[] }, { accessFlags := 0, nameIndex := 532, descriptorIndex := 821, attributes := #[] }, { accessFlags := 2, nameIndex := 5, descriptorIndex := 29, attributes := #[] }, { accessFlags := 0, nameIndex := 5, descriptorIndex := 491, attributes := #[] }, { accessFlags := 0, nameIndex := 17, descriptorIndex := 337, attributes := #[] }, { accessFlags := 0, nameIndex := 494, descriptorIndex := 142, attributes := #[] }, { accessFlags := 8, nameIndex := 501, descriptorIndex := 391, attributes := #[] }] 49 2 #[1106, 1108, 575, 1110, 1112] #[{ accessFlags := 18, nameIndex := 13, descriptorIndex := 14, attributes := #[] }, { accessFlags := 18, nameIndex := 17, descriptorIndex := 18, attributes := #[] }, { accessFlags := 2, nameIndex := 21, descriptorIndex := 22, attributes := #[] }, { accessFlags := 2, nameIndex := 25, descriptorIndex := 26, attributes := #[] }, { accessFlags := 26, nameIndex := 1116, descriptorIndex := 1117, attributes := #[] }, { accessFlags := 24, nameIndex := 40, descriptorIndex := 26, attributes := #[] }, { accessFlags := 26, nameIndex := 1101, descriptorIndex := 1102, attributes := #[] }, { accessFlags := 26, nameIndex := 1121, descriptorIndex := 1122, attributes := #[] }, { accessFlags := 25, nameIndex := 599, descriptorIndex := 600, attributes := #[] }, { accessFlags := 24, nameIndex := 1125, descriptorIndex := 18, attributes := #[] }, { accessFlags := 24, nameIndex := 1127, descriptorIndex := 18, attributes := #[] }])
  fields := #[{ name := "value", type := (.array .byte), accessFlags := 18, slot := 0, constantValue := 0 }, { name := "coder", type := .byte, accessFlags := 18, slot := 1, constantValue := 0 }, { name := "hash", type := .int, accessFlags := 2, slot := 2, constantValue := 0 }, { name := "hashIsZero", type := .boolean, accessFlags := 2, slot := 3, constantValue := 0 }, { name := "serialVersionUID", type := .long, accessFlags := 26, slot := 0, constantValue := 0 }, { name := "COMPACT_STRINGS", type := .boolean, accessFlags := 24, slot := 1, constantValue := 0 }, { name := "serialPersistentFields", type := (.array (.object "java/io/ObjectStreamField")), accessFlags := 26, slot := 2, constantValue := 0 }, { name := "REPL", type := .char, accessFlags := 26, slot := 3, constantValue := 0 }, { name := "CASE_INSENSITIVE_ORDER", type := (.object "java/util/Comparator"), accessFlags := 25, slot := 4, constantValue := 0 }, { name := "LATIN1", type := .byte, accessFlags := 24, slot := 5, constantValue := 0 }, { name := "UTF16", type := .byte, accessFlags := 24, slot := 6, constantValue := 0 }]
  methods := #[k7m0, k7m1, k7m2, k7m3, k7m4, k7m5, k7m6, k7m7, k7m8, k7m9, k7m10]
  instanceTypes := #[(.array .byte), .byte, .int, .boolean]
  staticTypes := #[.long, .boolean, (.array (.object "java/io/ObjectStreamField")), .char, (.object "java/util/Comparator"), .byte, .byte]
  resolved := Array.replicate 1451 none
  statics := some 0 }

def pool8 : Array CpInfo := pool [(6, .class_ 8), (1, u "java/lang/Object"), (0, u "<init>"), (0, u "()V"), (1, .class_ 14), (1, u "java/lang/StringUTF16"), (31, u "$assertionsDisabled"), (0, u "Z"), (13, u "HI_BYTE_SHIFT"), (0, u "I"), (2, u "LO_BYTE_SHIFT"), (49, .methodref 12 116), (0, .nameAndType 117 118), (0, u "compress"), (0, u "([CI[BII)I"), (3, u "([CII)[B"), (138, u "coderFromArrayLen"), (0, u "([BI)B"), (106, .class_ 371), (1, u "java/lang/StringUTF16$LinesSpliterator"), (58, u "MAX_LENGTH"), (196, .class_ 628), (0, u "java/lang/StringUTF16$CodePointsSpliterator"), (0, .class_ 630), (0, u "java/lang/StringUTF16$CharsSpliterator")] 4

def k8m0 : Method := { name := "<init>", desc := "()V", sig := { parameters := [], returnType := none }, accessFlags := 0, code := none }
def k8c1 : Code := { maxStack := 2, maxLocals := 2, code := jdk_52_method_15_code, exceptionTable := #[], attributes := #[] }
def k8m1 : Method := { name := "coderFromArrayLen", desc := "([BI)B", sig := { parameters := [(.array .byte), .int], returnType := some .byte }, accessFlags := 8, code := some k8c1 }
def k8c2 : Code := { maxStack := 5, maxLocals := 6, code := jdk_52_method_16_code, exceptionTable := #[], attributes := #[] }
def k8m2 : Method := { name := "compress", desc := "([CII)[B", sig := { parameters := [(.array .char), .int, .int], returnType := some (.array .byte) }, accessFlags := 9, code := some k8c2 }
def k8c3 : Code := { maxStack := 3, maxLocals := 7, code := jdk_52_method_21_code, exceptionTable := #[], attributes := #[] }
def k8m3 : Method := { name := "compress", desc := "([CI[BII)I", sig := { parameters := [(.array .char), .int, (.array .byte), .int, .int], returnType := some .int }, accessFlags := 9, code := some k8c3 }
/-- java/lang/StringUTF16 -/
def k8 : Class := { plain "java/lang/StringUTF16" (some 0) with
  accessFlags := 48
  interfaces := #[]
  cf := some (fileOf pool8 12 #[.nestMembers #[627, 629, 369]] #[{ accessFlags := 0, nameIndex := 9, descriptorIndex := 10, attributes := #[] }, { accessFlags := 8, nameIndex := 261, descriptorIndex := 262, attributes := #[] }, { accessFlags := 9, nameIndex := 117, descriptorIndex := 122, attributes := #[] }, { accessFlags := 9, nameIndex := 117, descriptorIndex := 118, attributes := #[] }] 48 6 #[] #[{ accessFlags := 26, nameIndex := 61, descriptorIndex := 62, attributes := #[] }, { accessFlags := 26, nameIndex := 65, descriptorIndex := 62, attributes := #[] }, { accessFlags := 24, nameIndex := 430, descriptorIndex := 62, attributes := #[] }, { accessFlags := 4120, nameIndex := 46, descriptorIndex := 47, attributes := #[] }])
  fields := #[{ name := "HI_BYTE_SHIFT", type := .int, accessFlags := 26, slot := 0, constantValue := 0 }, { name := "LO_BYTE_SHIFT", type := .int, accessFlags := 26, slot := 1, constantValue := 0 }, { name := "MAX_LENGTH", type := .int, accessFlags := 24, slot := 2, constantValue := 0 }, { name := "$assertionsDisabled", type := .boolean, accessFlags := 4120, slot := 3, constantValue := 0 }]
  methods := #[k8m0, k8m1, k8m2, k8m3]
  instanceTypes := #[]
  staticTypes := #[.int, .int, .int, .boolean]
  resolved := Array.replicate 635 none
  statics := none }

def pool9 : Array CpInfo := pool [(1, .methodref 2 3), (0, .class_ 4), (0, .nameAndType 5 6), (0, u "java/lang/Object"), (0, u "<init>"), (0, u "()V"), (0, .class_ 8), (0, u "java/lang/StringBuilder"), (0, .methodref 7 3), (0, .fieldref 11 12), (0, .class_ 13), (0, .nameAndType 14 15), (0, u "com/example/dealt/dealt/metrics/Exposition"), (0, u "text"), (0, u "Ljava/lang/StringBuilder;"), (2, .methodref 11 19), (0, .nameAndType 20 21), (0, u "head"), (0, u "(Ljava/lang/String;Ljava/lang/String;Ljava/lang/String;)V"), (0, .string 23), (0, u ""), (0, .methodref 11 25), (0, .nameAndType 26 27), (0, u "sample"), (0, u "(Ljava/lang/String;Ljava/lang/String;J)V"), (10, .string 39), (0, u "counter"), (29, .methodref 7 70), (0, .nameAndType 71 72), (0, u "append"), (0, u "(Ljava/lang/String;)Ljava/lang/StringBuilder;"), (6, .methodref 7 80), (0, .nameAndType 71 81), (0, u "(C)Ljava/lang/StringBuilder;"), (1, .methodref 7 84), (0, .nameAndType 85 86), (0, u "toString"), (0, u "()Ljava/lang/String;"), (0, .string 88), (0, u "# HELP "), (0, .string 90), (0, u "# TYPE "), (0, .methodref 7 92), (0, .nameAndType 71 93), (0, u "(J)Ljava/lang/StringBuilder;"), (21, u "CONTENT_TYPE"), (0, u "Ljava/lang/String;")] 57

def k9c0 : Code := { maxStack := 3, maxLocals := 1, code := prog_28_method_1_code, exceptionTable := #[], attributes := #[] }
def k9m0 : Method := { name := "<init>", desc := "()V", sig := { parameters := [], returnType := none }, accessFlags := 1, code := some k9c0 }
def k9c1 : Code := { maxStack := 5, maxLocals := 5, code := prog_28_method_4_code, exceptionTable := #[], attributes := #[] }
def k9m1 : Method := { name := "counter", desc := "(Ljava/lang/String;Ljava/lang/String;J)V", sig := { parameters := [(.object "java/lang/String"), (.object "java/lang/String"), .long], returnType := none }, accessFlags := 1, code := some k9c1 }
def k9c2 : Code := { maxStack := 1, maxLocals := 1, code := prog_28_method_7_code, exceptionTable := #[], attributes := #[] }
def k9m2 : Method := { name := "text", desc := "()Ljava/lang/String;", sig := { parameters := [], returnType := some (.object "java/lang/String") }, accessFlags := 1, code := some k9c2 }
def k9c3 : Code := { maxStack := 2, maxLocals := 4, code := prog_28_method_8_code, exceptionTable := #[], attributes := #[] }
def k9m3 : Method := { name := "head", desc := "(Ljava/lang/String;Ljava/lang/String;Ljava/lang/String;)V", sig := { parameters := [(.object "java/lang/String"), (.object "java/lang/String"), (.object "java/lang/String")], returnType := none }, accessFlags := 2, code := some k9c3 }
def k9c4 : Code := { maxStack := 3, maxLocals := 5, code := prog_28_method_9_code, exceptionTable := #[], attributes := #[] }
def k9m4 : Method := { name := "sample", desc := "(Ljava/lang/String;Ljava/lang/String;J)V", sig := { parameters := [(.object "java/lang/String"), (.object "java/lang/String"), .long], returnType := none }, accessFlags := 2, code := some k9c4 }
/-- com/example/dealt/dealt/metrics/Exposition -/
def k9 : Class := { plain "com/example/dealt/dealt/metrics/Exposition" (some 0) with
  accessFlags := 33
  interfaces := #[]
  cf := some (fileOf pool9 11 #[] #[{ accessFlags := 1, nameIndex := 5, descriptorIndex := 6, attributes := #[] }, { accessFlags := 1, nameIndex := 39, descriptorIndex := 27, attributes := #[] }, { accessFlags := 1, nameIndex := 14, descriptorIndex := 86, attributes := #[] }, { accessFlags := 2, nameIndex := 20, descriptorIndex := 21, attributes := #[] }, { accessFlags := 2, nameIndex := 26, descriptorIndex := 27, attributes := #[] }] 33 2 #[] #[{ accessFlags := 25, nameIndex := 115, descriptorIndex := 116, attributes := #[] }, { accessFlags := 18, nameIndex := 14, descriptorIndex := 15, attributes := #[] }])
  fields := #[{ name := "CONTENT_TYPE", type := (.object "java/lang/String"), accessFlags := 25, slot := 0, constantValue := 0 }, { name := "text", type := (.object "java/lang/StringBuilder"), accessFlags := 18, slot := 0, constantValue := 0 }]
  methods := #[k9m0, k9m1, k9m2, k9m3, k9m4]
  instanceTypes := #[(.object "java/lang/StringBuilder")]
  staticTypes := #[(.object "java/lang/String")]
  resolved := Array.replicate 174 none
  statics := none }

def pool10 : Array CpInfo := pool [(1, .class_ 2), (0, u "java/lang/Appendable"), (0, .class_ 4), (0, u "java/lang/Object")] 9

/-- java/lang/Appendable -/
def k10 : Class := { plain "java/lang/Appendable" (some 0) with
  accessFlags := 1537
  interfaces := #[]
  cf := some (fileOf pool10 1 #[] #[] 1537 3 #[] #[])
  fields := #[]
  methods := #[]
  instanceTypes := #[]
  staticTypes := #[]
  resolved := Array.replicate 14 none
  statics := none }

def pool11 : Array CpInfo := pool [(1, .class_ 2), (0, u "java/lang/String"), (0, .methodref 4 5), (0, .class_ 6), (0, .nameAndType 7 8), (0, u "java/lang/Object"), (0, u "<init>"), (0, u "()V"), (1, .class_ 12), (1, u "java/lang/AbstractStringBuilder"), (0, u "EMPTYVALUE"), (0, u "[B"), (0, .fieldref 10 16), (0, .nameAndType 17 14), (0, u "value"), (0, .fieldref 1 19), (0, .nameAndType 20 21), (0, u "COMPACT_STRINGS"), (0, u "Z"), (0, .fieldref 10 23), (0, .nameAndType 24 25), (0, u "coder"), (0, u "B"), (6, .methodref 1 33), (0, .nameAndType 34 35), (0, u "length"), (0, u "()I"), (3, .integer 2147483647), (0, .methodref 1 41), (0, .nameAndType 24 42), (0, u "()B"), (2, u "append"), (0, u "(Ljava/lang/String;)Ljava/lang/AbstractStringBuilder;"), (1, .class_ 49), (0, u "java/lang/CharSequence"), (19, u "(Ljava/lang/String;)V"), (5, u "maybeLatin1"), (3, .fieldref 10 80), (0, .nameAndType 81 82), (0, u "count"), (0, u "I"), (0, .methodref 10 84), (0, .nameAndType 85 86), (0, u "isLatin1"), (0, u "()Z"), (1, .class_ 90), (1, u "java/lang/StringLatin1"), (9, .methodref 10 101), (0, .nameAndType 102 103), (0, u "ensureCapacityInternal"), (0, u "(I)V"), (0, .methodref 10 105), (0, .nameAndType 106 107), (0, u "newCapacity"), (0, u "(I)I"), (0, .methodref 109 110), (0, .class_ 111), (0, .nameAndType 112 113), (0, u "java/util/Arrays"), (0, u "copyOf"), (0, u "([BI)[B"), (0, .methodref 115 116), (0, .class_ 117), (0, .nameAndType 118 119), (0, u "jdk/internal/util/ArraysSupport"), (0, u "newLength"), (0, u "(III)I"), (68, u "getChars"), (2, .methodref 88 192), (0, .nameAndType 193 194), (0, u "canEncode"), (0, u "(C)Z"), (13, .methodref 10 209), (0, .nameAndType 210 211), (0, u "putStringAt"), (0, u "(ILjava/lang/String;)V"), (5, u "inflateIfNeededFor"), (2, .nameAndType 221 222), (0, u "getBytes"), (0, u "([BIB)V"), (24, u "stringSize"), (6, .methodref 255 256), (0, .class_ 257), (0, .nameAndType 247 258), (0, u "java/lang/Long"), (0, u "(J)I"), (0, .methodref 255 260), (0, .nameAndType 188 261), (0, u "(JI[B)I"), (30, u "(C)Ljava/lang/AbstractStringBuilder;"), (104, .methodref 10 398), (0, .nameAndType 217 69), (0, .methodref 1 220), (3, u "()[B"), (40, .class_ 445), (0, u "java/lang/Appendable"), (67, u "(J)Ljava/lang/AbstractStringBuilder;"), (38, u "getValue")] 56

def k11m0 : Method := { name := "<init>", desc := "()V", sig := { parameters := [], returnType := none }, accessFlags := 0, code := none }
def k11c1 : Code := { maxStack := 2, maxLocals := 2, code := jdk_68_method_2_code, exceptionTable := #[], attributes := #[] }
def k11m1 : Method := { name := "<init>", desc := "(I)V", sig := { parameters := [.int], returnType := none }, accessFlags := 0, code := some k11c1 }
def k11c2 : Code := { maxStack := 1, maxLocals := 1, code := jdk_68_method_6_code, exceptionTable := #[], attributes := #[] }
def k11m2 : Method := { name := "length", desc := "()I", sig := { parameters := [], returnType := some .int }, accessFlags := 1, code := some k11c2 }
def k11c3 : Code := { maxStack := 4, maxLocals := 3, code := jdk_68_method_9_code, exceptionTable := #[], attributes := #[] }
def k11m3 : Method := { name := "ensureCapacityInternal", desc := "(I)V", sig := { parameters := [.int], returnType := none }, accessFlags := 2, code := some k11c3 }
def k11c4 : Code := { maxStack := 5, maxLocals := 6, code := jdk_68_method_10_code, exceptionTable := #[], attributes := #[] }
def k11m4 : Method := { name := "newCapacity", desc := "(I)I", sig := { parameters := [.int], returnType := some .int }, accessFlags := 2, code := some k11c4 }
def k11c5 : Code := { maxStack := 3, maxLocals := 3, code := jdk_68_method_22_code, exceptionTable := #[], attributes := #[] }
def k11m5 : Method := { name := "append", desc := "(Ljava/lang/String;)Ljava/lang/AbstractStringBuilder;", sig := { parameters := [(.object "java/lang/String")], returnType := some (.object "java/lang/AbstractStringBuilder") }, accessFlags := 1, code := some k11c5 }
def k11c6 : Code := { maxStack := 5, maxLocals := 2, code := jdk_68_method_31_code, exceptionTable := #[], attributes := #[] }
def k11m6 : Method := { name := "append", desc := "(C)Ljava/lang/AbstractStringBuilder;", sig := { parameters := [.char], returnType := some (.object "java/lang/AbstractStringBuilder") }, accessFlags := 1, code := some k11c6 }
def k11c7 : Code := { maxStack := 5, maxLocals := 5, code := jdk_68_method_33_code, exceptionTable := #[], attributes := #[] }
def k11m7 : Method := { name := "append", desc := "(J)Ljava/lang/AbstractStringBuilder;", sig := { parameters := [.long], returnType := some (.object "java/lang/AbstractStringBuilder") }, accessFlags := 1, code := some k11c7 }
def k11c8 : Code := { maxStack := 1, maxLocals := 1, code := jdk_68_method_64_code, exceptionTable := #[], attributes := #[] }
def k11m8 : Method := { name := "getValue", desc := "()[B", sig := { parameters := [], returnType := some (.array .byte) }, accessFlags := 16, code := some k11c8 }
def k11c9 : Code := { maxStack := 1, maxLocals := 1, code := jdk_68_method_68_code, exceptionTable := #[], attributes := #[] }
def k11m9 : Method := { name := "isLatin1", desc := "()Z", sig := { parameters := [], returnType := some .boolean }, accessFlags := 16, code := some k11c9 }
def k11c10 : Code := { maxStack := 2, maxLocals := 2, code := jdk_68_method_71_code, exceptionTable := #[], attributes := #[] }
def k11m10 : Method := { name := "inflateIfNeededFor", desc := "(Ljava/lang/String;)V", sig := { parameters := [(.object "java/lang/String")], returnType := none }, accessFlags := 2, code := some k11c10 }
def k11c11 : Code := { maxStack := 4, maxLocals := 3, code := jdk_68_method_73_code, exceptionTable := #[], attributes := #[] }
def k11m11 : Method := { name := "putStringAt", desc := "(ILjava/lang/String;)V", sig := { parameters := [.int, (.object "java/lang/String")], returnType := none }, accessFlags := 2, code := some k11c11 }
/-- java/lang/AbstractStringBuilder -/
def k11 : Class := { plain "java/lang/AbstractStringBuilder" (some 0) with
  accessFlags := 1056
  interfaces := #[10, 4]
  cf := some (fileOf pool11 10 #[] #[{ accessFlags := 0, nameIndex := 7, descriptorIndex := 8, attributes := #[] }, { accessFlags := 0, nameIndex := 7, descriptorIndex := 103, attributes := #[] }, { accessFlags := 1, nameIndex := 34, descriptorIndex := 35, attributes := #[] }, { accessFlags := 2, nameIndex := 102, descriptorIndex := 103, attributes := #[] }, { accessFlags := 2, nameIndex := 106, descriptorIndex := 107, attributes := #[] }, { accessFlags := 1, nameIndex := 45, descriptorIndex := 46, attributes := #[] }, { accessFlags := 1, nameIndex := 45, descriptorIndex := 292, attributes := #[] }, { accessFlags := 1, nameIndex := 45, descriptorIndex := 513, attributes := #[] }, { accessFlags := 16, nameIndex := 552, descriptorIndex := 403, attributes := #[] }, { accessFlags := 16, nameIndex := 85, descriptorIndex := 86, attributes := #[] }, { accessFlags := 2, nameIndex := 217, descriptorIndex := 69, attributes := #[] }, { accessFlags := 2, nameIndex := 210, descriptorIndex := 211, attributes := #[] }] 1056 4 #[444, 48] #[{ accessFlags := 0, nameIndex := 17, descriptorIndex := 14, attributes := #[] }, { accessFlags := 0, nameIndex := 24, descriptorIndex := 25, attributes := #[] }, { accessFlags := 0, nameIndex := 75, descriptorIndex := 21, attributes := #[] }, { accessFlags := 0, nameIndex := 81, descriptorIndex := 82, attributes := #[] }, { accessFlags := 26, nameIndex := 13, descriptorIndex := 14, attributes := #[] }])
  fields := #[{ name := "value", type := (.array .byte), accessFlags := 0, slot := 0, constantValue := 0 }, { name := "coder", type := .byte, accessFlags := 0, slot := 1, constantValue := 0 }, { name := "maybeLatin1", type := .boolean, accessFlags := 0, slot := 2, constantValue := 0 }, { name := "count", type := .int, accessFlags := 0, slot := 3, constantValue := 0 }, { name := "EMPTYVALUE", type := (.array .byte), accessFlags := 26, slot := 0, constantValue := 0 }]
  methods := #[k11m0, k11m1, k11m2, k11m3, k11m4, k11m5, k11m6, k11m7, k11m8, k11m9, k11m10, k11m11]
  instanceTypes := #[(.array .byte), .byte, .boolean, .int]
  staticTypes := #[(.array .byte)]
  resolved := Array.replicate 609 none
  statics := none }

def pool12 : Array CpInfo := pool [(1, .methodref 2 3), (0, .class_ 4), (0, .nameAndType 5 6), (0, u "java/lang/AbstractStringBuilder"), (0, u "<init>"), (0, u "(I)V"), (11, .class_ 20), (1, u "java/lang/String"), (3, .class_ 26), (1, u "java/lang/StringBuilder"), (0, u "append"), (0, u "(Ljava/lang/String;)Ljava/lang/StringBuilder;"), (0, .methodref 2 30), (0, .nameAndType 27 31), (0, u "(Ljava/lang/String;)Ljava/lang/AbstractStringBuilder;"), (18, .methodref 2 51), (0, .nameAndType 27 52), (0, u "(C)Ljava/lang/AbstractStringBuilder;"), (3, .methodref 2 57), (0, .nameAndType 27 58), (0, u "(J)Ljava/lang/AbstractStringBuilder;"), (78, .methodref 18 138), (0, .nameAndType 5 139), (0, u "(Ljava/lang/StringBuilder;)V"), (5, u "()V"), (10, u "()I"), (124, u "(J)Ljava/lang/StringBuilder;"), (4, u "(C)Ljava/lang/StringBuilder;"), (56, .methodref 2 344), (0, .nameAndType 345 156), (0, u "length"), (3, .class_ 350), (0, u "java/lang/Appendable"), (0, .class_ 352), (0, u "java/io/Serializable"), (0, .class_ 354), (0, u "java/lang/Comparable"), (0, .class_ 356), (0, u "java/lang/CharSequence"), (0, u "serialVersionUID"), (0, u "J"), (40, u "toString"), (0, u "()Ljava/lang/String;")] 21

def k12c0 : Code := { maxStack := 2, maxLocals := 1, code := jdk_67_method_1_code, exceptionTable := #[], attributes := #[] }
def k12m0 : Method := { name := "<init>", desc := "()V", sig := { parameters := [], returnType := none }, accessFlags := 1, code := some k12c0 }
def k12c1 : Code := { maxStack := 2, maxLocals := 2, code := jdk_67_method_7_code, exceptionTable := #[], attributes := #[] }
def k12m1 : Method := { name := "append", desc := "(Ljava/lang/String;)Ljava/lang/StringBuilder;", sig := { parameters := [(.object "java/lang/String")], returnType := some (.object "java/lang/StringBuilder") }, accessFlags := 1, code := some k12c1 }
def k12c2 : Code := { maxStack := 2, maxLocals := 2, code := jdk_67_method_14_code, exceptionTable := #[], attributes := #[] }
def k12m2 : Method := { name := "append", desc := "(C)Ljava/lang/StringBuilder;", sig := { parameters := [.char], returnType := some (.object "java/lang/StringBuilder") }, accessFlags := 1, code := some k12c2 }
def k12c3 : Code := { maxStack := 3, maxLocals := 3, code := jdk_67_method_16_code, exceptionTable := #[], attributes := #[] }
def k12m3 : Method := { name := "append", desc := "(J)Ljava/lang/StringBuilder;", sig := { parameters := [.long], returnType := some (.object "java/lang/StringBuilder") }, accessFlags := 1, code := some k12c3 }
def k12c4 : Code := { maxStack := 3, maxLocals := 1, code := jdk_67_method_42_code, exceptionTable := #[], attributes := #[] }
def k12m4 : Method := { name := "toString", desc := "()Ljava/lang/String;", sig := { parameters := [], returnType := some (.object "java/lang/String") }, accessFlags := 1, code := some k12c4 }
def k12c5 : Code := { maxStack := 1, maxLocals := 1, code := jdk_67_method_93_code, exceptionTable := #[], attributes := #[] }
def k12m5 : Method := { name := "length", desc := "()I", sig := { parameters := [], returnType := some .int }, accessFlags := 4161, code := some k12c5 }
/-- java/lang/StringBuilder -/
def k12 : Class := { plain "java/lang/StringBuilder" (some 11) with
  accessFlags := 49
  interfaces := #[10, 2, 3, 4]
  cf := some (fileOf pool12 24 #[] #[{ accessFlags := 1, nameIndex := 5, descriptorIndex := 145, attributes := #[] }, { accessFlags := 1, nameIndex := 27, descriptorIndex := 28, attributes := #[] }, { accessFlags := 1, nameIndex := 27, descriptorIndex := 286, attributes := #[] }, { accessFlags := 1, nameIndex := 27, descriptorIndex := 281, attributes := #[] }, { accessFlags := 1, nameIndex := 399, descriptorIndex := 400, attributes := #[] }, { accessFlags := 4161, nameIndex := 345, descriptorIndex := 156, attributes := #[] }] 49 2 #[349, 351, 353, 355] #[{ accessFlags := 24, nameIndex := 357, descriptorIndex := 358, attributes := #[] }])
  fields := #[{ name := "serialVersionUID", type := .long, accessFlags := 24, slot := 0, constantValue := 0 }]
  methods := #[k12m0, k12m1, k12m2, k12m3, k12m4, k12m5]
  instanceTypes := #[(.array .byte), .byte, .boolean, .int]
  staticTypes := #[.long]
  resolved := Array.replicate 422 none
  statics := none }

def pool13 : Array CpInfo := pool [(2, .class_ 4), (1, u "java/lang/Object"), (0, u "<init>"), (0, u "()V"), (1, .class_ 10), (1, u "java/lang/System"), (0, u "allowSecurityManager"), (0, u "I"), (16, u "cons"), (0, u "Ljava/io/Console;"), (77, .class_ 110), (1, u "java/lang/System$CallersHolder"), (43, u "initialErrStream"), (0, u "Ljava/io/PrintStream;"), (19, u "security"), (0, u "Ljava/lang/SecurityManager;"), (31, .class_ 209), (0, u "java/lang/System$1"), (7, u "props"), (0, u "Ljava/util/Properties;"), (2, u "lineSeparator"), (0, u "Ljava/lang/String;"), (96, .class_ 321), (1, u "java/lang/System$LoggerFinder"), (5, .class_ 328), (0, u "java/lang/System$Logger"), (67, u "err"), (2, u "out"), (91, u "notSupportedJnuEncoding"), (15, u "in"), (17, u "initialIn"), (0, u "Ljava/io/InputStream;"), (35, u "bootLayer"), (0, u "Ljava/lang/ModuleLayer;"), (99, .class_ 664), (0, u "java/lang/System$2"), (9, u "NEVER"), (2, u "MAYBE"), (49, u "arraycopy"), (0, u "(Ljava/lang/Object;ILjava/lang/Object;II)V"), (72, .class_ 802), (0, u "java/lang/System$Logger$Level")] 31

def k13m0 : Method := { name := "<init>", desc := "()V", sig := { parameters := [], returnType := none }, accessFlags := 2, code := none }
def k13m1 : Method := { name := "arraycopy", desc := "(Ljava/lang/Object;ILjava/lang/Object;II)V", sig := { parameters := [(.object "java/lang/Object"), .int, (.object "java/lang/Object"), .int, .int], returnType := none }, accessFlags := 265, code := none }
/-- java/lang/System -/
def k13 : Class := { plain "java/lang/System" (some 0) with
  accessFlags := 49
  interfaces := #[]
  cf := some (fileOf pool13 8 #[.nestMembers #[319, 327, 801, 108, 663, 208]] #[{ accessFlags := 2, nameIndex := 5, descriptorIndex := 6, attributes := #[] }, { accessFlags := 265, nameIndex := 727, descriptorIndex := 728, attributes := #[] }] 49 2 #[] #[{ accessFlags := 25, nameIndex := 507, descriptorIndex := 526, attributes := #[] }, { accessFlags := 25, nameIndex := 399, descriptorIndex := 155, attributes := #[] }, { accessFlags := 25, nameIndex := 396, descriptorIndex := 155, attributes := #[] }, { accessFlags := 10, nameIndex := 525, descriptorIndex := 526, attributes := #[] }, { accessFlags := 26, nameIndex := 674, descriptorIndex := 12, attributes := #[] }, { accessFlags := 26, nameIndex := 677, descriptorIndex := 12, attributes := #[] }, { accessFlags := 10, nameIndex := 11, descriptorIndex := 12, attributes := #[] }, { accessFlags := 74, nameIndex := 175, descriptorIndex := 176, attributes := #[] }, { accessFlags := 10, nameIndex := 491, descriptorIndex := 222, attributes := #[] }, { accessFlags := 74, nameIndex := 29, descriptorIndex := 30, attributes := #[] }, { accessFlags := 74, nameIndex := 154, descriptorIndex := 155, attributes := #[] }, { accessFlags := 10, nameIndex := 217, descriptorIndex := 218, attributes := #[] }, { accessFlags := 10, nameIndex := 221, descriptorIndex := 222, attributes := #[] }, { accessFlags := 8, nameIndex := 562, descriptorIndex := 563, attributes := #[] }])
  fields := #[{ name := "in", type := (.object "java/io/InputStream"), accessFlags := 25, slot := 0, constantValue := 0 }, { name := "out", type := (.object "java/io/PrintStream"), accessFlags := 25, slot := 1, constantValue := 0 }, { name := "err", type := (.object "java/io/PrintStream"), accessFlags := 25, slot := 2, constantValue := 0 }, { name := "initialIn", type := (.object "java/io/InputStream"), accessFlags := 10, slot := 3, constantValue := 0 }, { name := "NEVER", type := .int, accessFlags := 26, slot := 4, constantValue := 0 }, { name := "MAYBE", type := .int, accessFlags := 26, slot := 5, constantValue := 0 }, { name := "allowSecurityManager", type := .int, accessFlags := 10, slot := 6, constantValue := 0 }, { name := "security", type := (.object "java/lang/SecurityManager"), accessFlags := 74, slot := 7, constantValue := 0 }, { name := "notSupportedJnuEncoding", type := (.object "java/lang/String"), accessFlags := 10, slot := 8, constantValue := 0 }, { name := "cons", type := (.object "java/io/Console"), accessFlags := 74, slot := 9, constantValue := 0 }, { name := "initialErrStream", type := (.object "java/io/PrintStream"), accessFlags := 74, slot := 10, constantValue := 0 }, { name := "props", type := (.object "java/util/Properties"), accessFlags := 10, slot := 11, constantValue := 0 }, { name := "lineSeparator", type := (.object "java/lang/String"), accessFlags := 10, slot := 12, constantValue := 0 }, { name := "bootLayer", type := (.object "java/lang/ModuleLayer"), accessFlags := 8, slot := 13, constantValue := 0 }]
  methods := #[k13m0, k13m1]
  instanceTypes := #[]
  staticTypes := #[(.object "java/io/InputStream"), (.object "java/io/PrintStream"), (.object "java/io/PrintStream"), (.object "java/io/InputStream"), .int, .int, .int, (.object "java/lang/SecurityManager"), (.object "java/lang/String"), (.object "java/io/Console"), (.object "java/io/PrintStream"), (.object "java/util/Properties"), (.object "java/lang/String"), (.object "java/lang/ModuleLayer")]
  resolved := Array.replicate 834 none
  statics := none }

def pool14 : Array CpInfo := pool [(1, .class_ 2), (0, u "java/lang/String"), (1, .class_ 6), (1, u "java/lang/Object"), (0, u "<init>"), (0, u "()V"), (0, .methodref 1 10), (0, .nameAndType 11 12), (0, u "checkIndex"), (0, u "(II)V"), (1, .class_ 16), (1, u "java/lang/StringLatin1"), (36, u "([BI)C"), (36, u "canEncode"), (14, u "(C)Z"), (15, u "$assertionsDisabled"), (0, u "Z"), (98, .class_ 223), (1, u "java/lang/StringLatin1$LinesSpliterator"), (28, u "charAt"), (137, .class_ 391), (0, u "java/lang/StringLatin1$CharsSpliterator")] 3

def k14m0 : Method := { name := "<init>", desc := "()V", sig := { parameters := [], returnType := none }, accessFlags := 0, code := none }
def k14c1 : Code := { maxStack := 2, maxLocals := 2, code := jdk_43_method_2_code, exceptionTable := #[], attributes := #[] }
def k14m1 : Method := { name := "charAt", desc := "([BI)C", sig := { parameters := [(.array .byte), .int], returnType := some .char }, accessFlags := 9, code := some k14c1 }
def k14c2 : Code := { maxStack := 2, maxLocals := 1, code := jdk_43_method_3_code, exceptionTable := #[], attributes := #[] }
def k14m2 : Method := { name := "canEncode", desc := "(C)Z", sig := { parameters := [.char], returnType := some .boolean }, accessFlags := 9, code := some k14c2 }
/-- java/lang/StringLatin1 -/
def k14 : Class := { plain "java/lang/StringLatin1" (some 0) with
  accessFlags := 48
  interfaces := #[]
  cf := some (fileOf pool14 14 #[.nestMembers #[390, 221]] #[{ accessFlags := 0, nameIndex := 7, descriptorIndex := 8, attributes := #[] }, { accessFlags := 9, nameIndex := 252, descriptorIndex := 53, attributes := #[] }, { accessFlags := 9, nameIndex := 90, descriptorIndex := 105, attributes := #[] }] 48 4 #[] #[{ accessFlags := 4120, nameIndex := 121, descriptorIndex := 122, attributes := #[] }])
  fields := #[{ name := "$assertionsDisabled", type := .boolean, accessFlags := 4120, slot := 0, constantValue := 0 }]
  methods := #[k14m0, k14m1, k14m2]
  instanceTypes := #[]
  staticTypes := #[.boolean]
  resolved := Array.replicate 395 none
  statics := none }

def pool15 : Array CpInfo := pool [(9, u "<init>"), (6, .class_ 18), (1, u "java/lang/Object"), (0, u "()V"), (1, .class_ 23), (1, u "jdk/internal/util/ArraysSupport"), (0, u "LOG2_ARRAY_LONG_INDEX_SCALE"), (0, u "I"), (2, u "U"), (0, u "Ljdk/internal/misc/Unsafe;"), (8, u "BIG_ENDIAN"), (0, u "Z"), (8, u "LOG2_BYTE_BIT_SIZE"), (4, u "LOG2_ARRAY_INT_INDEX_SCALE"), (54, u "JLA"), (0, u "Ljdk/internal/access/JavaLangAccess;"), (11, u "LOG2_ARRAY_BOOLEAN_INDEX_SCALE"), (9, u "LOG2_ARRAY_BYTE_INDEX_SCALE"), (5, u "LOG2_ARRAY_CHAR_INDEX_SCALE"), (5, u "LOG2_ARRAY_SHORT_INDEX_SCALE"), (18, u "LOG2_ARRAY_FLOAT_INDEX_SCALE"), (24, u "LOG2_ARRAY_DOUBLE_INDEX_SCALE"), (6, .methodref 195 196), (0, .class_ 197), (0, .nameAndType 198 199), (0, u "java/lang/Math"), (0, u "max"), (0, u "(II)I"), (0, .integer 2147483639), (76, u "T_BOOLEAN"), (2, u "T_CHAR"), (1, u "T_FLOAT"), (1, u "T_DOUBLE"), (1, u "T_BYTE"), (1, u "T_SHORT"), (1, u "T_INT"), (1, u "T_LONG"), (1, u "SOFT_MAX_ARRAY_LENGTH"), (56, u "newLength"), (0, u "(III)I")] 25

def k15m0 : Method := { name := "<init>", desc := "()V", sig := { parameters := [], returnType := none }, accessFlags := 2, code := none }
def k15c1 : Code := { maxStack := 3, maxLocals := 4, code := jdk_48_method_27_code, exceptionTable := #[], attributes := #[] }
def k15m1 : Method := { name := "newLength", desc := "(III)I", sig := { parameters := [.int, .int, .int], returnType := some .int }, accessFlags := 9, code := some k15c1 }
/-- jdk/internal/util/ArraysSupport -/
def k15 : Class := { plain "jdk/internal/util/ArraysSupport" (some 0) with
  accessFlags := 33
  interfaces := #[]
  cf := some (fileOf pool15 21 #[] #[{ accessFlags := 2, nameIndex := 9, descriptorIndex := 19, attributes := #[] }, { accessFlags := 9, nameIndex := 351, descriptorIndex := 352, attributes := #[] }] 33 16 #[] #[{ accessFlags := 24, nameIndex := 28, descriptorIndex := 29, attributes := #[] }, { accessFlags := 26, nameIndex := 38, descriptorIndex := 39, attributes := #[] }, { accessFlags := 25, nameIndex := 121, descriptorIndex := 25, attributes := #[] }, { accessFlags := 25, nameIndex := 131, descriptorIndex := 25, attributes := #[] }, { accessFlags := 25, nameIndex := 137, descriptorIndex := 25, attributes := #[] }, { accessFlags := 25, nameIndex := 143, descriptorIndex := 25, attributes := #[] }, { accessFlags := 25, nameIndex := 53, descriptorIndex := 25, attributes := #[] }, { accessFlags := 25, nameIndex := 24, descriptorIndex := 25, attributes := #[] }, { accessFlags := 25, nameIndex := 162, descriptorIndex := 25, attributes := #[] }, { accessFlags := 25, nameIndex := 187, descriptorIndex := 25, attributes := #[] }, { accessFlags := 26, nameIndex := 48, descriptorIndex := 25, attributes := #[] }, { accessFlags := 25, nameIndex := 277, descriptorIndex := 25, attributes := #[] }, { accessFlags := 25, nameIndex := 280, descriptorIndex := 25, attributes := #[] }, { accessFlags := 25, nameIndex := 282, descriptorIndex := 25, attributes := #[] }, { accessFlags := 25, nameIndex := 284, descriptorIndex := 25, attributes := #[] }, { accessFlags := 25, nameIndex := 286, descriptorIndex := 25, attributes := #[] }, { accessFlags := 25, nameIndex := 288, descriptorIndex := 25, attributes := #[] }, { accessFlags := 25, nameIndex := 290, descriptorIndex := 25, attributes := #[] }, { accessFlags := 25, nameIndex := 292, descriptorIndex := 25, attributes := #[] }, { accessFlags := 26, nameIndex := 108, descriptorIndex := 109, attributes := #[] }, { accessFlags := 25, nameIndex := 294, descriptorIndex := 25, attributes := #[] }])
  fields := #[{ name := "U", type := (.object "jdk/internal/misc/Unsafe"), accessFlags := 24, slot := 0, constantValue := 0 }, { name := "BIG_ENDIAN", type := .boolean, accessFlags := 26, slot := 1, constantValue := 0 }, { name := "LOG2_ARRAY_BOOLEAN_INDEX_SCALE", type := .int, accessFlags := 25, slot := 2, constantValue := 0 }, { name := "LOG2_ARRAY_BYTE_INDEX_SCALE", type := .int, accessFlags := 25, slot := 3, constantValue := 0 }, { name := "LOG2_ARRAY_CHAR_INDEX_SCALE", type := .int, accessFlags := 25, slot := 4, constantValue := 0 }, { name := "LOG2_ARRAY_SHORT_INDEX_SCALE", type := .int, accessFlags := 25, slot := 5, constantValue := 0 }, { name := "LOG2_ARRAY_INT_INDEX_SCALE", type := .int, accessFlags := 25, slot := 6, constantValue := 0 }, { name := "LOG2_ARRAY_LONG_INDEX_SCALE", type := .int, accessFlags := 25, slot := 7, constantValue := 0 }, { name := "LOG2_ARRAY_FLOAT_INDEX_SCALE", type := .int, accessFlags := 25, slot := 8, constantValue := 0 }, { name := "LOG2_ARRAY_DOUBLE_INDEX_SCALE", type := .int, accessFlags := 25, slot := 9, constantValue := 0 }, { name := "LOG2_BYTE_BIT_SIZE", type := .int, accessFlags := 26, slot := 10, constantValue := 0 }, { name := "T_BOOLEAN", type := .int, accessFlags := 25, slot := 11, constantValue := 0 }, { name := "T_CHAR", type := .int, accessFlags := 25, slot := 12, constantValue := 0 }, { name := "T_FLOAT", type := .int, accessFlags := 25, slot := 13, constantValue := 0 }, { name := "T_DOUBLE", type := .int, accessFlags := 25, slot := 14, constantValue := 0 }, { name := "T_BYTE", type := .int, accessFlags := 25, slot := 15, constantValue := 0 }, { name := "T_SHORT", type := .int, accessFlags := 25, slot := 16, constantValue := 0 }, { name := "T_INT", type := .int, accessFlags := 25, slot := 17, constantValue := 0 }, { name := "T_LONG", type := .int, accessFlags := 25, slot := 18, constantValue := 0 }, { name := "JLA", type := (.object "jdk/internal/access/JavaLangAccess"), accessFlags := 26, slot := 19, constantValue := 0 }, { name := "SOFT_MAX_ARRAY_LENGTH", type := .int, accessFlags := 25, slot := 20, constantValue := 0 }]
  methods := #[k15m0, k15m1]
  instanceTypes := #[]
  staticTypes := #[(.object "jdk/internal/misc/Unsafe"), .boolean, .int, .int, .int, .int, .int, .int, .int, .int, .int, .int, .int, .int, .int, .int, .int, .int, .int, (.object "jdk/internal/access/JavaLangAccess"), .int]
  resolved := Array.replicate 378 none
  statics := none }

def pool16 : Array CpInfo := pool [(1, .class_ 2), (0, u "java/lang/Math"), (1, .class_ 6), (1, u "java/lang/Object"), (0, u "<init>"), (0, u "()V"), (89, .class_ 100), (1, u "java/lang/Math$RandomNumberGeneratorHolder"), (23, u "abs"), (0, u "(J)J"), (46, u "negativeZeroFloatBits"), (0, u "J"), (2, u "negativeZeroDoubleBits"), (21, u "max"), (2, u "min"), (43, u "$assertionsDisabled"), (0, u "Z"), (88, u "(II)I"), (2, u "twoToTheDoubleScaleDown"), (0, u "D"), (4, u "twoToTheDoubleScaleUp"), (9, u "E"), (3, u "PI"), (2, u "TAU"), (2, u "DEGREES_TO_RADIANS"), (0, u "RADIANS_TO_DEGREES")] 94

def k16m0 : Method := { name := "<init>", desc := "()V", sig := { parameters := [], returnType := none }, accessFlags := 2, code := none }
def k16c1 : Code := { maxStack := 4, maxLocals := 2, code := jdk_29_method_61_code, exceptionTable := #[], attributes := #[] }
def k16m1 : Method := { name := "abs", desc := "(J)J", sig := { parameters := [.long], returnType := some .long }, accessFlags := 9, code := some k16c1 }
def k16c2 : Code := { maxStack := 2, maxLocals := 2, code := jdk_29_method_65_code, exceptionTable := #[], attributes := #[] }
def k16m2 : Method := { name := "max", desc := "(II)I", sig := { parameters := [.int, .int], returnType := some .int }, accessFlags := 9, code := some k16c2 }
def k16c3 : Code := { maxStack := 2, maxLocals := 2, code := jdk_29_method_69_code, exceptionTable := #[], attributes := #[] }
def k16m3 : Method := { name := "min", desc := "(II)I", sig := { parameters := [.int, .int], returnType := some .int }, accessFlags := 9, code := some k16c3 }
/-- java/lang/Math -/
def k16 : Class := { plain "java/lang/Math" (some 0) with
  accessFlags := 49
  interfaces := #[]
  cf := some (fileOf pool16 1 #[.nestMembers #[98]] #[{ accessFlags := 2, nameIndex := 7, descriptorIndex := 8, attributes := #[] }, { accessFlags := 9, nameIndex := 124, descriptorIndex := 125, attributes := #[] }, { accessFlags := 9, nameIndex := 198, descriptorIndex := 335, attributes := #[] }, { accessFlags := 9, nameIndex := 201, descriptorIndex := 335, attributes := #[] }] 49 4 #[] #[{ accessFlags := 25, nameIndex := 354, descriptorIndex := 339, attributes := #[] }, { accessFlags := 25, nameIndex := 358, descriptorIndex := 339, attributes := #[] }, { accessFlags := 25, nameIndex := 361, descriptorIndex := 339, attributes := #[] }, { accessFlags := 26, nameIndex := 364, descriptorIndex := 339, attributes := #[] }, { accessFlags := 26, nameIndex := 365, descriptorIndex := 339, attributes := #[] }, { accessFlags := 26, nameIndex := 172, descriptorIndex := 173, attributes := #[] }, { accessFlags := 26, nameIndex := 176, descriptorIndex := 173, attributes := #[] }, { accessFlags := 8, nameIndex := 344, descriptorIndex := 339, attributes := #[] }, { accessFlags := 8, nameIndex := 338, descriptorIndex := 339, attributes := #[] }, { accessFlags := 4120, nameIndex := 245, descriptorIndex := 246, attributes := #[] }])
  fields := #[{ name := "E", type := .double, accessFlags := 25, slot := 0, constantValue := 0 }, { name := "PI", type := .double, accessFlags := 25, slot := 1, constantValue := 0 }, { name := "TAU", type := .double, accessFlags := 25, slot := 2, constantValue := 0 }, { name := "DEGREES_TO_RADIANS", type := .double, accessFlags := 26, slot := 3, constantValue := 0 }, { name := "RADIANS_TO_DEGREES", type := .double, accessFlags := 26, slot := 4, constantValue := 0 }, { name := "negativeZeroFloatBits", type := .long, accessFlags := 26, slot := 5, constantValue := 0 }, { name := "negativeZeroDoubleBits", type := .long, accessFlags := 26, slot := 6, constantValue := 0 }, { name := "twoToTheDoubleScaleUp", type := .double, accessFlags := 8, slot := 7, constantValue := 0 }, { name := "twoToTheDoubleScaleDown", type := .double, accessFlags := 8, slot := 8, constantValue := 0 }, { name := "$assertionsDisabled", type := .boolean, accessFlags := 4120, slot := 9, constantValue := 0 }]
  methods := #[k16m0, k16m1, k16m2, k16m3]
  instanceTypes := #[]
  staticTypes := #[.double, .double, .double, .double, .double, .long, .long, .double, .double, .boolean]
  resolved := Array.replicate 460 none
  statics := none }

def pool17 : Array CpInfo := pool [(2, .class_ 4), (1, u "java/lang/Object"), (0, u "<init>"), (0, u "()V"), (7, .class_ 16), (1, u "java/util/Arrays"), (57, .class_ 76), (1, u "java/util/Arrays$NaturalOrder"), (36, .class_ 115), (1, u "java/util/Arrays$LegacyMergeSort"), (1, u "Z"), (21, u "copyOfRange"), (10, .methodref 151 152), (0, .class_ 153), (0, .nameAndType 154 155), (0, u "java/lang/System"), (0, u "arraycopy"), (0, u "(Ljava/lang/Object;ILjava/lang/Object;II)V"), (146, u "copyOf"), (1, .methodref 305 306), (0, .class_ 307), (0, .nameAndType 308 309), (0, u "java/lang/Math"), (0, u "min"), (0, u "(II)I"), (29, .methodref 14 340), (0, .nameAndType 341 342), (0, u "copyOfRangeByte"), (0, u "([BII)[B"), (0, .methodref 14 344), (0, .nameAndType 345 346), (0, u "checkLength"), (0, u "(II)V"), (28, .class_ 376), (0, u "java/util/Arrays$ArrayList"), (68, u "$assertionsDisabled"), (269, u "MIN_ARRAY_SORT_GRAN"), (0, u "I"), (2, u "INSERTIONSORT_THRESHOLD"), (149, u "([BI)[B"), (105, .class_ 976), (0, u "java/util/Arrays$ArrayItr")] 52

def k17m0 : Method := { name := "<init>", desc := "()V", sig := { parameters := [], returnType := none }, accessFlags := 2, code := none }
def k17c1 : Code := { maxStack := 6, maxLocals := 3, code := jdk_65_method_121_code, exceptionTable := #[], attributes := #[] }
def k17m1 : Method := { name := "copyOf", desc := "([BI)[B", sig := { parameters := [(.array .byte), .int], returnType := some (.array .byte) }, accessFlags := 9, code := some k17c1 }
def k17c2 : Code := { maxStack := 4, maxLocals := 2, code := jdk_65_method_131_code, exceptionTable := #[], attributes := #[] }
def k17m2 : Method := { name := "checkLength", desc := "(II)V", sig := { parameters := [.int, .int], returnType := none }, accessFlags := 10, code := some k17c2 }
def k17c3 : Code := { maxStack := 3, maxLocals := 3, code := jdk_65_method_132_code, exceptionTable := #[], attributes := #[] }
def k17m3 : Method := { name := "copyOfRange", desc := "([BII)[B", sig := { parameters := [(.array .byte), .int, .int], returnType := some (.array .byte) }, accessFlags := 9, code := some k17c3 }
def k17c4 : Code := { maxStack := 6, maxLocals := 5, code := jdk_65_method_133_code, exceptionTable := #[], attributes := #[] }
def k17m4 : Method := { name := "copyOfRangeByte", desc := "([BII)[B", sig := { parameters := [(.array .byte), .int, .int], returnType := some (.array .byte) }, accessFlags := 10, code := some k17c4 }
/-- java/util/Arrays -/
def k17 : Class := { plain "java/util/Arrays" (some 0) with
  accessFlags := 49
  interfaces := #[]
  cf := some (fileOf pool17 14 #[.nestMembers #[975, 375, 113, 74]] #[{ accessFlags := 2, nameIndex := 5, descriptorIndex := 6, attributes := #[] }, { accessFlags := 9, nameIndex := 302, descriptorIndex := 869, attributes := #[] }, { accessFlags := 10, nameIndex := 345, descriptorIndex := 346, attributes := #[] }, { accessFlags := 9, nameIndex := 139, descriptorIndex := 342, attributes := #[] }, { accessFlags := 10, nameIndex := 341, descriptorIndex := 342, attributes := #[] }] 49 2 #[] #[{ accessFlags := 26, nameIndex := 715, descriptorIndex := 716, attributes := #[] }, { accessFlags := 26, nameIndex := 719, descriptorIndex := 716, attributes := #[] }, { accessFlags := 4120, nameIndex := 445, descriptorIndex := 117, attributes := #[] }])
  fields := #[{ name := "MIN_ARRAY_SORT_GRAN", type := .int, accessFlags := 26, slot := 0, constantValue := 0 }, { name := "INSERTIONSORT_THRESHOLD", type := .int, accessFlags := 26, slot := 1, constantValue := 0 }, { name := "$assertionsDisabled", type := .boolean, accessFlags := 4120, slot := 2, constantValue := 0 }]
  methods := #[k17m0, k17m1, k17m2, k17m3, k17m4]
  instanceTypes := #[]
  staticTypes := #[.int, .int, .boolean]
  resolved := Array.replicate 1029 none
  statics := none }

def pool18 : Array CpInfo := pool [(2, .class_ 4), (1, u "java/lang/Object"), (0, u "<init>"), (0, u "()V"), (1, .class_ 10), (1, u "java/lang/Number"), (2, .class_ 14), (0, u "java/io/Serializable"), (0, u "serialVersionUID"), (0, u "J")] 20

def k18m0 : Method := { name := "<init>", desc := "()V", sig := { parameters := [], returnType := none }, accessFlags := 1, code := none }
/-- java/lang/Number -/
def k18 : Class := { plain "java/lang/Number" (some 0) with
  accessFlags := 1057
  interfaces := #[2]
  cf := some (fileOf pool18 8 #[] #[{ accessFlags := 1, nameIndex := 5, descriptorIndex := 6, attributes := #[] }] 1057 2 #[13] #[{ accessFlags := 26, nameIndex := 15, descriptorIndex := 16, attributes := #[] }])
  fields := #[{ name := "serialVersionUID", type := .long, accessFlags := 26, slot := 0, constantValue := 0 }]
  methods := #[k18m0]
  instanceTypes := #[]
  staticTypes := #[.long]
  resolved := Array.replicate 37 none
  statics := none }

def pool19 : Array CpInfo := pool [(1, .class_ 2), (0, u "java/lang/Long"), (15, .class_ 20), (1, u "java/lang/Integer"), (32, .long 10), (47, u "(J)I"), (18, u "stringSize"), (2, u "getChars"), (0, u "(JI[B)I"), (4, .long 18446744071562067968), (1, .long 100), (1, .fieldref 18 134), (0, .nameAndType 135 136), (0, u "DigitOnes"), (0, u "[B"), (0, .fieldref 18 138), (0, .nameAndType 139 136), (0, u "DigitTens"), (0, .long 18446744073709551606), (94, .class_ 237), (1, u "java/lang/Long$LongCache"), (33, .class_ 272), (0, u "java/lang/Number"), (2, u "value"), (0, u "J"), (84, u "TYPE"), (0, u "Ljava/lang/Class;"), (0, .class_ 364), (0, u "java/lang/Comparable"), (0, .class_ 366), (0, u "java/lang/constant/Constable"), (0, .class_ 368), (0, u "java/lang/constant/ConstantDesc"), (0, u "MIN_VALUE"), (1, u "MAX_VALUE"), (4, u "SIZE"), (0, u "I"), (1, u "BYTES"), (1, u "serialVersionUID")] 142

def k19c0 : Code := { maxStack := 4, maxLocals := 11, code := jdk_35_method_14_code, exceptionTable := #[], attributes := #[] }
def k19m0 : Method := { name := "getChars", desc := "(JI[B)I", sig := { parameters := [.long, .int, (.array .byte)], returnType := some .int }, accessFlags := 8, code := some k19c0 }
def k19c1 : Code := { maxStack := 4, maxLocals := 6, code := jdk_35_method_15_code, exceptionTable := #[], attributes := #[] }
def k19m1 : Method := { name := "stringSize", desc := "(J)I", sig := { parameters := [.long], returnType := some .int }, accessFlags := 8, code := some k19c1 }
/-- java/lang/Long -/
def k19 : Class := { plain "java/lang/Long" (some 18) with
  accessFlags := 49
  interfaces := #[3, 5, 6]
  cf := some (fileOf pool19 1 #[.nestMembers #[235]] #[{ accessFlags := 8, nameIndex := 123, descriptorIndex := 124, attributes := #[] }, { accessFlags := 8, nameIndex := 120, descriptorIndex := 101, attributes := #[] }] 49 271 #[363, 365, 367] #[{ accessFlags := 25, nameIndex := 369, descriptorIndex := 276, attributes := #[] }, { accessFlags := 25, nameIndex := 371, descriptorIndex := 276, attributes := #[] }, { accessFlags := 25, nameIndex := 361, descriptorIndex := 362, attributes := #[] }, { accessFlags := 18, nameIndex := 275, descriptorIndex := 276, attributes := #[] }, { accessFlags := 25, nameIndex := 376, descriptorIndex := 377, attributes := #[] }, { accessFlags := 25, nameIndex := 379, descriptorIndex := 377, attributes := #[] }, { accessFlags := 26, nameIndex := 381, descriptorIndex := 276, attributes := #[] }])
  fields := #[{ name := "MIN_VALUE", type := .long, accessFlags := 25, slot := 0, constantValue := 0 }, { name := "MAX_VALUE", type := .long, accessFlags := 25, slot := 1, constantValue := 0 }, { name := "TYPE", type := (.object "java/lang/Class"), accessFlags := 25, slot := 2, constantValue := 0 }, { name := "value", type := .long, accessFlags := 18, slot := 0, constantValue := 0 }, { name := "SIZE", type := .int, accessFlags := 25, slot := 3, constantValue := 0 }, { name := "BYTES", type := .int, accessFlags := 25, slot := 4, constantValue := 0 }, { name := "serialVersionUID", type := .long, accessFlags := 26, slot := 5, constantValue := 0 }]
  methods := #[k19m0, k19m1]
  instanceTypes := #[.long]
  staticTypes := #[.long, .long, (.object "java/lang/Class"), .int, .int, .long]
  resolved := Array.replicate 524 none
  statics := none }

def pool20 : Array CpInfo := pool [(1, .class_ 2), (0, u "java/lang/Integer"), (16, u "digits"), (0, u "[C"), (64, u "DigitOnes"), (0, u "[B"), (2, u "DigitTens"), (99, .class_ 190), (0, u "java/lang/Integer$IntegerCache"), (3, u "I"), (8, .class_ 204), (0, u "java/lang/Number"), (2, u "value"), (94, u "TYPE"), (0, u "Ljava/lang/Class;"), (0, .class_ 305), (0, u "java/lang/Comparable"), (0, .class_ 307), (0, u "java/lang/constant/Constable"), (0, .class_ 309), (0, u "java/lang/constant/ConstantDesc"), (0, u "MIN_VALUE"), (1, u "MAX_VALUE"), (3, u "SIZE"), (1, u "BYTES"), (1, u "serialVersionUID"), (0, u "J")] 131

/-- java/lang/Integer -/
def k20 : Class := { plain "java/lang/Integer" (some 18) with
  accessFlags := 49
  interfaces := #[3, 5, 6]
  cf := some (fileOf pool20 1 #[.nestMembers #[189]] #[] 49 203 #[304, 306, 308] #[{ accessFlags := 25, nameIndex := 310, descriptorIndex := 194, attributes := #[] }, { accessFlags := 25, nameIndex := 312, descriptorIndex := 194, attributes := #[] }, { accessFlags := 25, nameIndex := 302, descriptorIndex := 303, attributes := #[] }, { accessFlags := 24, nameIndex := 19, descriptorIndex := 20, attributes := #[] }, { accessFlags := 24, nameIndex := 89, descriptorIndex := 86, attributes := #[] }, { accessFlags := 24, nameIndex := 85, descriptorIndex := 86, attributes := #[] }, { accessFlags := 18, nameIndex := 207, descriptorIndex := 194, attributes := #[] }, { accessFlags := 25, nameIndex := 316, descriptorIndex := 194, attributes := #[] }, { accessFlags := 25, nameIndex := 318, descriptorIndex := 194, attributes := #[] }, { accessFlags := 26, nameIndex := 320, descriptorIndex := 321, attributes := #[] }])
  fields := #[{ name := "MIN_VALUE", type := .int, accessFlags := 25, slot := 0, constantValue := 0 }, { name := "MAX_VALUE", type := .int, accessFlags := 25, slot := 1, constantValue := 0 }, { name := "TYPE", type := (.object "java/lang/Class"), accessFlags := 25, slot := 2, constantValue := 0 }, { name := "digits", type := (.array .char), accessFlags := 24, slot := 3, constantValue := 0 }, { name := "DigitTens", type := (.array .byte), accessFlags := 24, slot := 4, constantValue := 0 }, { name := "DigitOnes", type := (.array .byte), accessFlags := 24, slot := 5, constantValue := 0 }, { name := "value", type := .int, accessFlags := 18, slot := 0, constantValue := 0 }, { name := "SIZE", type := .int, accessFlags := 25, slot := 6, constantValue := 0 }, { name := "BYTES", type := .int, accessFlags := 25, slot := 7, constantValue := 0 }, { name := "serialVersionUID", type := .long, accessFlags := 26, slot := 8, constantValue := 0 }]
  methods := #[]
  instanceTypes := #[.int]
  staticTypes := #[.int, .int, (.object "java/lang/Class"), (.array .char), (.array .byte), (.array .byte), .int, .int, .long]
  resolved := Array.replicate 453 none
  statics := some 1 }

def pool21 : Array CpInfo := pool [(2, .class_ 4), (1, u "java/lang/Object"), (0, u "<init>"), (0, u "()V"), (17, .class_ 26), (1, u "jdk/internal/util/Preconditions"), (6, u "checkIndex"), (21, .class_ 56), (0, u "jdk/internal/util/Preconditions$4"), (57, .class_ 115), (0, u "jdk/internal/util/Preconditions$1"), (7, u "SIOOBE_FORMATTER"), (0, u "Ljava/util/function/BiFunction;"), (0, .class_ 126), (0, u "jdk/internal/util/Preconditions$2"), (3, u "AIOOBE_FORMATTER"), (0, .class_ 132), (0, u "jdk/internal/util/Preconditions$3"), (3, u "IOOBE_FORMATTER"), (41, u "(IILjava/util/function/BiFunction;)I")] 15

def k21m0 : Method := { name := "<init>", desc := "()V", sig := { parameters := [], returnType := none }, accessFlags := 1, code := none }
def k21c1 : Code := { maxStack := 3, maxLocals := 3, code := jdk_41_method_11_code, exceptionTable := #[], attributes := #[] }
def k21m1 : Method := { name := "checkIndex", desc := "(IILjava/util/function/BiFunction;)I", sig := { parameters := [.int, .int, (.object "java/util/function/BiFunction")], returnType := some .int }, accessFlags := 9, code := some k21c1 }
/-- jdk/internal/util/Preconditions -/
def k21 : Class := { plain "jdk/internal/util/Preconditions" (some 0) with
  accessFlags := 33
  interfaces := #[]
  cf := some (fileOf pool21 24 #[.nestMembers #[55, 131, 125, 114]] #[{ accessFlags := 1, nameIndex := 5, descriptorIndex := 6, attributes := #[] }, { accessFlags := 9, nameIndex := 33, descriptorIndex := 178, attributes := #[] }] 33 2 #[] #[{ accessFlags := 25, nameIndex := 123, descriptorIndex := 124, attributes := #[] }, { accessFlags := 25, nameIndex := 130, descriptorIndex := 124, attributes := #[] }, { accessFlags := 25, nameIndex := 136, descriptorIndex := 124, attributes := #[] }])
  fields := #[{ name := "SIOOBE_FORMATTER", type := (.object "java/util/function/BiFunction"), accessFlags := 25, slot := 0, constantValue := 0 }, { name := "AIOOBE_FORMATTER", type := (.object "java/util/function/BiFunction"), accessFlags := 25, slot := 1, constantValue := 0 }, { name := "IOOBE_FORMATTER", type := (.object "java/util/function/BiFunction"), accessFlags := 25, slot := 2, constantValue := 0 }]
  methods := #[k21m0, k21m1]
  instanceTypes := #[]
  staticTypes := #[(.object "java/util/function/BiFunction"), (.object "java/util/function/BiFunction"), (.object "java/util/function/BiFunction")]
  resolved := Array.replicate 194 none
  statics := some 2 }

def pool22 : Array CpInfo := pool [(1, u "java/lang/Cloneable"), (0, .class_ 1), (0, u "java/lang/Object"), (0, .class_ 3)] 3

/-- java/lang/Cloneable -/
def k22 : Class := { plain "java/lang/Cloneable" (some 0) with
  accessFlags := 1537
  interfaces := #[]
  cf := some (fileOf pool22 2 #[] #[] 1537 4 #[] #[])
  fields := #[]
  methods := #[]
  instanceTypes := #[]
  staticTypes := #[]
  resolved := Array.replicate 8 none
  statics := none }

/-- the primitive byte -/
def k23 : Class := { plain "byte" none with kind := .primitive 'B', accessFlags := 0x411 }
/-- [B -/
def k24 : Class := { plain "[B" (some 0) with kind := .array 23 .byte, interfaces := #[22, 2], accessFlags := 1041 }

/-- the primitive char -/
def k25 : Class := { plain "char" none with kind := .primitive 'C', accessFlags := 0x411 }
/-- [C -/
def k26 : Class := { plain "[C" (some 0) with kind := .array 25 .char, interfaces := #[22, 2], accessFlags := 1041 }

/-- the primitive int -/
def k27 : Class := { plain "int" none with kind := .primitive 'I', accessFlags := 0x411 }
/-- [I -/
def k28 : Class := { plain "[I" (some 0) with kind := .array 27 .int, interfaces := #[22, 2], accessFlags := 1041 }

/-- the primitive long -/
def k29 : Class := { plain "long" none with kind := .primitive 'J', accessFlags := 0x411 }
/-- [J -/
def k30 : Class := { plain "[J" (some 0) with kind := .array 29 .long, interfaces := #[22, 2], accessFlags := 1041 }

def heap : Heap := #[{ cls := 7, slots := #[.long 0, .int 1, .null, .int 0, .null, .int 0, .int 0], vm := .statics 7 },
  { cls := 20, slots := #[.int 0, .int 0, .null, .null, .ref 4, .ref 3, .int 0, .int 0, .long 0], vm := .statics 20 },
  { cls := 21, slots := #[.null, .null, .null], vm := .statics 21 },
  { cls := 24, slots := #[.int 48, .int 49, .int 50, .int 51, .int 52, .int 53, .int 54, .int 55, .int 56, .int 57, .int 48, .int 49, .int 50, .int 51, .int 52, .int 53, .int 54, .int 55, .int 56, .int 57, .int 48, .int 49, .int 50, .int 51, .int 52, .int 53, .int 54, .int 55, .int 56, .int 57, .int 48, .int 49, .int 50, .int 51, .int 52, .int 53, .int 54, .int 55, .int 56, .int 57, .int 48, .int 49, .int 50, .int 51, .int 52, .int 53, .int 54, .int 55, .int 56, .int 57, .int 48, .int 49, .int 50, .int 51, .int 52, .int 53, .int 54, .int 55, .int 56, .int 57, .int 48, .int 49, .int 50, .int 51, .int 52, .int 53, .int 54, .int 55, .int 56, .int 57, .int 48, .int 49, .int 50, .int 51, .int 52, .int 53, .int 54, .int 55, .int 56, .int 57, .int 48, .int 49, .int 50, .int 51, .int 52, .int 53, .int 54, .int 55, .int 56, .int 57, .int 48, .int 49, .int 50, .int 51, .int 52, .int 53, .int 54, .int 55, .int 56, .int 57], vm := .none },
  { cls := 24, slots := #[.int 48, .int 48, .int 48, .int 48, .int 48, .int 48, .int 48, .int 48, .int 48, .int 48, .int 49, .int 49, .int 49, .int 49, .int 49, .int 49, .int 49, .int 49, .int 49, .int 49, .int 50, .int 50, .int 50, .int 50, .int 50, .int 50, .int 50, .int 50, .int 50, .int 50, .int 51, .int 51, .int 51, .int 51, .int 51, .int 51, .int 51, .int 51, .int 51, .int 51, .int 52, .int 52, .int 52, .int 52, .int 52, .int 52, .int 52, .int 52, .int 52, .int 52, .int 53, .int 53, .int 53, .int 53, .int 53, .int 53, .int 53, .int 53, .int 53, .int 53, .int 54, .int 54, .int 54, .int 54, .int 54, .int 54, .int 54, .int 54, .int 54, .int 54, .int 55, .int 55, .int 55, .int 55, .int 55, .int 55, .int 55, .int 55, .int 55, .int 55, .int 56, .int 56, .int 56, .int 56, .int 56, .int 56, .int 56, .int 56, .int 56, .int 56, .int 57, .int 57, .int 57, .int 57, .int 57, .int 57, .int 57, .int 57, .int 57, .int 57], vm := .none }]
def classes : Array Class := #[k0, k1, k2, k3, k4, k5, k6, k7, k8, k9, k10, k11, k12, k13, k14, k15, k16, k17, k18, k19, k20, k21, k22, k23, k24, k25, k26, k27, k28, k29, k30]
def interned : List (Array UInt16 × Addr) := []
def slotsUsed : Nat := 219
def theMethod : MethodId := ⟨1, 1⟩
def args0 : Array Value := #[.int 16961, .int 17475, .long 7]
def aboutOver (below : List Frame) : State where
  vm := { classes := classes, interned := interned.toArray }
  heap := heap
  slotsUsed := slotsUsed
  threads := #[{ frames := .invoking theMethod args0 :: below }]
def below0 : List Frame := [.native { method := ⟨0, 0⟩, args := #[] }]
def about1 : State := aboutOver below0
def p0 : Program := .bare "" "" ""
def e0 : Env := launch0.env 0 0 0
theorem w_frames : about1.frames = Frame.invoking theMethod args0 :: below0 := rfl
set_option maxRecDepth 65536 in
theorem w_args : argsFit about1.vm theMethod args0 = true := by decide +kernel
set_option maxRecDepth 65536 in
theorem w_heap : heapFits about1 = true := by decide +kernel
set_option maxRecDepth 65536 in
theorem w_runnable : about1.curStatus? = some .runnable := by decide +kernel
set_option maxRecDepth 65536 in
theorem w_alone : about1.alone = true := by decide +kernel
set_option maxRecDepth 65536 in
theorem w_named : about1.methodNamed? x = some theMethod := by decide +kernel
set_option maxRecDepth 65536 in
theorem w_hears : about1.hears theMethod below0 = true := by decide +kernel
set_option maxRecDepth 65536 in
theorem w_ripe : about1.ripe theMethod args0 below0 = true := by decide +kernel
theorem w_running : about1.status = .running := rfl
set_option maxRecDepth 65536 in
theorem w_room : about1.hasRoom e0.platform room_1 = true :=
  launch0.hasRoom_least _ room_1 (by decide +kernel) (by decide +kernel) (by decide +kernel) (by decide +kernel) (by decide +kernel) (by decide +kernel)
theorem allAtoms_all (ts : List Jvm.Cond) (a : Array Jvm.Value) (st : Jvm.State) : (allAtoms ts).before a st = ts.all (fun c => c.before a st) := by
  induction ts with
  | nil => rfl
  | cons c t ih =>
    show (Jvm.Cond.and c (allAtoms t)).before a st = _
    rw [Jvm.Cond.before_and, ih, List.all_cons]
def words1 : List Jvm.Cond := Jvm.Cond.code x code maxLocals ret :: tables_1
/-- a 'code' word, met by the world's own term for the bytes: nothing is compared byte by byte -/
theorem code_word {y : MethodName} {bytes : ByteArray} {mx : Nat} {rt : Option FieldType} {a : Array Value} {s : State} {m : MethodId} {meth : Method} {c : Code} (h1 : s.methodNamed? y = some m) (h2 : s.vm.method? m = some meth) (h3 : meth.code = some c) (h4 : c.code = bytes)
    (h5 : (c.maxLocals == mx && c.exceptionTable.isEmpty && decide (c.maxStack ≤ mostOperands) && decide (meth.sig.returnType = rt) && !meth.locks && decide (parseMethodDescriptor y.desc = some meth.sig)) = true) : (Jvm.Cond.code y bytes mx rt).before a s = true := by
  simp only [Bool.and_eq_true, beq_iff_eq, Bool.not_eq_true', decide_eq_true_eq] at h5
  obtain ⟨⟨⟨⟨⟨g1, g2⟩, g3⟩, g4⟩, g5⟩, g6⟩ := h5
  simp [Cond.before, Cond.holds, Cond.value, h1, h2, h3, h4, g1, g2, g3, g4, g5, g6]
def isCode : Jvm.Cond → Bool
  | .code _ _ _ _ => true
  | _ => false
theorem all_split {L : List Jvm.Cond} {P : Jvm.Cond → Bool} (h1 : L.all (fun c => isCode c || P c) = true) (h2 : ∀ c ∈ L.filter isCode, P c = true) : L.all P = true := by
  refine List.all_eq_true.mpr fun c hc => ?_
  have h := List.all_eq_true.mp h1 c hc
  rcases Bool.eq_false_or_eq_true (isCode c) with hi | hi
  · exact h2 c (List.mem_filter.mpr ⟨hc, hi⟩)
  · simpa [hi] using h
set_option maxRecDepth 65536 in
theorem w_c0 : (Jvm.Cond.code x code maxLocals ret).before args0 about1 = true := code_word (m := ⟨1, 1⟩) (meth := k1m1) (c := k1c1) (by decide +kernel) rfl rfl rfl (by decide +kernel)
set_option maxRecDepth 65536 in
theorem w_c1 : (Jvm.Cond.code ({ cls := "java/lang/String", name := "<init>", desc := "([C)V" } : Jvm.MethodName) jdk_42_method_3_code (2 : Nat) (Option.none : Option Jvm.ClassFile.FieldType)).before args0 about1 = true := code_word (m := ⟨7, 1⟩) (meth := k7m1) (c := k7c1) (by decide +kernel) rfl rfl rfl (by decide +kernel)
set_option maxRecDepth 65536 in
theorem w_c2 : (Jvm.Cond.code ({ cls := "java/lang/String", name := "<init>", desc := "([CIILjava/lang/Void;)V" } : Jvm.MethodName) jdk_42_method_149_code (6 : Nat) (Option.none : Option Jvm.ClassFile.FieldType)).before args0 about1 = true := code_word (m := ⟨7, 6⟩) (meth := k7m6) (c := k7c6) (by decide +kernel) rfl rfl rfl (by decide +kernel)
set_option maxRecDepth 65536 in
theorem w_c3 : (Jvm.Cond.code ({ cls := "java/lang/Object", name := "<init>", desc := "()V" } : Jvm.MethodName) object_method_1_code (1 : Nat) (Option.none : Option Jvm.ClassFile.FieldType)).before args0 about1 = true := code_word (m := ⟨0, 0⟩) (meth := k0m0) (c := k0c0) (by decide +kernel) rfl rfl rfl (by decide +kernel)
set_option maxRecDepth 65536 in
theorem w_c4 : (Jvm.Cond.code ({ cls := "java/lang/StringUTF16", name := "compress", desc := "([CII)[B" } : Jvm.MethodName) jdk_52_method_16_code (6 : Nat) (Option.some (Jvm.ClassFile.FieldType.array Jvm.ClassFile.FieldType.byte))).before args0 about1 = true := code_word (m := ⟨8, 2⟩) (meth := k8m2) (c := k8c2) (by decide +kernel) rfl rfl rfl (by decide +kernel)
set_option maxRecDepth 65536 in
theorem w_c5 : (Jvm.Cond.code ({ cls := "java/lang/StringUTF16", name := "compress", desc := "([CI[BII)I" } : Jvm.MethodName) jdk_52_method_21_code (7 : Nat) (Option.some Jvm.ClassFile.FieldType.int)).before args0 about1 = true := code_word (m := ⟨8, 3⟩) (meth := k8m3) (c := k8c3) (by decide +kernel) rfl rfl rfl (by decide +kernel)
set_option maxRecDepth 65536 in
theorem w_c6 : (Jvm.Cond.code ({ cls := "java/lang/StringUTF16", name := "coderFromArrayLen", desc := "([BI)B" } : Jvm.MethodName) jdk_52_method_15_code (2 : Nat) (Option.some Jvm.ClassFile.FieldType.byte)).before args0 about1 = true := code_word (m := ⟨8, 1⟩) (meth := k8m1) (c := k8c1) (by decide +kernel) rfl rfl rfl (by decide +kernel)
set_option maxRecDepth 65536 in
theorem w_c7 : (Jvm.Cond.code ({ cls := "com/example/dealt/dealt/metrics/Exposition", name := "<init>", desc := "()V" } : Jvm.MethodName) prog_28_method_1_code (1 : Nat) (Option.none : Option Jvm.ClassFile.FieldType)).before args0 about1 = true := code_word (m := ⟨9, 0⟩) (meth := k9m0) (c := k9c0) (by decide +kernel) rfl rfl rfl (by decide +kernel)
set_option maxRecDepth 65536 in
theorem w_c8 : (Jvm.Cond.code ({ cls := "java/lang/StringBuilder", name := "<init>", desc := "()V" } : Jvm.MethodName) jdk_67_method_1_code (1 : Nat) (Option.none : Option Jvm.ClassFile.FieldType)).before args0 about1 = true := code_word (m := ⟨12, 0⟩) (meth := k12m0) (c := k12c0) (by decide +kernel) rfl rfl rfl (by decide +kernel)
set_option maxRecDepth 65536 in
theorem w_c9 : (Jvm.Cond.code ({ cls := "java/lang/AbstractStringBuilder", name := "<init>", desc := "(I)V" } : Jvm.MethodName) jdk_68_method_2_code (2 : Nat) (Option.none : Option Jvm.ClassFile.FieldType)).before args0 about1 = true := code_word (m := ⟨11, 1⟩) (meth := k11m1) (c := k11c1) (by decide +kernel) rfl rfl rfl (by decide +kernel)
set_option maxRecDepth 65536 in
theorem w_c10 : (Jvm.Cond.code ({ cls := "com/example/dealt/dealt/metrics/Exposition", name := "counter", desc := "(Ljava/lang/String;Ljava/lang/String;J)V" } : Jvm.MethodName) prog_28_method_4_code (5 : Nat) (Option.none : Option Jvm.ClassFile.FieldType)).before args0 about1 = true := code_word (m := ⟨9, 1⟩) (meth := k9m1) (c := k9c1) (by decide +kernel) rfl rfl rfl (by decide +kernel)
set_option maxRecDepth 65536 in
theorem w_c11 : (Jvm.Cond.code ({ cls := "com/example/dealt/dealt/metrics/Exposition", name := "head", desc := "(Ljava/lang/String;Ljava/lang/String;Ljava/lang/String;)V" } : Jvm.MethodName) prog_28_method_8_code (4 : Nat) (Option.none : Option Jvm.ClassFile.FieldType)).before args0 about1 = true := code_word (m := ⟨9, 3⟩) (meth := k9m3) (c := k9c3) (by decide +kernel) rfl rfl rfl (by decide +kernel)
set_option maxRecDepth 65536 in
theorem w_c12 : (Jvm.Cond.code ({ cls := "java/lang/StringBuilder", name := "append", desc := "(Ljava/lang/String;)Ljava/lang/StringBuilder;" } : Jvm.MethodName) jdk_67_method_7_code (2 : Nat) (Option.some (Jvm.ClassFile.FieldType.object "java/lang/StringBuilder"))).before args0 about1 = true := code_word (m := ⟨12, 1⟩) (meth := k12m1) (c := k12c1) (by decide +kernel) rfl rfl rfl (by decide +kernel)
set_option maxRecDepth 65536 in
theorem w_c13 : (Jvm.Cond.code ({ cls := "java/lang/AbstractStringBuilder", name := "append", desc := "(Ljava/lang/String;)Ljava/lang/AbstractStringBuilder;" } : Jvm.MethodName) jdk_68_method_22_code (3 : Nat) (Option.some (Jvm.ClassFile.FieldType.object "java/lang/AbstractStringBuilder"))).before args0 about1 = true := code_word (m := ⟨11, 5⟩) (meth := k11m5) (c := k11c5) (by decide +kernel) rfl rfl rfl (by decide +kernel)
set_option maxRecDepth 65536 in
theorem w_c14 : (Jvm.Cond.code ({ cls := "java/lang/String", name := "length", desc := "()I" } : Jvm.MethodName) jdk_42_method_54_code (1 : Nat) (Option.some Jvm.ClassFile.FieldType.int)).before args0 about1 = true := code_word (m := ⟨7, 3⟩) (meth := k7m3) (c := k7c3) (by decide +kernel) rfl rfl rfl (by decide +kernel)
set_option maxRecDepth 65536 in
theorem w_c15 : (Jvm.Cond.code ({ cls := "java/lang/String", name := "coder", desc := "()B" } : Jvm.MethodName) jdk_42_method_152_code (1 : Nat) (Option.some Jvm.ClassFile.FieldType.byte)).before args0 about1 = true := code_word (m := ⟨7, 8⟩) (meth := k7m8) (c := k7c8) (by decide +kernel) rfl rfl rfl (by decide +kernel)
set_option maxRecDepth 65536 in
theorem w_c16 : (Jvm.Cond.code ({ cls := "java/lang/AbstractStringBuilder", name := "ensureCapacityInternal", desc := "(I)V" } : Jvm.MethodName) jdk_68_method_9_code (3 : Nat) (Option.none : Option Jvm.ClassFile.FieldType)).before args0 about1 = true := code_word (m := ⟨11, 3⟩) (meth := k11m3) (c := k11c3) (by decide +kernel) rfl rfl rfl (by decide +kernel)
set_option maxRecDepth 65536 in
theorem w_c17 : (Jvm.Cond.code ({ cls := "java/lang/AbstractStringBuilder", name := "putStringAt", desc := "(ILjava/lang/String;)V" } : Jvm.MethodName) jdk_68_method_73_code (3 : Nat) (Option.none : Option Jvm.ClassFile.FieldType)).before args0 about1 = true := code_word (m := ⟨11, 11⟩) (meth := k11m11) (c := k11c11) (by decide +kernel) rfl rfl rfl (by decide +kernel)
set_option maxRecDepth 65536 in
theorem w_c18 : (Jvm.Cond.code ({ cls := "java/lang/AbstractStringBuilder", name := "inflateIfNeededFor", desc := "(Ljava/lang/String;)V" } : Jvm.MethodName) jdk_68_method_71_code (2 : Nat) (Option.none : Option Jvm.ClassFile.FieldType)).before args0 about1 = true := code_word (m := ⟨11, 10⟩) (meth := k11m10) (c := k11c10) (by decide +kernel) rfl rfl rfl (by decide +kernel)
set_option maxRecDepth 65536 in
theorem w_c19 : (Jvm.Cond.code ({ cls := "java/lang/String", name := "getBytes", desc := "([BIB)V" } : Jvm.MethodName) jdk_42_method_147_code (4 : Nat) (Option.none : Option Jvm.ClassFile.FieldType)).before args0 about1 = true := code_word (m := ⟨7, 5⟩) (meth := k7m5) (c := k7c5) (by decide +kernel) rfl rfl rfl (by decide +kernel)
set_option maxRecDepth 65536 in
theorem w_c20 : (Jvm.Cond.code ({ cls := "java/lang/StringBuilder", name := "append", desc := "(C)Ljava/lang/StringBuilder;" } : Jvm.MethodName) jdk_67_method_14_code (2 : Nat) (Option.some (Jvm.ClassFile.FieldType.object "java/lang/StringBuilder"))).before args0 about1 = true := code_word (m := ⟨12, 2⟩) (meth := k12m2) (c := k12c2) (by decide +kernel) rfl rfl rfl (by decide +kernel)
set_option maxRecDepth 65536 in
theorem w_c21 : (Jvm.Cond.code ({ cls := "java/lang/AbstractStringBuilder", name := "append", desc := "(C)Ljava/lang/AbstractStringBuilder;" } : Jvm.MethodName) jdk_68_method_31_code (2 : Nat) (Option.some (Jvm.ClassFile.FieldType.object "java/lang/AbstractStringBuilder"))).before args0 about1 = true := code_word (m := ⟨11, 6⟩) (meth := k11m6) (c := k11c6) (by decide +kernel) rfl rfl rfl (by decide +kernel)
set_option maxRecDepth 65536 in
theorem w_c22 : (Jvm.Cond.code ({ cls := "java/lang/AbstractStringBuilder", name := "isLatin1", desc := "()Z" } : Jvm.MethodName) jdk_68_method_68_code (1 : Nat) (Option.some Jvm.ClassFile.FieldType.boolean)).before args0 about1 = true := code_word (m := ⟨11, 9⟩) (meth := k11m9) (c := k11c9) (by decide +kernel) rfl rfl rfl (by decide +kernel)
set_option maxRecDepth 65536 in
theorem w_c23 : (Jvm.Cond.code ({ cls := "java/lang/StringLatin1", name := "canEncode", desc := "(C)Z" } : Jvm.MethodName) jdk_43_method_3_code (1 : Nat) (Option.some Jvm.ClassFile.FieldType.boolean)).before args0 about1 = true := code_word (m := ⟨14, 2⟩) (meth := k14m2) (c := k14c2) (by decide +kernel) rfl rfl rfl (by decide +kernel)
set_option maxRecDepth 65536 in
theorem w_c24 : (Jvm.Cond.code ({ cls := "java/lang/AbstractStringBuilder", name := "newCapacity", desc := "(I)I" } : Jvm.MethodName) jdk_68_method_10_code (6 : Nat) (Option.some Jvm.ClassFile.FieldType.int)).before args0 about1 = true := code_word (m := ⟨11, 4⟩) (meth := k11m4) (c := k11c4) (by decide +kernel) rfl rfl rfl (by decide +kernel)
set_option maxRecDepth 65536 in
theorem w_c25 : (Jvm.Cond.code ({ cls := "jdk/internal/util/ArraysSupport", name := "newLength", desc := "(III)I" } : Jvm.MethodName) jdk_48_method_27_code (4 : Nat) (Option.some Jvm.ClassFile.FieldType.int)).before args0 about1 = true := code_word (m := ⟨15, 1⟩) (meth := k15m1) (c := k15c1) (by decide +kernel) rfl rfl rfl (by decide +kernel)
set_option maxRecDepth 65536 in
theorem w_c26 : (Jvm.Cond.code ({ cls := "java/lang/Math", name := "max", desc := "(II)I" } : Jvm.MethodName) jdk_29_method_65_code (2 : Nat) (Option.some Jvm.ClassFile.FieldType.int)).before args0 about1 = true := code_word (m := ⟨16, 2⟩) (meth := k16m2) (c := k16c2) (by decide +kernel) rfl rfl rfl (by decide +kernel)
set_option maxRecDepth 65536 in
theorem w_c27 : (Jvm.Cond.code ({ cls := "java/util/Arrays", name := "copyOf", desc := "([BI)[B" } : Jvm.MethodName) jdk_65_method_121_code (3 : Nat) (Option.some (Jvm.ClassFile.FieldType.array Jvm.ClassFile.FieldType.byte))).before args0 about1 = true := code_word (m := ⟨17, 1⟩) (meth := k17m1) (c := k17c1) (by decide +kernel) rfl rfl rfl (by decide +kernel)
set_option maxRecDepth 65536 in
theorem w_c28 : (Jvm.Cond.code ({ cls := "java/lang/Math", name := "min", desc := "(II)I" } : Jvm.MethodName) jdk_29_method_69_code (2 : Nat) (Option.some Jvm.ClassFile.FieldType.int)).before args0 about1 = true := code_word (m := ⟨16, 3⟩) (meth := k16m3) (c := k16c3) (by decide +kernel) rfl rfl rfl (by decide +kernel)
set_option maxRecDepth 65536 in
theorem w_c29 : (Jvm.Cond.code ({ cls := "com/example/dealt/dealt/metrics/Exposition", name := "sample", desc := "(Ljava/lang/String;Ljava/lang/String;J)V" } : Jvm.MethodName) prog_28_method_9_code (5 : Nat) (Option.none : Option Jvm.ClassFile.FieldType)).before args0 about1 = true := code_word (m := ⟨9, 4⟩) (meth := k9m4) (c := k9c4) (by decide +kernel) rfl rfl rfl (by decide +kernel)
set_option maxRecDepth 65536 in
theorem w_c30 : (Jvm.Cond.code ({ cls := "java/lang/StringBuilder", name := "append", desc := "(J)Ljava/lang/StringBuilder;" } : Jvm.MethodName) jdk_67_method_16_code (3 : Nat) (Option.some (Jvm.ClassFile.FieldType.object "java/lang/StringBuilder"))).before args0 about1 = true := code_word (m := ⟨12, 3⟩) (meth := k12m3) (c := k12c3) (by decide +kernel) rfl rfl rfl (by decide +kernel)
set_option maxRecDepth 65536 in
theorem w_c31 : (Jvm.Cond.code ({ cls := "java/lang/AbstractStringBuilder", name := "append", desc := "(J)Ljava/lang/AbstractStringBuilder;" } : Jvm.MethodName) jdk_68_method_33_code (5 : Nat) (Option.some (Jvm.ClassFile.FieldType.object "java/lang/AbstractStringBuilder"))).before args0 about1 = true := code_word (m := ⟨11, 7⟩) (meth := k11m7) (c := k11c7) (by decide +kernel) rfl rfl rfl (by decide +kernel)
set_option maxRecDepth 65536 in
theorem w_c32 : (Jvm.Cond.code ({ cls := "java/lang/Long", name := "stringSize", desc := "(J)I" } : Jvm.MethodName) jdk_35_method_15_code (6 : Nat) (Option.some Jvm.ClassFile.FieldType.int)).before args0 about1 = true := code_word (m := ⟨19, 1⟩) (meth := k19m1) (c := k19c1) (by decide +kernel) rfl rfl rfl (by decide +kernel)
set_option maxRecDepth 65536 in
theorem w_c33 : (Jvm.Cond.code ({ cls := "java/lang/Long", name := "getChars", desc := "(JI[B)I" } : Jvm.MethodName) jdk_35_method_14_code (11 : Nat) (Option.some Jvm.ClassFile.FieldType.int)).before args0 about1 = true := code_word (m := ⟨19, 0⟩) (meth := k19m0) (c := k19c0) (by decide +kernel) rfl rfl rfl (by decide +kernel)
set_option maxRecDepth 65536 in
theorem w_c34 : (Jvm.Cond.code ({ cls := "com/example/dealt/dealt/metrics/Exposition", name := "text", desc := "()Ljava/lang/String;" } : Jvm.MethodName) prog_28_method_7_code (1 : Nat) (Option.some (Jvm.ClassFile.FieldType.object "java/lang/String"))).before args0 about1 = true := code_word (m := ⟨9, 2⟩) (meth := k9m2) (c := k9c2) (by decide +kernel) rfl rfl rfl (by decide +kernel)
set_option maxRecDepth 65536 in
theorem w_c35 : (Jvm.Cond.code ({ cls := "java/lang/StringBuilder", name := "toString", desc := "()Ljava/lang/String;" } : Jvm.MethodName) jdk_67_method_42_code (1 : Nat) (Option.some (Jvm.ClassFile.FieldType.object "java/lang/String"))).before args0 about1 = true := code_word (m := ⟨12, 4⟩) (meth := k12m4) (c := k12c4) (by decide +kernel) rfl rfl rfl (by decide +kernel)
set_option maxRecDepth 65536 in
theorem w_c36 : (Jvm.Cond.code ({ cls := "java/lang/String", name := "<init>", desc := "(Ljava/lang/StringBuilder;)V" } : Jvm.MethodName) jdk_42_method_53_code (2 : Nat) (Option.none : Option Jvm.ClassFile.FieldType)).before args0 about1 = true := code_word (m := ⟨7, 2⟩) (meth := k7m2) (c := k7c2) (by decide +kernel) rfl rfl rfl (by decide +kernel)
set_option maxRecDepth 65536 in
theorem w_c37 : (Jvm.Cond.code ({ cls := "java/lang/String", name := "<init>", desc := "(Ljava/lang/AbstractStringBuilder;Ljava/lang/Void;)V" } : Jvm.MethodName) jdk_42_method_150_code (5 : Nat) (Option.none : Option Jvm.ClassFile.FieldType)).before args0 about1 = true := code_word (m := ⟨7, 7⟩) (meth := k7m7) (c := k7c7) (by decide +kernel) rfl rfl rfl (by decide +kernel)
set_option maxRecDepth 65536 in
theorem w_c38 : (Jvm.Cond.code ({ cls := "java/lang/AbstractStringBuilder", name := "getValue", desc := "()[B" } : Jvm.MethodName) jdk_68_method_64_code (1 : Nat) (Option.some (Jvm.ClassFile.FieldType.array Jvm.ClassFile.FieldType.byte))).before args0 about1 = true := code_word (m := ⟨11, 8⟩) (meth := k11m8) (c := k11c8) (by decide +kernel) rfl rfl rfl (by decide +kernel)
set_option maxRecDepth 65536 in
theorem w_c39 : (Jvm.Cond.code ({ cls := "java/lang/StringBuilder", name := "length", desc := "()I" } : Jvm.MethodName) jdk_67_method_93_code (1 : Nat) (Option.some Jvm.ClassFile.FieldType.int)).before args0 about1 = true := code_word (m := ⟨12, 5⟩) (meth := k12m5) (c := k12c5) (by decide +kernel) rfl rfl rfl (by decide +kernel)
set_option maxRecDepth 65536 in
theorem w_c40 : (Jvm.Cond.code ({ cls := "java/lang/AbstractStringBuilder", name := "length", desc := "()I" } : Jvm.MethodName) jdk_68_method_6_code (1 : Nat) (Option.some Jvm.ClassFile.FieldType.int)).before args0 about1 = true := code_word (m := ⟨11, 2⟩) (meth := k11m2) (c := k11c2) (by decide +kernel) rfl rfl rfl (by decide +kernel)
set_option maxRecDepth 65536 in
theorem w_c41 : (Jvm.Cond.code ({ cls := "java/util/Arrays", name := "copyOfRange", desc := "([BII)[B" } : Jvm.MethodName) jdk_65_method_132_code (3 : Nat) (Option.some (Jvm.ClassFile.FieldType.array Jvm.ClassFile.FieldType.byte))).before args0 about1 = true := code_word (m := ⟨17, 3⟩) (meth := k17m3) (c := k17c3) (by decide +kernel) rfl rfl rfl (by decide +kernel)
set_option maxRecDepth 65536 in
theorem w_c42 : (Jvm.Cond.code ({ cls := "java/util/Arrays", name := "copyOfRangeByte", desc := "([BII)[B" } : Jvm.MethodName) jdk_65_method_133_code (5 : Nat) (Option.some (Jvm.ClassFile.FieldType.array Jvm.ClassFile.FieldType.byte))).before args0 about1 = true := code_word (m := ⟨17, 4⟩) (meth := k17m4) (c := k17c4) (by decide +kernel) rfl rfl rfl (by decide +kernel)
set_option maxRecDepth 65536 in
theorem w_c43 : (Jvm.Cond.code ({ cls := "java/util/Arrays", name := "checkLength", desc := "(II)V" } : Jvm.MethodName) jdk_65_method_131_code (2 : Nat) (Option.none : Option Jvm.ClassFile.FieldType)).before args0 about1 = true := code_word (m := ⟨17, 2⟩) (meth := k17m2) (c := k17c2) (by decide +kernel) rfl rfl rfl (by decide +kernel)
set_option maxRecDepth 65536 in
theorem w_c44 : (Jvm.Cond.code ({ cls := "com/example/dealt/dealt/metrics/ExpositionCounterPinLaw", name := "nz", desc := "(JJ)I" } : Jvm.MethodName) method_3_code (4 : Nat) (Option.some Jvm.ClassFile.FieldType.int)).before args0 about1 = true := code_word (m := ⟨1, 2⟩) (meth := k1m2) (c := k1c2) (by decide +kernel) rfl rfl rfl (by decide +kernel)
set_option maxRecDepth 65536 in
theorem w_c45 : (Jvm.Cond.code ({ cls := "com/example/dealt/dealt/metrics/ExpositionCounterPinLaw", name := "put", desc := "([CIIIJJ)V" } : Jvm.MethodName) method_4_code (8 : Nat) (Option.none : Option Jvm.ClassFile.FieldType)).before args0 about1 = true := code_word (m := ⟨1, 3⟩) (meth := k1m3) (c := k1c3) (by decide +kernel) rfl rfl rfl (by decide +kernel)
set_option maxRecDepth 65536 in
theorem w_c46 : (Jvm.Cond.code ({ cls := "java/lang/Math", name := "abs", desc := "(J)J" } : Jvm.MethodName) jdk_29_method_61_code (2 : Nat) (Option.some Jvm.ClassFile.FieldType.long)).before args0 about1 = true := code_word (m := ⟨16, 1⟩) (meth := k16m1) (c := k16c1) (by decide +kernel) rfl rfl rfl (by decide +kernel)
set_option maxRecDepth 65536 in
theorem w_c47 : (Jvm.Cond.code ({ cls := "com/example/dealt/dealt/metrics/ExpositionCounterPinLaw", name := "block", desc := "(Ljava/lang/String;[CII)Z" } : Jvm.MethodName) method_7_code (4 : Nat) (Option.some Jvm.ClassFile.FieldType.boolean)).before args0 about1 = true := code_word (m := ⟨1, 6⟩) (meth := k1m6) (c := k1c6) (by decide +kernel) rfl rfl rfl (by decide +kernel)
set_option maxRecDepth 65536 in
theorem w_c48 : (Jvm.Cond.code ({ cls := "com/example/dealt/dealt/metrics/ExpositionCounterPinLaw", name := "five", desc := "(Ljava/lang/String;[CIII)Z" } : Jvm.MethodName) method_6_code (5 : Nat) (Option.some Jvm.ClassFile.FieldType.boolean)).before args0 about1 = true := code_word (m := ⟨1, 5⟩) (meth := k1m5) (c := k1c5) (by decide +kernel) rfl rfl rfl (by decide +kernel)
set_option maxRecDepth 65536 in
theorem w_c49 : (Jvm.Cond.code ({ cls := "com/example/dealt/dealt/metrics/ExpositionCounterPinLaw", name := "q", desc := "(Ljava/lang/String;[CIII)Z" } : Jvm.MethodName) method_5_code (5 : Nat) (Option.some Jvm.ClassFile.FieldType.boolean)).before args0 about1 = true := code_word (m := ⟨1, 4⟩) (meth := k1m4) (c := k1c4) (by decide +kernel) rfl rfl rfl (by decide +kernel)
set_option maxRecDepth 65536 in
theorem w_c50 : (Jvm.Cond.code ({ cls := "java/lang/String", name := "charAt", desc := "(I)C" } : Jvm.MethodName) jdk_42_method_56_code (2 : Nat) (Option.some Jvm.ClassFile.FieldType.char)).before args0 about1 = true := code_word (m := ⟨7, 4⟩) (meth := k7m4) (c := k7c4) (by decide +kernel) rfl rfl rfl (by decide +kernel)
set_option maxRecDepth 65536 in
theorem w_c51 : (Jvm.Cond.code ({ cls := "java/lang/String", name := "isLatin1", desc := "()Z" } : Jvm.MethodName) jdk_42_method_154_code (1 : Nat) (Option.some Jvm.ClassFile.FieldType.boolean)).before args0 about1 = true := code_word (m := ⟨7, 9⟩) (meth := k7m9) (c := k7c9) (by decide +kernel) rfl rfl rfl (by decide +kernel)
set_option maxRecDepth 65536 in
theorem w_c52 : (Jvm.Cond.code ({ cls := "java/lang/StringLatin1", name := "charAt", desc := "([BI)C" } : Jvm.MethodName) jdk_43_method_2_code (2 : Nat) (Option.some Jvm.ClassFile.FieldType.char)).before args0 about1 = true := code_word (m := ⟨14, 1⟩) (meth := k14m1) (c := k14c1) (by decide +kernel) rfl rfl rfl (by decide +kernel)
set_option maxRecDepth 65536 in
theorem w_c53 : (Jvm.Cond.code ({ cls := "java/lang/String", name := "checkIndex", desc := "(II)V" } : Jvm.MethodName) jdk_42_method_155_code (2 : Nat) (Option.none : Option Jvm.ClassFile.FieldType)).before args0 about1 = true := code_word (m := ⟨7, 10⟩) (meth := k7m10) (c := k7c10) (by decide +kernel) rfl rfl rfl (by decide +kernel)
set_option maxRecDepth 65536 in
theorem w_c54 : (Jvm.Cond.code ({ cls := "jdk/internal/util/Preconditions", name := "checkIndex", desc := "(IILjava/util/function/BiFunction;)I" } : Jvm.MethodName) jdk_41_method_11_code (3 : Nat) (Option.some Jvm.ClassFile.FieldType.int)).before args0 about1 = true := code_word (m := ⟨21, 1⟩) (meth := k21m1) (c := k21c1) (by decide +kernel) rfl rfl rfl (by decide +kernel)
def codes1 : List Jvm.Cond := [Jvm.Cond.code x code maxLocals ret, Jvm.Cond.code ({ cls := "java/lang/String", name := "<init>", desc := "([C)V" } : Jvm.MethodName) jdk_42_method_3_code (2 : Nat) (Option.none : Option Jvm.ClassFile.FieldType), Jvm.Cond.code ({ cls := "java/lang/String", name := "<init>", desc := "([CIILjava/lang/Void;)V" } : Jvm.MethodName) jdk_42_method_149_code (6 : Nat) (Option.none : Option Jvm.ClassFile.FieldType), Jvm.Cond.code ({ cls := "java/lang/Object", name := "<init>", desc := "()V" } : Jvm.MethodName) object_method_1_code (1 : Nat) (Option.none : Option Jvm.ClassFile.FieldType), Jvm.Cond.code ({ cls := "java/lang/StringUTF16", name := "compress", desc := "([CII)[B" } : Jvm.MethodName) jdk_52_method_16_code (6 : Nat) (Option.some (Jvm.ClassFile.FieldType.array Jvm.ClassFile.FieldType.byte)), Jvm.Cond.code ({ cls := "java/lang/StringUTF16", name := "compress", desc := "([CI[BII)I" } : Jvm.MethodName) jdk_52_method_21_code (7 : Nat) (Option.some Jvm.ClassFile.FieldType.int), Jvm.Cond.code ({ cls := "java/lang/StringUTF16", name := "coderFromArrayLen", desc := "([BI)B" } : Jvm.MethodName) jdk_52_method_15_code (2 : Nat) (Option.some Jvm.ClassFile.FieldType.byte), Jvm.Cond.code ({ cls := "com/example/dealt/dealt/metrics/Exposition", name := "<init>", desc := "()V" } : Jvm.MethodName) prog_28_method_1_code (1 : Nat) (Option.none : Option Jvm.ClassFile.FieldType), Jvm.Cond.code ({ cls := "java/lang/StringBuilder", name := "<init>", desc := "()V" } : Jvm.MethodName) jdk_67_method_1_code (1 : Nat) (Option.none : Option Jvm.ClassFile.FieldType), Jvm.Cond.code ({ cls := "java/lang/AbstractStringBuilder", name := "<init>", desc := "(I)V" } : Jvm.MethodName) jdk_68_method_2_code (2 : Nat) (Option.none : Option Jvm.ClassFile.FieldType), Jvm.Cond.code ({ cls := "com/example/dealt/dealt/metrics/Exposition", name := "counter", desc := "(Ljava/lang/String;Ljava/lang/String;J)V" } : Jvm.MethodName) prog_28_method_4_code (5 : Nat) (Option.none : Option Jvm.ClassFile.FieldType), Jvm.Cond.code ({ cls := "com/example/dealt/dealt/metrics/Exposition", name := "head", desc := "(Ljava/lang/String;Ljava/lang/String;Ljava/lang/String;)V" } : Jvm.MethodName) prog_28_method_8_code (4 : Nat) (Option.none : Option Jvm.ClassFile.FieldType), Jvm.Cond.code ({ cls := "java/lang/StringBuilder", name := "append", desc := "(Ljava/lang/String;)Ljava/lang/StringBuilder;" } : Jvm.MethodName) jdk_67_method_7_code (2 : Nat) (Option.some (Jvm.ClassFile.FieldType.object "java/lang/StringBuilder")), Jvm.Cond.code ({ cls := "java/lang/AbstractStringBuilder", name := "append", desc := "(Ljava/lang/String;)Ljava/lang/AbstractStringBuilder;" } : Jvm.MethodName) jdk_68_method_22_code (3 : Nat) (Option.some (Jvm.ClassFile.FieldType.object "java/lang/AbstractStringBuilder")), Jvm.Cond.code ({ cls := "java/lang/String", name := "length", desc := "()I" } : Jvm.MethodName) jdk_42_method_54_code (1 : Nat) (Option.some Jvm.ClassFile.FieldType.int), Jvm.Cond.code ({ cls := "java/lang/String", name := "coder", desc := "()B" } : Jvm.MethodName) jdk_42_method_152_code (1 : Nat) (Option.some Jvm.ClassFile.FieldType.byte), Jvm.Cond.code ({ cls := "java/lang/AbstractStringBuilder", name := "ensureCapacityInternal", desc := "(I)V" } : Jvm.MethodName) jdk_68_method_9_code (3 : Nat) (Option.none : Option Jvm.ClassFile.FieldType), Jvm.Cond.code ({ cls := "java/lang/AbstractStringBuilder", name := "putStringAt", desc := "(ILjava/lang/String;)V" } : Jvm.MethodName) jdk_68_method_73_code (3 : Nat) (Option.none : Option Jvm.ClassFile.FieldType), Jvm.Cond.code ({ cls := "java/lang/AbstractStringBuilder", name := "inflateIfNeededFor", desc := "(Ljava/lang/String;)V" } : Jvm.MethodName) jdk_68_method_71_code (2 : Nat) (Option.none : Option Jvm.ClassFile.FieldType), Jvm.Cond.code ({ cls := "java/lang/String", name := "getBytes", desc := "([BIB)V" } : Jvm.MethodName) jdk_42_method_147_code (4 : Nat) (Option.none : Option Jvm.ClassFile.FieldType), Jvm.Cond.code ({ cls := "java/lang/StringBuilder", name := "append", desc := "(C)Ljava/lang/StringBuilder;" } : Jvm.MethodName) jdk_67_method_14_code (2 : Nat) (Option.some (Jvm.ClassFile.FieldType.object "java/lang/StringBuilder")), Jvm.Cond.code ({ cls := "java/lang/AbstractStringBuilder", name := "append", desc := "(C)Ljava/lang/AbstractStringBuilder;" } : Jvm.MethodName) jdk_68_method_31_code (2 : Nat) (Option.some (Jvm.ClassFile.FieldType.object "java/lang/AbstractStringBuilder")), Jvm.Cond.code ({ cls := "java/lang/AbstractStringBuilder", name := "isLatin1", desc := "()Z" } : Jvm.MethodName) jdk_68_method_68_code (1 : Nat) (Option.some Jvm.ClassFile.FieldType.boolean), Jvm.Cond.code ({ cls := "java/lang/StringLatin1", name := "canEncode", desc := "(C)Z" } : Jvm.MethodName) jdk_43_method_3_code (1 : Nat) (Option.some Jvm.ClassFile.FieldType.boolean), Jvm.Cond.code ({ cls := "java/lang/AbstractStringBuilder", name := "newCapacity", desc := "(I)I" } : Jvm.MethodName) jdk_68_method_10_code (6 : Nat) (Option.some Jvm.ClassFile.FieldType.int), Jvm.Cond.code ({ cls := "jdk/internal/util/ArraysSupport", name := "newLength", desc := "(III)I" } : Jvm.MethodName) jdk_48_method_27_code (4 : Nat) (Option.some Jvm.ClassFile.FieldType.int), Jvm.Cond.code ({ cls := "java/lang/Math", name := "max", desc := "(II)I" } : Jvm.MethodName) jdk_29_method_65_code (2 : Nat) (Option.some Jvm.ClassFile.FieldType.int), Jvm.Cond.code ({ cls := "java/util/Arrays", name := "copyOf", desc := "([BI)[B" } : Jvm.MethodName) jdk_65_method_121_code (3 : Nat) (Option.some (Jvm.ClassFile.FieldType.array Jvm.ClassFile.FieldType.byte)), Jvm.Cond.code ({ cls := "java/lang/Math", name := "min", desc := "(II)I" } : Jvm.MethodName) jdk_29_method_69_code (2 : Nat) (Option.some Jvm.ClassFile.FieldType.int), Jvm.Cond.code ({ cls := "com/example/dealt/dealt/metrics/Exposition", name := "sample", desc := "(Ljava/lang/String;Ljava/lang/String;J)V" } : Jvm.MethodName) prog_28_method_9_code (5 : Nat) (Option.none : Option Jvm.ClassFile.FieldType), Jvm.Cond.code ({ cls := "java/lang/StringBuilder", name := "append", desc := "(J)Ljava/lang/StringBuilder;" } : Jvm.MethodName) jdk_67_method_16_code (3 : Nat) (Option.some (Jvm.ClassFile.FieldType.object "java/lang/StringBuilder")), Jvm.Cond.code ({ cls := "java/lang/AbstractStringBuilder", name := "append", desc := "(J)Ljava/lang/AbstractStringBuilder;" } : Jvm.MethodName) jdk_68_method_33_code (5 : Nat) (Option.some (Jvm.ClassFile.FieldType.object "java/lang/AbstractStringBuilder")), Jvm.Cond.code ({ cls := "java/lang/Long", name := "stringSize", desc := "(J)I" } : Jvm.MethodName) jdk_35_method_15_code (6 : Nat) (Option.some Jvm.ClassFile.FieldType.int), Jvm.Cond.code ({ cls := "java/lang/Long", name := "getChars", desc := "(JI[B)I" } : Jvm.MethodName) jdk_35_method_14_code (11 : Nat) (Option.some Jvm.ClassFile.FieldType.int), Jvm.Cond.code ({ cls := "com/example/dealt/dealt/metrics/Exposition", name := "text", desc := "()Ljava/lang/String;" } : Jvm.MethodName) prog_28_method_7_code (1 : Nat) (Option.some (Jvm.ClassFile.FieldType.object "java/lang/String")), Jvm.Cond.code ({ cls := "java/lang/StringBuilder", name := "toString", desc := "()Ljava/lang/String;" } : Jvm.MethodName) jdk_67_method_42_code (1 : Nat) (Option.some (Jvm.ClassFile.FieldType.object "java/lang/String")), Jvm.Cond.code ({ cls := "java/lang/String", name := "<init>", desc := "(Ljava/lang/StringBuilder;)V" } : Jvm.MethodName) jdk_42_method_53_code (2 : Nat) (Option.none : Option Jvm.ClassFile.FieldType), Jvm.Cond.code ({ cls := "java/lang/String", name := "<init>", desc := "(Ljava/lang/AbstractStringBuilder;Ljava/lang/Void;)V" } : Jvm.MethodName) jdk_42_method_150_code (5 : Nat) (Option.none : Option Jvm.ClassFile.FieldType), Jvm.Cond.code ({ cls := "java/lang/AbstractStringBuilder", name := "getValue", desc := "()[B" } : Jvm.MethodName) jdk_68_method_64_code (1 : Nat) (Option.some (Jvm.ClassFile.FieldType.array Jvm.ClassFile.FieldType.byte)), Jvm.Cond.code ({ cls := "java/lang/StringBuilder", name := "length", desc := "()I" } : Jvm.MethodName) jdk_67_method_93_code (1 : Nat) (Option.some Jvm.ClassFile.FieldType.int), Jvm.Cond.code ({ cls := "java/lang/AbstractStringBuilder", name := "length", desc := "()I" } : Jvm.MethodName) jdk_68_method_6_code (1 : Nat) (Option.some Jvm.ClassFile.FieldType.int), Jvm.Cond.code ({ cls := "java/util/Arrays", name := "copyOfRange", desc := "([BII)[B" } : Jvm.MethodName) jdk_65_method_132_code (3 : Nat) (Option.some (Jvm.ClassFile.FieldType.array Jvm.ClassFile.FieldType.byte)), Jvm.Cond.code ({ cls := "java/util/Arrays", name := "copyOfRangeByte", desc := "([BII)[B" } : Jvm.MethodName) jdk_65_method_133_code (5 : Nat) (Option.some (Jvm.ClassFile.FieldType.array Jvm.ClassFile.FieldType.byte)), Jvm.Cond.code ({ cls := "java/util/Arrays", name := "checkLength", desc := "(II)V" } : Jvm.MethodName) jdk_65_method_131_code (2 : Nat) (Option.none : Option Jvm.ClassFile.FieldType), Jvm.Cond.code ({ cls := "com/example/dealt/dealt/metrics/ExpositionCounterPinLaw", name := "nz", desc := "(JJ)I" } : Jvm.MethodName) method_3_code (4 : Nat) (Option.some Jvm.ClassFile.FieldType.int), Jvm.Cond.code ({ cls := "com/example/dealt/dealt/metrics/ExpositionCounterPinLaw", name := "put", desc := "([CIIIJJ)V" } : Jvm.MethodName) method_4_code (8 : Nat) (Option.none : Option Jvm.ClassFile.FieldType), Jvm.Cond.code ({ cls := "java/lang/Math", name := "abs", desc := "(J)J" } : Jvm.MethodName) jdk_29_method_61_code (2 : Nat) (Option.some Jvm.ClassFile.FieldType.long), Jvm.Cond.code ({ cls := "com/example/dealt/dealt/metrics/ExpositionCounterPinLaw", name := "block", desc := "(Ljava/lang/String;[CII)Z" } : Jvm.MethodName) method_7_code (4 : Nat) (Option.some Jvm.ClassFile.FieldType.boolean), Jvm.Cond.code ({ cls := "com/example/dealt/dealt/metrics/ExpositionCounterPinLaw", name := "five", desc := "(Ljava/lang/String;[CIII)Z" } : Jvm.MethodName) method_6_code (5 : Nat) (Option.some Jvm.ClassFile.FieldType.boolean), Jvm.Cond.code ({ cls := "com/example/dealt/dealt/metrics/ExpositionCounterPinLaw", name := "q", desc := "(Ljava/lang/String;[CIII)Z" } : Jvm.MethodName) method_5_code (5 : Nat) (Option.some Jvm.ClassFile.FieldType.boolean), Jvm.Cond.code ({ cls := "java/lang/String", name := "charAt", desc := "(I)C" } : Jvm.MethodName) jdk_42_method_56_code (2 : Nat) (Option.some Jvm.ClassFile.FieldType.char), Jvm.Cond.code ({ cls := "java/lang/String", name := "isLatin1", desc := "()Z" } : Jvm.MethodName) jdk_42_method_154_code (1 : Nat) (Option.some Jvm.ClassFile.FieldType.boolean), Jvm.Cond.code ({ cls := "java/lang/StringLatin1", name := "charAt", desc := "([BI)C" } : Jvm.MethodName) jdk_43_method_2_code (2 : Nat) (Option.some Jvm.ClassFile.FieldType.char), Jvm.Cond.code ({ cls := "java/lang/String", name := "checkIndex", desc := "(II)V" } : Jvm.MethodName) jdk_42_method_155_code (2 : Nat) (Option.none : Option Jvm.ClassFile.FieldType), Jvm.Cond.code ({ cls := "jdk/internal/util/Preconditions", name := "checkIndex", desc := "(IILjava/util/function/BiFunction;)I" } : Jvm.MethodName) jdk_41_method_11_code (3 : Nat) (Option.some Jvm.ClassFile.FieldType.int)]
set_option maxRecDepth 65536 in
theorem codes_eq : words1.filter isCode = codes1 := rfl
theorem w_codes : ∀ c ∈ words1.filter isCode, c.before args0 about1 = true := by
  rw [codes_eq]
  intro c hc
  simp only [codes1, List.mem_cons, List.not_mem_nil, or_false] at hc
  rcases hc with rfl | rfl | rfl | rfl | rfl | rfl | rfl | rfl | rfl | rfl | rfl | rfl | rfl | rfl | rfl | rfl | rfl | rfl | rfl | rfl | rfl | rfl | rfl | rfl | rfl | rfl | rfl | rfl | rfl | rfl | rfl | rfl | rfl | rfl | rfl | rfl | rfl | rfl | rfl | rfl | rfl | rfl | rfl | rfl | rfl | rfl | rfl | rfl | rfl | rfl | rfl | rfl | rfl | rfl | rfl
  · exact w_c0
  · exact w_c1
  · exact w_c2
  · exact w_c3
  · exact w_c4
  · exact w_c5
  · exact w_c6
  · exact w_c7
  · exact w_c8
  · exact w_c9
  · exact w_c10
  · exact w_c11
  · exact w_c12
  · exact w_c13
  · exact w_c14
  · exact w_c15
  · exact w_c16
  · exact w_c17
  · exact w_c18
  · exact w_c19
  · exact w_c20
  · exact w_c21
  · exact w_c22
  · exact w_c23
  · exact w_c24
  · exact w_c25
  · exact w_c26
  · exact w_c27
  · exact w_c28
  · exact w_c29
  · exact w_c30
  · exact w_c31
  · exact w_c32
  · exact w_c33
  · exact w_c34
  · exact w_c35
  · exact w_c36
  · exact w_c37
  · exact w_c38
  · exact w_c39
  · exact w_c40
  · exact w_c41
  · exact w_c42
  · exact w_c43
  · exact w_c44
  · exact w_c45
  · exact w_c46
  · exact w_c47
  · exact w_c48
  · exact w_c49
  · exact w_c50
  · exact w_c51
  · exact w_c52
  · exact w_c53
  · exact w_c54
set_option maxRecDepth 65536 in
theorem w_t1 : (words1.take 24).all (fun c => isCode c || c.before args0 about1) = true := by decide +kernel
set_option maxRecDepth 65536 in
theorem w_t2 : ((words1.drop 24).take 24).all (fun c => isCode c || c.before args0 about1) = true := by decide +kernel
set_option maxRecDepth 65536 in
theorem w_t3 : (((words1.drop 24).drop 24).take 24).all (fun c => isCode c || c.before args0 about1) = true := by decide +kernel
set_option maxRecDepth 65536 in
theorem w_t4 : ((((words1.drop 24).drop 24).drop 24).take 24).all (fun c => isCode c || c.before args0 about1) = true := by decide +kernel
set_option maxRecDepth 65536 in
theorem w_t5 : (((((words1.drop 24).drop 24).drop 24).drop 24).take 24).all (fun c => isCode c || c.before args0 about1) = true := by decide +kernel
set_option maxRecDepth 65536 in
theorem w_t6 : ((((((words1.drop 24).drop 24).drop 24).drop 24).drop 24).take 24).all (fun c => isCode c || c.before args0 about1) = true := by decide +kernel
set_option maxRecDepth 65536 in
theorem w_t7 : (((((((words1.drop 24).drop 24).drop 24).drop 24).drop 24).drop 24).take 24).all (fun c => isCode c || c.before args0 about1) = true := by decide +kernel
set_option maxRecDepth 65536 in
theorem w_t8 : ((((((((words1.drop 24).drop 24).drop 24).drop 24).drop 24).drop 24).drop 24).take 24).all (fun c => isCode c || c.before args0 about1) = true := by decide +kernel
set_option maxRecDepth 65536 in
theorem w_t9 : (((((((((words1.drop 24).drop 24).drop 24).drop 24).drop 24).drop 24).drop 24).drop 24).take 24).all (fun c => isCode c || c.before args0 about1) = true := by decide +kernel
set_option maxRecDepth 65536 in
theorem w_t10 : ((((((((((words1.drop 24).drop 24).drop 24).drop 24).drop 24).drop 24).drop 24).drop 24).drop 24).take 24).all (fun c => isCode c || c.before args0 about1) = true := by decide +kernel
set_option maxRecDepth 65536 in
theorem w_t11 : (((((((((((words1.drop 24).drop 24).drop 24).drop 24).drop 24).drop 24).drop 24).drop 24).drop 24).drop 24).take 24).all (fun c => isCode c || c.before args0 about1) = true := by decide +kernel
set_option maxRecDepth 65536 in
theorem w_t12 : (((((((((((words1.drop 24).drop 24).drop 24).drop 24).drop 24).drop 24).drop 24).drop 24).drop 24).drop 24).drop 24).all (fun c => isCode c || c.before args0 about1) = true := by decide +kernel
theorem w_tables : (allAtoms (Jvm.Cond.code x code maxLocals ret :: tables_1)).before args0 about1 = true := by
  rw [allAtoms_all]
  show words1.all (fun c => c.before args0 about1) = true
  refine all_split ?_ w_codes
  rw [← List.take_append_drop 24 words1, List.all_append, w_t1, ← List.take_append_drop 24 (words1.drop 24), List.all_append, w_t2, ← List.take_append_drop 24 ((words1.drop 24).drop 24), List.all_append, w_t3, ← List.take_append_drop 24 (((words1.drop 24).drop 24).drop 24), List.all_append, w_t4, ← List.take_append_drop 24 ((((words1.drop 24).drop 24).drop 24).drop 24), List.all_append, w_t5, ← List.take_append_drop 24 (((((words1.drop 24).drop 24).drop 24).drop 24).drop 24), List.all_append, w_t6, ← List.take_append_drop 24 ((((((words1.drop 24).drop 24).drop 24).drop 24).drop 24).drop 24), List.all_append, w_t7, ← List.take_append_drop 24 (((((((words1.drop 24).drop 24).drop 24).drop 24).drop 24).drop 24).drop 24), List.all_append, w_t8, ← List.take_append_drop 24 ((((((((words1.drop 24).drop 24).drop 24).drop 24).drop 24).drop 24).drop 24).drop 24), List.all_append, w_t9, ← List.take_append_drop 24 (((((((((words1.drop 24).drop 24).drop 24).drop 24).drop 24).drop 24).drop 24).drop 24).drop 24), List.all_append, w_t10, ← List.take_append_drop 24 ((((((((((words1.drop 24).drop 24).drop 24).drop 24).drop 24).drop 24).drop 24).drop 24).drop 24).drop 24), List.all_append, w_t11, w_t12]
  rfl
set_option maxRecDepth 65536 in
theorem w_rest : rest_1_c.before args0 about1 = true := by decide +kernel
set_option maxRecDepth 65536 in
theorem w_case : (Jvm.Cond.and given_1 narrow_1).before args0 about1 = true := by decide +kernel
set_option maxRecDepth 65536 in
theorem w_consts : constsHeld consts_1 about1 := Jvm.Lit.constsHeldB_iff.mp (by decide +kernel)
theorem w_applies : (headSpec (Jvm.Cond.code x code maxLocals ret :: tables_1) room_1).applies x e0.platform about1 = true :=
  (Spec.applies_iff w_frames).mpr ⟨w_running, w_runnable, w_alone, w_named, w_hears, w_ripe, w_room, w_tables⟩
theorem atStart : AtStart classFile x code maxLocals ret World_1 tables_1 room_1 Calls_1 rest_1 Pre_1 launch0 p0 e0 about1 theMethod args0 below0 :=
  ⟨lists_1, trivial, launch0.admits_env _ _ _, launch0.least_env, fairChoices_fair.cas, fairChoices_fair.clock, w_frames, w_args, w_heap, w_applies, ⟨w_consts, trivial⟩, w_rest, w_case⟩
end start1
theorem witness_1 : WitnessClaimed_1 := ⟨start1.p0, start1.e0, start1.about1, start1.theMethod, start1.args0, start1.below0, start1.atStart⟩
end Jvm.Pilot.@@N@@
