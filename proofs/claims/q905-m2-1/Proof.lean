import JvmDerived
import JvmDerived.Pilot.@@N@@Statement
import JvmDerived.Pilot.@@N@@Code
set_option linter.unusedVariables false
set_option linter.unusedSimpArgs false
namespace Jvm.RoadKit
open Sem ClassFile Op Lib Jvm.Stand Jvm.Free Jvm.LawKit
section New
variable {p : Program} {l : Launch} {e : Env} {R : Room} {s : State} {m : MethodId} {args : Array Value} {below : List Frame} {meth : Method} {c : Code} {T : State} {locs : List Loc} {cells slots : Nat}
theorem retI (X : Stand p l e R s m args below meth c T locs cells slots) (hx : p.tables.exec = Jvm.exec) {pc : Nat} {Ls : Array Slot} {z : Int32} {rest : List Value} (hret : meth.sig.returnType = some .int) (hd : decode c.code pc = .ok (.ireturn, 1)) {fs : List Frame}
    (hl : ∀ (f : JFrame) (acts : List Action), f.method = m → f.locked = none → f.entered = [] → (doReturn e (T.setTop f) acts (some (.int z))).1 = T.setFrames fs) : Steps p.tables e below (T.setTop (mkF m pc Ls (.int z :: rest))) (T.setFrames fs) := by
  have hm' : T.vm.method? m = some meth := X.method'
  have hn : narrow .int (.int z) = .int z := rfl
  show Steps p.tables e below (T.setTop { method := m, pc := pc, locals := Ls, stack := _ :: rest, locked := none }) _
  jvm_step X.here [X.here.top, hx, hd, hm', hret, hn]
  first | (intro acts; rw [hl _ acts rfl rfl rfl]) | rw [hl _ _ rfl rfl rfl]
  exact Steps.refl _
end New
end Jvm.RoadKit
/- laws to paste: Road.backV, Road.chN, Road.codOf (cut by pick.py; bodies as the Statement names them) -/
namespace Jvm.Pilot.@@N@@
namespace StrChars
open Jvm Sem ClassFile Op Lib Jvm.Stand Jvm.Free.XT Jvm.Free.ALB Jvm.Free.JM Jvm.Free
open Jvm.Lib.Cold (StaticIs)
/-- a char array whose places are chars -/
def Ch (a : Addr) (A : Cell) (U : State) : Prop := Arr .char a A U ∧ Typed .char A
theorem Ch.mv {a : Addr} {A : Cell} {U U' : State} (h : Ch a A U) (hal : U.vm.Alike U'.vm) (hh : U'.heap = U.heap) : Ch a A U' := ⟨h.1.mv hal hh, h.2⟩
theorem Ch.keep {a : Addr} {A : Cell} {U U' : State} (h : Ch a A U) (hal : U.vm.Alike U'.vm) (hk : U'.heap[a]? = some A) : Ch a A U' := ⟨h.1.keep hal hk, h.2⟩
/-- what place i of a char[]'s cell holds -/
def cv (A : Cell) (i : Nat) : Int32 := match A.slots[i]? with | some (.int x) => x | _ => 0
theorem Ch.get {a : Addr} {A : Cell} {U : State} (h : Ch a A U) {i : Nat} (hi : i < A.slots.size) : A.slots[i]? = some (.int (cv A i)) := by
  have e := Array.getElem?_eq_getElem hi
  have f := h.2 i _ e
  unfold cv; rw [e]
  generalize A.slots[i] = v at f
  cases v <;> simp [fits] at f ⊢
/-- the byte that i2b leaves of a char -/
def lo8 (x : Int32) : Int32 := x.toInt8.toInt32
theorem fits_lo8 (y : Int32) : fits .byte (.int (lo8 y)) = true := by
  have h1 := y.toInt8.le_toInt
  have h2 := y.toInt8.toInt_lt
  simp only [lo8, fits, Bool.and_eq_true, decide_eq_true_eq, Int32.le_iff_toInt_le, Int8.toInt_toInt32, show (-128 : Int32).toInt = -128 from by decide, show (127 : Int32).toInt = 127 from by decide]
  omega
/-- A' is A but that each place j of lo .. hi - 1 holds f j -/
def Laid (A A' : Cell) (lo hi : Nat) (f : Nat → Value) : Prop := A'.cls = A.cls ∧ A'.vm = A.vm ∧ A'.slots.size = A.slots.size ∧ ∀ i, A'.slots[i]? = if lo ≤ i ∧ i < hi then some (f i) else A.slots[i]?
theorem Laid.zero (A : Cell) (lo : Nat) (f : Nat → Value) : Laid A A lo (lo + 0) f := ⟨rfl, rfl, rfl, fun i => by rw [if_neg (by omega)]⟩
theorem Laid.step {A Ak : Cell} {lo k : Nat} {f : Nat → Value} {v : Value} (h : Laid A Ak lo k f) (hlo : lo ≤ k) (hk : k < Ak.slots.size) (hv : v = f k) : Laid A (Ak.setSlot k v) lo (k + 1) f := by
  refine ⟨h.1, h.2.1, by simpa [Cell.setSlot] using h.2.2.1, fun i => ?_⟩
  by_cases e : k = i
  · subst e; rw [Cell.slots_setSlot_self v hk, if_pos (by omega), hv]
  · rw [Cell.slots_setSlot_ne v e, h.2.2.2 i]
    by_cases q : lo ≤ i ∧ i < k
    · rw [if_pos q, if_pos (by omega)]
    · rw [if_neg q, if_neg (by omega)]
def U16 : String := "java/lang/StringUTF16"
namespace Cmp5
def yN : MethodName := ⟨"java/lang/StringUTF16", "compress", "([CI[BII)I"⟩
abbrev yB : ByteArray := jdk_52_method_21_code
theorem d0 : decode yB 0 = .ok (.iconst 0, 1) := by decide +kernel
theorem d1 : decode yB 1 = .ok (.istore 5, 2) := by decide +kernel
theorem d3 : decode yB 3 = .ok (.iload 5, 2) := by decide +kernel
theorem d5 : decode yB 5 = .ok (.iload 4, 2) := by decide +kernel
theorem d7 : decode yB 7 = .ok (.if_icmp (.ge) 37, 3) := by decide +kernel
theorem d10 : decode yB 10 = .ok (.aload_n 0, 1) := by decide +kernel
theorem d11 : decode yB 11 = .ok (.iload_n 1, 1) := by decide +kernel
theorem d12 : decode yB 12 = .ok (.caload, 1) := by decide +kernel
theorem d13 : decode yB 13 = .ok (.istore 6, 2) := by decide +kernel
theorem d15 : decode yB 15 = .ok (.iload 6, 2) := by decide +kernel
theorem d17 : decode yB 17 = .ok (.sipush 255, 3) := by decide +kernel
theorem d20 : decode yB 20 = .ok (.if_icmp (.le) 6, 3) := by decide +kernel
theorem d26 : decode yB 26 = .ok (.aload_n 2, 1) := by decide +kernel
theorem d27 : decode yB 27 = .ok (.iload_n 3, 1) := by decide +kernel
theorem d28 : decode yB 28 = .ok (.iload 6, 2) := by decide +kernel
theorem d30 : decode yB 30 = .ok (.i2b, 1) := by decide +kernel
theorem d31 : decode yB 31 = .ok (.bastore, 1) := by decide +kernel
theorem d32 : decode yB 32 = .ok (.iinc 1 1, 3) := by decide +kernel
theorem d35 : decode yB 35 = .ok (.iinc 3 1, 3) := by decide +kernel
theorem d38 : decode yB 38 = .ok (.iinc 5 1, 3) := by decide +kernel
theorem d41 : decode yB 41 = .ok (.goto (-38), 3) := by decide +kernel
theorem d44 : decode yB 44 = .ok (.iload 4, 2) := by decide +kernel
theorem d46 : decode yB 46 = .ok (.ireturn, 1) := by decide +kernel
def site : List Cond := []
def tab : Cond := tabOf yN yB 7 (some .int) site
def P (b : Addr) (A : Cell) (d : Addr) (B : Cell) (o q len : Nat) (args : Array Value) (s : State) : Prop := args = #[.ref b, .int (Int32.ofNat o), .ref d, .int (Int32.ofNat q), .int (Int32.ofNat len)] ∧ Ch b A s ∧ Arr .byte d B s ∧ b ≠ d ∧ o + len ≤ A.slots.size ∧ q + len ≤ B.slots.size ∧ ∀ i, i < len → ¬ 255 < cv A (o + i)
def E (b : Addr) (A : Cell) (d : Addr) (B : Cell) (o q len : Nat) (r : Option Value) (s u : State) : Prop := r = some (.int (Int32.ofNat len)) ∧ ∃ B', Put d B' s u ∧ Laid B B' q (q + len) (fun j => Value.int (lo8 (cv A (o + (j - q)))))
/-- no char of the range above 255: len; the places written hold each char's low byte -/
theorem law (l : Launch) (b : Addr) (A : Cell) (d : Addr) (B : Cell) (o q len : Nat) : Law l yN 5 5 0 0 yB 7 (some .int) site (P b A d B o q len) (E b A d B o q len) (copyLocs d q len) 0 0 := by
  refine Law.of_walk (plainFor_of_name (by decide +kernel)) (by decide +kernel) (by decide +kernel) (by decide) (fun _ _ h => by rw [h.1]; rfl) (fun _ U U' hal hh h => ⟨h.1, h.2.1.mv hal hh, h.2.2.1.mv hal hh, h.2.2.2⟩) (fun r U U' V V' h1 hal h2 h => ⟨h.1, h.2.elim fun B' q => ⟨B', q.1.mv h1 h2, q.2⟩⟩) ?_
  intro p e s m args below meth c s₁ X0 hexec hbytes hml hret hlk hnm hown hh0 W hP
  obtain ⟨rfl, hA, hB, hne, l1, l2, hp⟩ := hP
  have c1 : Steps p.tables e below (s₁.setTop (entryFrame m #[.ref b, .int (Int32.ofNat o), .ref d, .int (Int32.ofNat q), .int (Int32.ofNat len)] 7)) (s₁.setTop (mkF m 0 #[.val (.ref b), .val (.int (Int32.ofNat o)), .val (.ref d), .val (.int (Int32.ofNat q)), .val (.int (Int32.ofNat len)), .unset, .unset] [])) := entry rfl
  have hA0 := hA.1.mv X0.warmed.alike hh0
  have hB0 := hB.mv X0.warmed.alike hh0
  have a31 := hA.1.2.2.2
  have c2 : Steps p.tables e below (s₁.setTop (entryFrame m #[.ref b, .int (Int32.ofNat o), .ref d, .int (Int32.ofNat q), .int (Int32.ofNat len)] 7)) (s₁.setTop (mkF m 3 #[.val (.ref b), .val (.int (Int32.ofNat o)), .val (.ref d), .val (.int (Int32.ofNat q)), .val (.int (Int32.ofNat len)), .val (.int 0), .unset] [])) := c1.trans (by
    refine iconstV X0.here hexec rfl 0 (hb hbytes d0) (by decide) ?_
    refine XS.istore X0.here hexec rfl (hb hbytes d1) rfl rfl ?_
    exact Steps.refl _)
  have loop : ∀ (r i : Nat), i + r = len → ∀ (z : Slot), (z = .unset ∨ ∃ w, z = .val w ∧ w.category = 1) → ∀ (Tl : State) (Bk : Cell), Stand p l e { frames := 0, locals := 0, cells := 0, slots := 0 } s m #[.ref b, .int (Int32.ofNat o), .ref d, .int (Int32.ofNat q), .int (Int32.ofNat len)] below meth c Tl ([] ++ copyLocs d q i) 0 0 → Put d Bk s₁ Tl → Laid B Bk q (q + i) (fun j => Value.int (lo8 (cv A (o + (j - q))))) →
      Steps p.tables e below (s₁.setTop (entryFrame m #[.ref b, .int (Int32.ofNat o), .ref d, .int (Int32.ofNat q), .int (Int32.ofNat len)] 7)) (Tl.setTop (mkF m 3 #[.val (.ref b), .val (.int (Int32.ofNat (o + i))), .val (.ref d), .val (.int (Int32.ofNat (q + i))), .val (.int (Int32.ofNat len)), .val (.int (Int32.ofNat i)), z] [])) → ∃ (T' : State) (B' : Cell) (z' : Slot), Stand p l e { frames := 0, locals := 0, cells := 0, slots := 0 } s m #[.ref b, .int (Int32.ofNat o), .ref d, .int (Int32.ofNat q), .int (Int32.ofNat len)] below meth c T' ([] ++ copyLocs d q len) 0 0 ∧ Put d B' s₁ T' ∧ Laid B B' q (q + len) (fun j => Value.int (lo8 (cv A (o + (j - q))))) ∧
      Steps p.tables e below (s₁.setTop (entryFrame m #[.ref b, .int (Int32.ofNat o), .ref d, .int (Int32.ofNat q), .int (Int32.ofNat len)] 7)) (T'.setTop (mkF m 3 #[.val (.ref b), .val (.int (Int32.ofNat (o + len))), .val (.ref d), .val (.int (Int32.ofNat (q + len))), .val (.int (Int32.ofNat len)), .val (.int (Int32.ofNat len)), z'] [])) := by
    intro r
    induction r with
    | zero =>
      intro i hi z hz Tl Bk Xl pl fl cl
      have hil : i = len := by omega
      rw [hil] at Xl fl cl
      exact ⟨Tl, Bk, z, Xl, pl, fl, cl⟩
    | succ r ih =>
      intro i hi z hz Tl Bk Xl pl fl cl
      have all := X0.warmed.alike.symm.trans Xl.warmed.alike
      have hAl := hA0.keep all (pl.other hne hA0.1)
      have hBk := hB0.like all pl.1 fl.1 fl.2.1 fl.2.2.1
      have hlt : q + i < Bk.slots.size := by rw [fl.2.2.1]; omega
      have c3 : Steps p.tables e below (s₁.setTop (entryFrame m #[.ref b, .int (Int32.ofNat o), .ref d, .int (Int32.ofNat q), .int (Int32.ofNat len)] 7)) (Tl.setTop (mkF m 12 #[.val (.ref b), .val (.int (Int32.ofNat (o + i))), .val (.ref d), .val (.int (Int32.ofNat (q + i))), .val (.int (Int32.ofNat len)), .val (.int (Int32.ofNat i)), z] [.int (Int32.ofNat (o + i)), .ref b])) := cl.trans (by
        refine XS.iload Xl.here hexec rfl (hb hbytes d3) rfl ?_
        refine XS.iload Xl.here hexec rfl (hb hbytes d5) rfl ?_
        refine XS.icmpNo Xl.here hexec rfl (hb hbytes d7) rfl (ii_ge_f (lt32 (by omega) (by omega))) ?_
        refine XS.aloadN Xl.here hexec rfl (hb hbytes d10) rfl rfl ?_
        refine XS.iloadN Xl.here hexec rfl (hb hbytes d11) rfl ?_
        exact Steps.refl _)
      have c4 : Steps p.tables e below (s₁.setTop (entryFrame m #[.ref b, .int (Int32.ofNat o), .ref d, .int (Int32.ofNat q), .int (Int32.ofNat len)] 7)) (Tl.setTop (mkF m 13 #[.val (.ref b), .val (.int (Int32.ofNat (o + i))), .val (.ref d), .val (.int (Int32.ofNat (q + i))), .val (.int (Int32.ofNat len)), .val (.int (Int32.ofNat i)), z] [.int (cv A (o + i))])) := c3.trans (by
        refine Xl.aget hexec hAl rfl (hA.get (i := o + i) (by omega)) rfl rfl (hb hbytes d12) ?_
        exact Steps.refl _)
      have c5 : Steps p.tables e below (s₁.setTop (entryFrame m #[.ref b, .int (Int32.ofNat o), .ref d, .int (Int32.ofNat q), .int (Int32.ofNat len)] 7)) (Tl.setTop (mkF m 15 #[.val (.ref b), .val (.int (Int32.ofNat (o + i))), .val (.ref d), .val (.int (Int32.ofNat (q + i))), .val (.int (Int32.ofNat len)), .val (.int (Int32.ofNat i)), .val (.int (cv A (o + i)))] [])) := c4.trans (by
        refine XS.istoreS Xl.here hexec rfl (hb hbytes d13) rfl rfl hz ?_
        exact Steps.refl _)
      have c6 : Steps p.tables e below (s₁.setTop (entryFrame m #[.ref b, .int (Int32.ofNat o), .ref d, .int (Int32.ofNat q), .int (Int32.ofNat len)] 7)) (Tl.setTop (mkF m 31 #[.val (.ref b), .val (.int (Int32.ofNat (o + i))), .val (.ref d), .val (.int (Int32.ofNat (q + i))), .val (.int (Int32.ofNat len)), .val (.int (Int32.ofNat i)), .val (.int (cv A (o + i)))] [.int (lo8 (cv A (o + i))), .int (Int32.ofNat (q + i)), .ref d])) := c5.trans (by
        refine XS.iload Xl.here hexec rfl (hb hbytes d15) rfl ?_
        refine sipushV Xl.here hexec rfl 255 (hb hbytes d17) (by decide) ?_
        refine XS.icmpYes Xl.here hexec rfl (pc0 := 20) rfl (hb hbytes d20) rfl (ii_le_t (hp i (by omega))) (by decide) rfl ?_
        refine XS.aloadN Xl.here hexec rfl (hb hbytes d26) rfl rfl ?_
        refine XS.iloadN Xl.here hexec rfl (hb hbytes d27) rfl ?_
        refine XS.iload Xl.here hexec rfl (hb hbytes d28) rfl ?_
        refine i2b Xl.here hexec rfl (hb hbytes d30) rfl ?_
        exact Steps.refl _)
      obtain ⟨T7, X7, p7, st7⟩ := Xl.aput hexec hBk rfl hlt rfl (fits_lo8 (cv A (o + i))) (g := (mkF m 31 #[.val (.ref b), .val (.int (Int32.ofNat (o + i))), .val (.ref d), .val (.int (Int32.ofNat (q + i))), .val (.int (Int32.ofNat len)), .val (.int (Int32.ofNat i)), .val (.int (cv A (o + i)))] [.int (lo8 (cv A (o + i))), .int (Int32.ofNat (q + i)), .ref d])) rfl (rest := []) rfl (hb hbytes d31)
      have c8 : Steps p.tables e below (s₁.setTop (entryFrame m #[.ref b, .int (Int32.ofNat o), .ref d, .int (Int32.ofNat q), .int (Int32.ofNat len)] 7)) (T7.setTop (mkF m 32 #[.val (.ref b), .val (.int (Int32.ofNat (o + i))), .val (.ref d), .val (.int (Int32.ofNat (q + i))), .val (.int (Int32.ofNat len)), .val (.int (Int32.ofNat i)), .val (.int (cv A (o + i)))] [])) := c6.trans (st7 _ (Steps.refl _))
      have c9 : Steps p.tables e below (s₁.setTop (entryFrame m #[.ref b, .int (Int32.ofNat o), .ref d, .int (Int32.ofNat q), .int (Int32.ofNat len)] 7)) (T7.setTop (mkF m 3 #[.val (.ref b), .val (.int (Int32.ofNat (o + i) + 1)), .val (.ref d), .val (.int (Int32.ofNat (q + i) + 1)), .val (.int (Int32.ofNat len)), .val (.int (Int32.ofNat i + 1)), .val (.int (cv A (o + i)))] [])) := c8.trans (by
        refine iincV X7.here hexec rfl 1 (hb hbytes d32) (by decide) rfl rfl ?_
        refine iincV X7.here hexec rfl 1 (hb hbytes d35) (by decide) rfl rfl ?_
        refine iincV X7.here hexec rfl 1 (hb hbytes d38) (by decide) rfl rfl ?_
        refine XS.goto X7.here hexec rfl (pc0 := 41) rfl (hb hbytes d41) (by decide) rfl ?_
        exact Steps.refl _)
      have c10 : Steps p.tables e below (s₁.setTop (entryFrame m #[.ref b, .int (Int32.ofNat o), .ref d, .int (Int32.ofNat q), .int (Int32.ofNat len)] 7)) (T7.setTop (mkF m 3 #[.val (.ref b), .val (.int (Int32.ofNat (o + (i + 1)))), .val (.ref d), .val (.int (Int32.ofNat (q + (i + 1)))), .val (.int (Int32.ofNat len)), .val (.int (Int32.ofNat (i + 1))), .val (.int (cv A (o + i)))] [])) := by
        have := c9
        rw [succ32, succ32, succ32] at this
        exact this
      exact ih (i + 1) (by omega) _ (Or.inr ⟨_, rfl, rfl⟩) T7 _ (by rw [copyLocs_step, ← List.append_assoc]; exact X7) (pl.trans p7) (fl.step (by omega) hlt (by simp)) c10
  obtain ⟨T9, B9, z9, X9, p9, f9, g9⟩ := loop len 0 (by omega) .unset (Or.inl rfl) s₁ B (by simpa [copyLocs] using X0) ⟨hB0.1, fun _ _ => rfl, rfl⟩ (Laid.zero _ _ _) c2
  have c11 : Steps p.tables e below (s₁.setTop (entryFrame m #[.ref b, .int (Int32.ofNat o), .ref d, .int (Int32.ofNat q), .int (Int32.ofNat len)] 7)) (T9.setTop (mkF m 46 #[.val (.ref b), .val (.int (Int32.ofNat (o + len))), .val (.ref d), .val (.int (Int32.ofNat (q + len))), .val (.int (Int32.ofNat len)), .val (.int (Int32.ofNat len)), z9] [.int (Int32.ofNat len)])) := g9.trans (by
    refine XS.iload X9.here hexec rfl (hb hbytes d3) rfl ?_
    refine XS.iload X9.here hexec rfl (hb hbytes d5) rfl ?_
    refine XS.icmpYes X9.here hexec rfl (pc0 := 7) rfl (hb hbytes d7) rfl (ii_ge_t (nlt32 (by omega) (Nat.le_refl _))) (by decide) rfl ?_
    refine XS.iload X9.here hexec rfl (hb hbytes d44) rfl ?_
    exact Steps.refl _)
  exact ⟨T9, some (.int (Int32.ofNat len)), _, _, _, X9, by simp, rfl, rfl, (fun h => by cases h), ⟨rfl, B9, p9.from hh0, f9⟩, fun fs hl => c11.trans (X9.ireturnOut hexec hret rfl (Or.inl rfl) (hb hbytes d46) hl)⟩
end Cmp5
namespace Cmp3
def yN : MethodName := ⟨"java/lang/StringUTF16", "compress", "([CII)[B"⟩
abbrev yB : ByteArray := jdk_52_method_16_code
theorem d0 : decode yB 0 = .ok (.iload_n 2, 1) := by decide +kernel
theorem d1 : decode yB 1 = .ok (.newarray .byte, 2) := by decide +kernel
theorem d3 : decode yB 3 = .ok (.astore_n 3, 1) := by decide +kernel
theorem d4 : decode yB 4 = .ok (.aload_n 0, 1) := by decide +kernel
theorem d5 : decode yB 5 = .ok (.iload_n 1, 1) := by decide +kernel
theorem d6 : decode yB 6 = .ok (.aload_n 3, 1) := by decide +kernel
theorem d7 : decode yB 7 = .ok (.iconst 0, 1) := by decide +kernel
theorem d8 : decode yB 8 = .ok (.iload_n 2, 1) := by decide +kernel
theorem d9 : decode yB 9 = .ok (.invokestatic 115, 3) := by decide +kernel
theorem d12 : decode yB 12 = .ok (.istore 4, 2) := by decide +kernel
theorem d14 : decode yB 14 = .ok (.iload 4, 2) := by decide +kernel
theorem d16 : decode yB 16 = .ok (.iload_n 2, 1) := by decide +kernel
theorem d17 : decode yB 17 = .ok (.if_icmp (.eq) 40, 3) := by decide +kernel
theorem d57 : decode yB 57 = .ok (.aload_n 3, 1) := by decide +kernel
theorem d58 : decode yB 58 = .ok (.areturn, 1) := by decide +kernel
def site : List Cond := [.arrayClass .byte, Cmp5.tab] ++ staticW U16 115 Cmp5.yN
def tab : Cond := tabOf yN yB 6 (some (.array .byte)) site
def P (b : Addr) (A : Cell) (o len : Nat) (args : Array Value) (s : State) : Prop := args = #[.ref b, .int (Int32.ofNat o), .int (Int32.ofNat len)] ∧ Ch b A s ∧ o + len ≤ A.slots.size ∧ len ≤ 536870912 ∧ ∀ i, i < len → ¬ 255 < cv A (o + i)
def E (b : Addr) (A : Cell) (o len : Nat) (r : Option Value) (s u : State) : Prop := NewArr .byte "[B" len (fun j => .int (lo8 (cv A (o + j)))) r s u ∧ u.heap.size = s.heap.size + 1
/-- no char of the range above 255: a new byte[] of their low bytes -/
theorem law (l : Launch) (b : Addr) (A : Cell) (o len : Nat) : Law l yN 3 3 1 18 yB 6 (some (.array .byte)) site (P b A o len) (E b A o len) [] 1 len := by
  refine Law.of_walk (plainFor_of_name (by decide +kernel)) (by decide +kernel) (by decide +kernel) (by decide) (fun _ _ h => by rw [h.1]; rfl) (fun _ U U' hal hh h => ⟨h.1, h.2.1.mv hal hh, h.2.2⟩) (fun r U U' V V' h1 hal h2 h => ⟨NewArr.mv r U U' V V' h1 hal h2 h.1, by rw [h1, h2]; exact h.2⟩) ?_
  intro p e s m args below meth c s₁ X0 hexec hbytes hml hret hlk hnm hown hh0 W hP
  obtain ⟨rfl, hA, l1, l2, hp⟩ := hP
  have a31 := hA.1.2.2.2
  have c1 : Steps p.tables e below (s₁.setTop (entryFrame m #[.ref b, .int (Int32.ofNat o), .int (Int32.ofNat len)] 6)) (s₁.setTop (mkF m 0 #[.val (.ref b), .val (.int (Int32.ofNat o)), .val (.int (Int32.ofNat len)), .unset, .unset, .unset] [])) := entry rfl
  have c2 : Steps p.tables e below (s₁.setTop (entryFrame m #[.ref b, .int (Int32.ofNat o), .int (Int32.ofNat len)] 6)) (s₁.setTop (mkF m 1 #[.val (.ref b), .val (.int (Int32.ofNat o)), .val (.int (Int32.ofNat len)), .unset, .unset, .unset] [.int (Int32.ofNat len)])) := c1.trans (by
    refine XS.iloadN X0.here hexec rfl (hb hbytes d0) rfl ?_
    exact Steps.refl _)
  obtain ⟨T3, B3, X3, ba3, bs3, bv3, bh3, bf3, st3⟩ := X0.anew hexec (atype := .byte) (wk W (.arrayClass .byte)) rfl (by show len * 1 ≤ _; omega) (by omega) (g := (mkF m 1 #[.val (.ref b), .val (.int (Int32.ofNat o)), .val (.int (Int32.ofNat len)), .unset, .unset, .unset] [.int (Int32.ofNat len)])) rfl (hb hbytes d1) (rest := []) rfl (Nat.le_refl _) (by show 0 + len ≤ len; omega)
  rw [hh0] at ba3 st3
  have kp3 : XT.Kept s T3 := (XT.Kept.of_eq hh0).push bh3
  have hA3 := hA.keep X3.warmed.alike (kp3 _ _ hA.1.1)
  have hne : b ≠ s.heap.size := hA.1.ne
  have c4 : Steps p.tables e below (s₁.setTop (entryFrame m #[.ref b, .int (Int32.ofNat o), .int (Int32.ofNat len)] 6)) (T3.setTop (mkF m 3 #[.val (.ref b), .val (.int (Int32.ofNat o)), .val (.int (Int32.ofNat len)), .unset, .unset, .unset] [.ref s.heap.size])) := c2.trans (st3 _ (Steps.refl _))
  have c5 : Steps p.tables e below (s₁.setTop (entryFrame m #[.ref b, .int (Int32.ofNat o), .int (Int32.ofNat len)] 6)) (T3.setTop (mkF m 9 #[.val (.ref b), .val (.int (Int32.ofNat o)), .val (.int (Int32.ofNat len)), .val (.ref s.heap.size), .unset, .unset] [.int (Int32.ofNat len), .int 0, .ref s.heap.size, .int (Int32.ofNat o), .ref b])) := c4.trans (by
    refine XS.astoreN X3.here hexec rfl (hb hbytes d3) rfl rfl rfl ?_
    refine XS.aloadN X3.here hexec rfl (hb hbytes d4) rfl rfl ?_
    refine XS.iloadN X3.here hexec rfl (hb hbytes d5) rfl ?_
    refine XS.aloadN X3.here hexec rfl (hb hbytes d6) rfl rfl ?_
    refine iconstV X3.here hexec rfl 0 (hb hbytes d7) (by decide) ?_
    refine XS.iloadN X3.here hexec rfl (hb hbytes d8) rfl ?_
    exact Steps.refl _)
  obtain ⟨v6, T6, X6, E6, g6⟩ := X3.callS hexec (Cmp5.law l b A s.heap.size B3 o 0 len) hown (wks W (staticW U16 115 Cmp5.yN)) (wk W Cmp5.tab) (W := 0) (Nat.le_of_ble_eq_true rfl) (Nat.le_of_ble_eq_true rfl) (Nat.le_refl _) (by show 0 + len + 0 ≤ len; omega) (g := (mkF m 9 #[.val (.ref b), .val (.int (Int32.ofNat o)), .val (.int (Int32.ofNat len)), .val (.ref s.heap.size), .unset, .unset] [.int (Int32.ofNat len), .int (Int32.ofNat 0), .ref s.heap.size, .int (Int32.ofNat o), .ref b])) rfl (by rw [hml]; rfl) c5 (argsL := [.ref b, .int (Int32.ofNat o), .ref s.heap.size, .int (Int32.ofNat 0), .int (Int32.ofNat len)]) (rest := []) rfl rfl (by show 2 * 0 + 0 ≤ _; decide) (hb hbytes d9) (⟨rfl, hA3, ba3, hne, l1, by rw [bs3]; simp, hp⟩)
  obtain ⟨rfl, B6, p6, f6⟩ := E6
  have c7 : Steps p.tables e below (s₁.setTop (entryFrame m #[.ref b, .int (Int32.ofNat o), .int (Int32.ofNat len)] 6)) (T6.setTop (mkF m 12 #[.val (.ref b), .val (.int (Int32.ofNat o)), .val (.int (Int32.ofNat len)), .val (.ref s.heap.size), .unset, .unset] [.int (Int32.ofNat len)])) := g6
  have c8 : Steps p.tables e below (s₁.setTop (entryFrame m #[.ref b, .int (Int32.ofNat o), .int (Int32.ofNat len)] 6)) (T6.setTop (mkF m 58 #[.val (.ref b), .val (.int (Int32.ofNat o)), .val (.int (Int32.ofNat len)), .val (.ref s.heap.size), .val (.int (Int32.ofNat len)), .unset] [.ref s.heap.size])) := c7.trans (by
    refine XS.istore X6.here hexec rfl (hb hbytes d12) rfl rfl ?_
    refine XS.iload X6.here hexec rfl (hb hbytes d14) rfl ?_
    refine XS.iloadN X6.here hexec rfl (hb hbytes d16) rfl ?_
    refine XS.icmpYes X6.here hexec rfl (pc0 := 17) rfl (hb hbytes d17) rfl (ii_eq_t rfl) (by decide) rfl ?_
    refine XS.aloadN X6.here hexec rfl (hb hbytes d57) rfl rfl ?_
    exact Steps.refl _)
  have X8 := X6.wide (L' := []) (cells' := 1) (slots' := len) (fun x hx hlt => by
    simp only [List.nil_append, copyLocs, List.mem_map, List.mem_range] at hx
    obtain ⟨i, -, rfl⟩ := hx
    exact absurd hlt (Nat.lt_irrefl _)) (Nat.le_refl _) (by omega)
  exact ⟨T6, some (.ref s.heap.size), _, _, _, X8, rfl, rfl, rfl, (fun h => by cases h), ⟨⟨rfl, B6, ba3.like (X3.warmed.alike.symm.trans X6.warmed.alike) p6.1 f6.1 f6.2.1 f6.2.2.1, f6.2.1.trans bv3, by rw [X6.warmed.alike.findClass, f6.1]; exact bf3, by rw [f6.2.2.1, bs3]; simp, fun j hj => by rw [f6.2.2.2 j, if_pos (by omega)]; rfl, kp3.put p6 (Nat.le_refl _)⟩, by rw [p6.2.2, bh3, hh0]; simp⟩, fun fs hl => c8.trans (X8.areturnOut hexec rfl hret rfl (hb hbytes d58) hl)⟩
end Cmp3
namespace CodL
def yN : MethodName := ⟨"java/lang/StringUTF16", "coderFromArrayLen", "([BI)B"⟩
abbrev yB : ByteArray := jdk_52_method_15_code
theorem d0 : decode yB 0 = .ok (.iload_n 1, 1) := by decide +kernel
theorem d1 : decode yB 1 = .ok (.aload_n 0, 1) := by decide +kernel
theorem d2 : decode yB 2 = .ok (.arraylength, 1) := by decide +kernel
theorem d3 : decode yB 3 = .ok (.isub, 1) := by decide +kernel
theorem d4 : decode yB 4 = .ok (.bipush 31, 2) := by decide +kernel
theorem d6 : decode yB 6 = .ok (.iushr, 1) := by decide +kernel
theorem d7 : decode yB 7 = .ok (.i2b, 1) := by decide +kernel
theorem d8 : decode yB 8 = .ok (.ireturn, 1) := by decide +kernel
def site : List Cond := []
def tab : Cond := tabOf yN yB 2 (some .byte) site
def P (d : Addr) (B : Cell) (args : Array Value) (s : State) : Prop := args = #[.ref d, .int (Int32.ofNat B.slots.size)] ∧ Arr .byte d B s
def E (r : Option Value) (s u : State) : Prop := XT.PureE (some (.int 0)) r s u
/-- an array as long as the number of chars: LATIN1 -/
theorem law (l : Launch) (d : Addr) (B : Cell) : Law l yN 2 2 0 0 yB 2 (some .byte) site (P d B) E [] 0 0 := by
  refine Law.of_walk (plainFor_of_name (by decide +kernel)) (by decide +kernel) (by decide +kernel) (by decide) (fun _ _ h => by rw [h.1]; rfl) (fun _ U U' hal hh h => ⟨h.1, h.2.mv hal hh⟩) (fun r U U' V V' h1 hal h2 h => XT.PureE.mv r U U' V V' h1 hal h2 h) ?_
  intro p e s m args below meth c s₁ X0 hexec hbytes hml hret hlk hnm hown hh0 W hP
  obtain ⟨rfl, hB⟩ := hP
  have hB0 := hB.mv X0.warmed.alike hh0
  have c1 : Steps p.tables e below (s₁.setTop (entryFrame m #[.ref d, .int (Int32.ofNat B.slots.size)] 2)) (s₁.setTop (mkF m 0 #[.val (.ref d), .val (.int (Int32.ofNat B.slots.size))] [])) := entry rfl
  have c2 : Steps p.tables e below (s₁.setTop (entryFrame m #[.ref d, .int (Int32.ofNat B.slots.size)] 2)) (s₁.setTop (mkF m 2 #[.val (.ref d), .val (.int (Int32.ofNat B.slots.size))] [.ref d, .int (Int32.ofNat B.slots.size)])) := c1.trans (by
    refine XS.iloadN X0.here hexec rfl (hb hbytes d0) rfl ?_
    refine XS.aloadN X0.here hexec rfl (hb hbytes d1) rfl rfl ?_
    exact Steps.refl _)
  have c3 : Steps p.tables e below (s₁.setTop (entryFrame m #[.ref d, .int (Int32.ofNat B.slots.size)] 2)) (s₁.setTop (mkF m 8 #[.val (.ref d), .val (.int (Int32.ofNat B.slots.size))] [.int (lo8 (ushr (Int32.ofNat B.slots.size - Int32.ofNat B.slots.size) 31))])) := c2.trans (by
    refine X0.alen hexec hB0 rfl rfl (hb hbytes d2) ?_
    refine XS.isub X0.here hexec rfl (hb hbytes d3) rfl ?_
    refine bipushV X0.here hexec rfl 31 (hb hbytes d4) (by decide) ?_
    refine iushr X0.here hexec rfl (hb hbytes d6) rfl ?_
    refine i2b X0.here hexec rfl (hb hbytes d7) rfl ?_
    exact Steps.refl _)
  have e0 : lo8 (ushr (Int32.ofNat B.slots.size - Int32.ofNat B.slots.size) 31) = 0 := by rw [Int32.sub_self]; decide
  rw [e0] at c3
  exact ⟨s₁, some (.int 0), _, _, _, X0, rfl, rfl, rfl, (fun h => by cases h), ⟨rfl, hh0⟩, fun fs hl => c3.trans (X0.ireturnOut hexec hret rfl (Or.inr (Or.inr (Or.inl rfl))) (hb hbytes d8) hl)⟩
end CodL
/-- the String at a is Latin-1 over a new byte[] (the heap's one new cell): the low bytes of the len chars of A from o on; every cell but a is kept -/
def Got (a : Addr) (D : Cell) (fV fC : Field) (A : Cell) (o len : Nat) (r : Option Value) (s u : State) : Prop := r = none ∧ ∃ D' V : Cell, Blank "java/lang/String" a D' u ∧ Same D D' [fV.slot, fC.slot] ∧ D'.slots[fV.slot]? = some (.ref s.heap.size) ∧ D'.slots[fC.slot]? = some (.int 0) ∧ Arr .byte s.heap.size V u ∧ V.vm = .none ∧ u.vm.findClass "[B" = some V.cls ∧ V.slots.size = len ∧ (∀ j, j < len → V.slots[j]? = some (.int (lo8 (cv A (o + j))))) ∧ (∀ (y : Addr) (c : Cell), y ≠ a → s.heap[y]? = some c → u.heap[y]? = some c) ∧ u.heap.size = s.heap.size + 1
theorem Got.mv {a : Addr} {D A : Cell} {fV fC : Field} {o len : Nat} : ∀ r (U U' V V' : State), U'.heap = U.heap → V.vm.Alike V'.vm → V'.heap = V.heap → Got a D fV fC A o len r U V → Got a D fV fC A o len r U' V' :=
  fun r U U' V V' h1 hal h2 ⟨e0, D', X, a1, a2, a3, a4, a5, a6, a7, a8, a9, a10, a11⟩ => ⟨e0, D', X, a1.mv hal h2, a2, by rw [h1]; exact a3, a4, by rw [h1]; exact a5.mv hal h2, a6, by rw [hal.findClass]; exact a7, a8, a9, by rw [h1, h2]; exact a10, by rw [h1, h2]; exact a11⟩
namespace New4
def yN : MethodName := ⟨"java/lang/String", "<init>", "([CIILjava/lang/Void;)V"⟩
abbrev yB : ByteArray := jdk_42_method_149_code
theorem d0 : decode yB 0 = .ok (.aload_n 0, 1) := by decide +kernel
theorem d1 : decode yB 1 = .ok (.invokespecial 1, 3) := by decide +kernel
theorem d4 : decode yB 4 = .ok (.iload_n 3, 1) := by decide +kernel
theorem d5 : decode yB 5 = .ok (.ifCond (.ne) 22, 3) := by decide +kernel
theorem d27 : decode yB 27 = .ok (.getstatic 38, 3) := by decide +kernel
theorem d30 : decode yB 30 = .ok (.ifCond (.eq) 28, 3) := by decide +kernel
theorem d33 : decode yB 33 = .ok (.aload_n 1, 1) := by decide +kernel
theorem d34 : decode yB 34 = .ok (.iload_n 2, 1) := by decide +kernel
theorem d35 : decode yB 35 = .ok (.iload_n 3, 1) := by decide +kernel
theorem d36 : decode yB 36 = .ok (.invokestatic 177, 3) := by decide +kernel
theorem d39 : decode yB 39 = .ok (.astore 5, 2) := by decide +kernel
theorem d41 : decode yB 41 = .ok (.aload_n 0, 1) := by decide +kernel
theorem d42 : decode yB 42 = .ok (.aload 5, 2) := by decide +kernel
theorem d44 : decode yB 44 = .ok (.iload_n 3, 1) := by decide +kernel
theorem d45 : decode yB 45 = .ok (.invokestatic 47, 3) := by decide +kernel
theorem d48 : decode yB 48 = .ok (.putfield 15, 3) := by decide +kernel
theorem d51 : decode yB 51 = .ok (.aload_n 0, 1) := by decide +kernel
theorem d52 : decode yB 52 = .ok (.aload 5, 2) := by decide +kernel
theorem d54 : decode yB 54 = .ok (.putfield 9, 3) := by decide +kernel
theorem d57 : decode yB 57 = .ok (.return_, 1) := by decide +kernel
def site : List Cond := [.fieldLink "java/lang/String" 38 "java/lang/String" "COMPACT_STRINGS" "Z", Cmp3.tab, CodL.tab, .laysFinal "java/lang/String" "java/lang/String" "value" "[B", .fieldLink "java/lang/String" 9 "java/lang/String" "value" "[B", .laysFinal "java/lang/String" "java/lang/String" "coder" "B", .fieldLink "java/lang/String" 15 "java/lang/String" "coder" "B"] ++ objW "java/lang/String" 1 ++ staticW "java/lang/String" 177 Cmp3.yN ++ staticW "java/lang/String" 47 CodL.yN
def tab : Cond := tabOf yN yB 6 none site
def P (a : Addr) (D : Cell) (fV fC : Field) (b : Addr) (A : Cell) (z : Int32) (o len : Nat) (args : Array Value) (s : State) : Prop := args = #[.ref a, .ref b, .int (Int32.ofNat o), .int (Int32.ofNat len), .null] ∧ Blank "java/lang/String" a D s ∧ Found "java/lang/String" "value" "[B" fV s ∧ Found "java/lang/String" "coder" "B" fC s ∧ Ch b A s ∧ StaticIs s "java/lang/String" "COMPACT_STRINGS" "Z" (.int z) ∧ ¬ z = 0 ∧ 0 < len ∧ o + len ≤ A.slots.size ∧ len ≤ 536870912 ∧ ∀ i, i < len → ¬ 255 < cv A (o + i)
def E (a : Addr) (D : Cell) (fV fC : Field) (A : Cell) (o len : Nat) (r : Option Value) (s u : State) : Prop := Got a D fV fC A o len r s u
/-- len > 0, no char of the range above 255: a Latin-1 String of their low bytes -/
theorem law (l : Launch) (a : Addr) (D : Cell) (fV fC : Field) (b : Addr) (A : Cell) (z : Int32) (o len : Nat) : Law l yN 5 4 2 35 yB 6 none site (P a D fV fC b A z o len) (E a D fV fC A o len) [⟨a, fC.slot⟩, ⟨a, fV.slot⟩] 1 len := by
  refine Law.of_walk (plainFor_of_name (by decide +kernel)) (by decide +kernel) (by decide +kernel) (by decide) (fun _ _ h => by rw [h.1]; rfl) (fun _ U U' hal hh h => ⟨h.1, h.2.1.mv hal hh, h.2.2.1.al hal, h.2.2.2.1.al hal, h.2.2.2.2.1.mv hal hh, h.2.2.2.2.2.1.there hal hh, h.2.2.2.2.2.2⟩) (fun r U U' V V' h1 hal h2 h => Got.mv r U U' V V' h1 hal h2 h) ?_
  intro p e s m args below meth c s₁ X0 hexec hbytes hml hret hlk hnm hown hh0 W hP
  obtain ⟨rfl, hB, f1, f2, hA, s1, hz, l0, l1, l2, hp⟩ := hP
  have a31 := hA.1.2.2.2
  have c1 : Steps p.tables e below (s₁.setTop (entryFrame m #[.ref a, .ref b, .int (Int32.ofNat o), .int (Int32.ofNat len), .null] 6)) (s₁.setTop (mkF m 0 #[.val (.ref a), .val (.ref b), .val (.int (Int32.ofNat o)), .val (.int (Int32.ofNat len)), .val .null, .unset] [])) := entry rfl
  have c2 : Steps p.tables e below (s₁.setTop (entryFrame m #[.ref a, .ref b, .int (Int32.ofNat o), .int (Int32.ofNat len), .null] 6)) (s₁.setTop (mkF m 1 #[.val (.ref a), .val (.ref b), .val (.int (Int32.ofNat o)), .val (.int (Int32.ofNat len)), .val .null, .unset] [.ref a])) := c1.trans (by
    refine XS.aloadN X0.here hexec rfl (hb hbytes d0) rfl rfl ?_
    exact Steps.refl _)
  obtain ⟨T3, X3, q3, st3⟩ := X0.oinit hexec hown (wks W (objW "java/lang/String" 1)) (g := (mkF m 1 #[.val (.ref a), .val (.ref b), .val (.int (Int32.ofNat o)), .val (.int (Int32.ofNat len)), .val .null, .unset] [.ref a])) rfl (by rw [hml]; rfl) (rest := []) rfl (hb hbytes d1) (W := 0) (by show 2 * 0 + 0 ≤ _; decide) (Nat.le_of_ble_eq_true rfl) (Nat.le_of_ble_eq_true rfl)
  have hh3 := q3.trans hh0
  have c4 : Steps p.tables e below (s₁.setTop (entryFrame m #[.ref a, .ref b, .int (Int32.ofNat o), .int (Int32.ofNat len), .null] 6)) (T3.setTop (mkF m 27 #[.val (.ref a), .val (.ref b), .val (.int (Int32.ofNat o)), .val (.int (Int32.ofNat len)), .val .null, .unset] [])) := (c2.trans (st3 _ (Steps.refl _))).trans (by
    refine XS.iloadN X3.here hexec rfl (hb hbytes d4) rfl ?_
    refine XS.ifYes X3.here hexec rfl (pc0 := 5) rfl (hb hbytes d5) rfl (i0_ne_t (nz32 (by omega) l0)) (by decide) rfl ?_
    exact Steps.refl _)
  obtain ⟨T5, X5, q5, st5⟩ := X3.sget hexec hown (wk W (.fieldLink "java/lang/String" 38 "java/lang/String" "COMPACT_STRINGS" "Z")) s1 (fun _ _ h => by rw [hh3]; exact h) (g := (mkF m 27 #[.val (.ref a), .val (.ref b), .val (.int (Int32.ofNat o)), .val (.int (Int32.ofNat len)), .val .null, .unset] [])) rfl (hb hbytes d27)
  have hh5 := q5.trans hh3
  have c6 : Steps p.tables e below (s₁.setTop (entryFrame m #[.ref a, .ref b, .int (Int32.ofNat o), .int (Int32.ofNat len), .null] 6)) (T5.setTop (mkF m 30 #[.val (.ref a), .val (.ref b), .val (.int (Int32.ofNat o)), .val (.int (Int32.ofNat len)), .val .null, .unset] [.int z])) := c4.trans (st5 _ (Steps.refl _))
  have c7 : Steps p.tables e below (s₁.setTop (entryFrame m #[.ref a, .ref b, .int (Int32.ofNat o), .int (Int32.ofNat len), .null] 6)) (T5.setTop (mkF m 36 #[.val (.ref a), .val (.ref b), .val (.int (Int32.ofNat o)), .val (.int (Int32.ofNat len)), .val .null, .unset] [.int (Int32.ofNat len), .int (Int32.ofNat o), .ref b])) := c6.trans (by
    refine XS.ifNo X5.here hexec rfl (hb hbytes d30) rfl (i0_eq_f hz) ?_
    refine XS.aloadN X5.here hexec rfl (hb hbytes d33) rfl rfl ?_
    refine XS.iloadN X5.here hexec rfl (hb hbytes d34) rfl ?_
    refine XS.iloadN X5.here hexec rfl (hb hbytes d35) rfl ?_
    exact Steps.refl _)
  obtain ⟨v8, T8, X8, E8, g8⟩ := X5.callS hexec (Cmp3.law l b A o len) hown (wks W (staticW "java/lang/String" 177 Cmp3.yN)) (wk W Cmp3.tab) (W := 0) (Nat.le_of_ble_eq_true rfl) (Nat.le_of_ble_eq_true rfl) (Nat.le_refl _) (by show 0 + len ≤ len; omega) (g := (mkF m 36 #[.val (.ref a), .val (.ref b), .val (.int (Int32.ofNat o)), .val (.int (Int32.ofNat len)), .val .null, .unset] [.int (Int32.ofNat len), .int (Int32.ofNat o), .ref b])) rfl (by rw [hml]; rfl) c7 (argsL := [.ref b, .int (Int32.ofNat o), .int (Int32.ofNat len)]) (rest := []) rfl rfl (by show 2 * 0 + 0 ≤ _; decide) (hb hbytes d36) (⟨rfl, hA.mv X5.warmed.alike hh5, l1, l2, hp⟩)
  obtain ⟨e8, z8⟩ := E8
  obtain ⟨rfl, N, n1, n2, n3, n4, n5, n6⟩ := NewArr.mv _ T5 s _ _ hh5.symm (Vm.Alike.refl _) rfl e8
  rw [hh5] at z8
  have hB1 := hB.keep X8.warmed.alike (n6 _ _ hB.1)
  have hne : s.heap.size ≠ a := (Nat.ne_of_lt (Array.getElem?_eq_some_iff.mp hB.1).1).symm
  have c9 : Steps p.tables e below (s₁.setTop (entryFrame m #[.ref a, .ref b, .int (Int32.ofNat o), .int (Int32.ofNat len), .null] 6)) (T8.setTop (mkF m 39 #[.val (.ref a), .val (.ref b), .val (.int (Int32.ofNat o)), .val (.int (Int32.ofNat len)), .val .null, .unset] [.ref s.heap.size])) := g8
  have c10 : Steps p.tables e below (s₁.setTop (entryFrame m #[.ref a, .ref b, .int (Int32.ofNat o), .int (Int32.ofNat len), .null] 6)) (T8.setTop (mkF m 45 #[.val (.ref a), .val (.ref b), .val (.int (Int32.ofNat o)), .val (.int (Int32.ofNat len)), .val .null, .val (.ref s.heap.size)] [.int (Int32.ofNat N.slots.size), .ref s.heap.size, .ref a])) := by
    have hc : Steps p.tables e below (s₁.setTop (entryFrame m #[.ref a, .ref b, .int (Int32.ofNat o), .int (Int32.ofNat len), .null] 6)) (T8.setTop (mkF m 45 #[.val (.ref a), .val (.ref b), .val (.int (Int32.ofNat o)), .val (.int (Int32.ofNat len)), .val .null, .val (.ref s.heap.size)] [.int (Int32.ofNat len), .ref s.heap.size, .ref a])) := c9.trans (by
      refine XS.astore X8.here hexec rfl (hb hbytes d39) rfl rfl rfl ?_
      refine XS.aloadN X8.here hexec rfl (hb hbytes d41) rfl rfl ?_
      refine XS.aload X8.here hexec rfl (hb hbytes d42) rfl rfl ?_
      refine XS.iloadN X8.here hexec rfl (hb hbytes d44) rfl ?_
      exact Steps.refl _)
    rw [n4]; exact hc
  obtain ⟨v11, T11, X11, E11, g11⟩ := X8.callS hexec (CodL.law l s.heap.size N) hown (wks W (staticW "java/lang/String" 47 CodL.yN)) (wk W CodL.tab) (W := 1) (Nat.le_of_ble_eq_true rfl) (Nat.le_of_ble_eq_true rfl) (Nat.le_refl _) (by show 0 + len + 0 ≤ len; omega) (g := (mkF m 45 #[.val (.ref a), .val (.ref b), .val (.int (Int32.ofNat o)), .val (.int (Int32.ofNat len)), .val .null, .val (.ref s.heap.size)] [.int (Int32.ofNat N.slots.size), .ref s.heap.size, .ref a])) rfl (by rw [hml]; rfl) c10 (argsL := [.ref s.heap.size, .int (Int32.ofNat N.slots.size)]) (rest := [.ref a]) rfl rfl (by show 2 * 0 + (1 + 0) ≤ _; decide) (hb hbytes d45) (⟨rfl, n1⟩)
  obtain ⟨rfl, q11⟩ := E11
  have hB11 := hB1.mv (X8.warmed.alike.symm.trans X11.warmed.alike) q11
  have c12 : Steps p.tables e below (s₁.setTop (entryFrame m #[.ref a, .ref b, .int (Int32.ofNat o), .int (Int32.ofNat len), .null] 6)) (T11.setTop (mkF m 48 #[.val (.ref a), .val (.ref b), .val (.int (Int32.ofNat o)), .val (.int (Int32.ofNat len)), .val .null, .val (.ref s.heap.size)] [.int 0, .ref a])) := g11
  obtain ⟨T13, X13, p13, bl13, sl13, st13⟩ := X11.finit hexec hown (wk W (.fieldLink "java/lang/String" 15 "java/lang/String" "coder" "B")) (Or.inr ⟨_, (wk W (.laysFinal "java/lang/String" "java/lang/String" "coder" "B"))⟩) (Or.inl ⟨rfl, hnm⟩) f2 (Or.inl rfl) hB11 (t := .byte) (by decide +kernel) rfl (g := (mkF m 48 #[.val (.ref a), .val (.ref b), .val (.int (Int32.ofNat o)), .val (.int (Int32.ofNat len)), .val .null, .val (.ref s.heap.size)] [.int 0, .ref a])) rfl (rest := []) rfl (hb hbytes d48)
  have c14 : Steps p.tables e below (s₁.setTop (entryFrame m #[.ref a, .ref b, .int (Int32.ofNat o), .int (Int32.ofNat len), .null] 6)) (T13.setTop (mkF m 54 #[.val (.ref a), .val (.ref b), .val (.int (Int32.ofNat o)), .val (.int (Int32.ofNat len)), .val .null, .val (.ref s.heap.size)] [.ref s.heap.size, .ref a])) := (c12.trans (st13 _ (Steps.refl _))).trans (by
    refine XS.aloadN X13.here hexec rfl (hb hbytes d51) rfl rfl ?_
    refine XS.aload X13.here hexec rfl (hb hbytes d52) rfl rfl ?_
    exact Steps.refl _)
  obtain ⟨T15, X15, p15, bl15, sl15, st15⟩ := X13.finit hexec hown (wk W (.fieldLink "java/lang/String" 9 "java/lang/String" "value" "[B")) (Or.inr ⟨_, (wk W (.laysFinal "java/lang/String" "java/lang/String" "value" "[B"))⟩) (Or.inl ⟨rfl, hnm⟩) f1 (Or.inl rfl) bl13 (t := (.array .byte)) (by decide +kernel) rfl (g := (mkF m 54 #[.val (.ref a), .val (.ref b), .val (.int (Int32.ofNat o)), .val (.int (Int32.ofNat len)), .val .null, .val (.ref s.heap.size)] [.ref s.heap.size, .ref a])) rfl (rest := []) rfl (hb hbytes d54)
  have c16 : Steps p.tables e below (s₁.setTop (entryFrame m #[.ref a, .ref b, .int (Int32.ofNat o), .int (Int32.ofNat len), .null] 6)) (T15.setTop (mkF m 57 #[.val (.ref a), .val (.ref b), .val (.int (Int32.ofNat o)), .val (.int (Int32.ofNat len)), .val .null, .val (.ref s.heap.size)] [])) := c14.trans (st15 _ (Steps.refl _))
  have ap := apart (Or.inr ⟨_, (wk W (.laysFinal "java/lang/String" "java/lang/String" "value" "[B"))⟩) (Or.inr ⟨_, (wk W (.laysFinal "java/lang/String" "java/lang/String" "coder" "B"))⟩) f1 f2 (t₁ := .array .byte) (t₂ := .byte) (by decide +kernel) (by decide +kernel) (by decide)
  have al := X8.warmed.alike.symm.trans X15.warmed.alike
  have n7 : T11.heap[s.heap.size]? = some N := by rw [q11]; exact n1.1
  exact ⟨T15, none, _, _, _, X15, by simp, rfl, by omega, (fun _ => rfl), ⟨rfl, _, N, bl15, ((Same.refl D _).set _ (by simp)).set _ (by simp), sl15, (Cell.slots_setSlot_ne _ ap).trans sl13, n1.keep al (p15.other hne (p13.other hne n7)), n2, by rw [al.findClass]; exact n3, n4, n5, fun y c h1 h2 => p15.other h1 (p13.other h1 (by rw [q11]; exact n6 y c h2)), by rw [p15.2.2, p13.2.2, q11]; exact z8⟩, fun fs hl => c16.trans (X15.returnOut hexec hret (hb hbytes d57) hl)⟩
end New4
namespace New1
def yN : MethodName := ⟨"java/lang/String", "<init>", "([C)V"⟩
abbrev yB : ByteArray := jdk_42_method_3_code
theorem d0 : decode yB 0 = .ok (.aload_n 0, 1) := by decide +kernel
theorem d1 : decode yB 1 = .ok (.aload_n 1, 1) := by decide +kernel
theorem d2 : decode yB 2 = .ok (.iconst 0, 1) := by decide +kernel
theorem d3 : decode yB 3 = .ok (.aload_n 1, 1) := by decide +kernel
theorem d4 : decode yB 4 = .ok (.arraylength, 1) := by decide +kernel
theorem d5 : decode yB 5 = .ok (.aconst_null, 1) := by decide +kernel
theorem d6 : decode yB 6 = .ok (.invokespecial 27, 3) := by decide +kernel
theorem d9 : decode yB 9 = .ok (.return_, 1) := by decide +kernel
def site : List Cond := [New4.tab] ++ initW "java/lang/String" 27 New4.yN
def tab : Cond := tabOf yN yB 2 none site
def P (a : Addr) (D : Cell) (fV fC : Field) (b : Addr) (A : Cell) (z : Int32) (args : Array Value) (s : State) : Prop := args = #[.ref a, .ref b] ∧ Blank "java/lang/String" a D s ∧ Found "java/lang/String" "value" "[B" fV s ∧ Found "java/lang/String" "coder" "B" fC s ∧ Ch b A s ∧ StaticIs s "java/lang/String" "COMPACT_STRINGS" "Z" (.int z) ∧ ¬ z = 0 ∧ 0 < A.slots.size ∧ A.slots.size ≤ 536870912 ∧ ∀ i, i < A.slots.size → ¬ 255 < cv A i
def E (a : Addr) (D : Cell) (fV fC : Field) (A : Cell) (r : Option Value) (s u : State) : Prop := Got a D fV fC A 0 A.slots.size r s u
/-- new String(chars), not empty, no char above 255: a Latin-1 String of their low bytes -/
theorem law (l : Launch) (a : Addr) (D : Cell) (fV fC : Field) (b : Addr) (A : Cell) (z : Int32) : Law l yN 2 1 3 52 yB 2 none site (P a D fV fC b A z) (E a D fV fC A) [⟨a, fC.slot⟩, ⟨a, fV.slot⟩] 1 A.slots.size := by
  refine Law.of_walk (plainFor_of_name (by decide +kernel)) (by decide +kernel) (by decide +kernel) (by decide) (fun _ _ h => by rw [h.1]; rfl) (fun _ U U' hal hh h => ⟨h.1, h.2.1.mv hal hh, h.2.2.1.al hal, h.2.2.2.1.al hal, h.2.2.2.2.1.mv hal hh, h.2.2.2.2.2.1.there hal hh, h.2.2.2.2.2.2⟩) (fun r U U' V V' h1 hal h2 h => Got.mv r U U' V V' h1 hal h2 h) ?_
  intro p e s m args below meth c s₁ X0 hexec hbytes hml hret hlk hnm hown hh0 W hP
  obtain ⟨rfl, hB, f1, f2, hA, s1, hz, l0, l2, hp⟩ := hP
  have c1 : Steps p.tables e below (s₁.setTop (entryFrame m #[.ref a, .ref b] 2)) (s₁.setTop (mkF m 0 #[.val (.ref a), .val (.ref b)] [])) := entry rfl
  have c2 : Steps p.tables e below (s₁.setTop (entryFrame m #[.ref a, .ref b] 2)) (s₁.setTop (mkF m 6 #[.val (.ref a), .val (.ref b)] [.null, .int (Int32.ofNat A.slots.size), .int 0, .ref b, .ref a])) := c1.trans (by
    refine XS.aloadN X0.here hexec rfl (hb hbytes d0) rfl rfl ?_
    refine XS.aloadN X0.here hexec rfl (hb hbytes d1) rfl rfl ?_
    refine iconstV X0.here hexec rfl 0 (hb hbytes d2) (by decide) ?_
    refine XS.aloadN X0.here hexec rfl (hb hbytes d3) rfl rfl ?_
    refine X0.alen hexec (hA.1.mv X0.warmed.alike hh0) rfl rfl (hb hbytes d4) ?_
    refine XS.aconstNull X0.here hexec rfl (hb hbytes d5) ?_
    exact Steps.refl _)
  obtain ⟨v3, T3, X3, E3, g3⟩ := X0.callN hexec (New4.law l a D fV fC b A z 0 A.slots.size) rfl hown (wks W (initW "java/lang/String" 27 New4.yN)) (W New4.tab (by simp only [site, List.mem_cons, List.mem_append, true_or, or_true])) (W := 0) (Nat.le_of_ble_eq_true rfl) (Nat.le_of_ble_eq_true rfl) (Nat.le_refl _) (by show 0 + A.slots.size ≤ A.slots.size; omega) (g := (mkF m 6 #[.val (.ref a), .val (.ref b)] [.null, .int (Int32.ofNat A.slots.size), .int (Int32.ofNat 0), .ref b, .ref a])) rfl (by rw [hml]; rfl) c2 (argsL := [.ref b, .int (Int32.ofNat 0), .int (Int32.ofNat A.slots.size), .null]) (rest := []) rfl rfl (by show 2 * 0 + 0 ≤ _; decide) (hb hbytes d6) (⟨rfl, hB.mv X0.warmed.alike hh0, f1.al X0.warmed.alike, f2.al X0.warmed.alike, hA.mv X0.warmed.alike hh0, s1.there X0.warmed.alike hh0, hz, l0, by omega, l2, fun i hi => by rw [Nat.zero_add]; exact hp i hi⟩)
  have e0 := Got.mv _ s₁ s _ _ hh0.symm (Vm.Alike.refl _) rfl E3
  obtain rfl := e0.1
  have c4 : Steps p.tables e below (s₁.setTop (entryFrame m #[.ref a, .ref b] 2)) (T3.setTop (mkF m 9 #[.val (.ref a), .val (.ref b)] [])) := g3
  exact ⟨T3, none, _, _, _, X3, by simp, rfl, by omega, (fun _ => rfl), e0, fun fs hl => c4.trans (X3.returnOut hexec hret (hb hbytes d9) hl)⟩
theorem pays {l : Launch} {R : Room} {p : Program} {e : Env} {below : List Frame} {s : State} {sargs : Array Value} {len W : Nat} (a : Addr) (D : Cell) (fV fC : Field) (b : Addr) (A : Cell) (z : Int32) (htab : tab.before sargs s = true) (hfr : 4 ≤ R.frames) (hlo : W + 65 ≤ R.locals) :
    Back l R p e below s sargs yN len W (fun A₁ a₁ => A₁.cells + 1 ≤ R.cells ∧ A₁.slots + A.slots.size ≤ R.slots ∧ P a D fV fC b A z a₁ A₁.U) (fun A₁ _ v₁ B₁ => E a D fV fC A v₁ A₁.U B₁.U ∧ B₁.locs = A₁.locs ++ [⟨a, fC.slot⟩, ⟨a, fV.slot⟩] ∧ B₁.cells = A₁.cells + 1 ∧ B₁.slots = A₁.slots + A.slots.size) :=
  (law l a D fV fC b A z).pays htab hfr (by omega)
end New1
/-- the byte, read back as charAt reads it, is the char -/
theorem lo8_mask {x : Int32} (h0 : ¬ x < 0) (h1 : ¬ 255 < x) : lo8 x &&& 255 = x := by
  have t : ∀ k : Fin 256, lo8 (Int32.ofNat k.val) &&& 255 = Int32.ofNat k.val := by decide +kernel
  rw [Int32.lt_iff_toInt_lt] at h0 h1
  have e0 : (0 : Int32).toInt = 0 := rfl
  have e1 : (255 : Int32).toInt = 255 := rfl
  obtain ⟨k, hk⟩ : ∃ k : Nat, x.toInt = k := ⟨x.toInt.toNat, by omega⟩
  have hx : x = Int32.ofNat k := Int32.toInt_inj.mp (by rw [hk, Int32.toInt_ofNat_small (by omega)])
  rw [hx]
  exact t ⟨k, by omega⟩
end StrChars
namespace StrChars.Road
open Jvm Sem ClassFile Op Lib Jvm.Stand Jvm.Free Jvm.Free.XT
open Jvm.Lib.Cold (StaticIs)
abbrev ST : String := "java/lang/String"
/-- every table word that New1's law asks, flat -/
abbrev words : List Jvm.Cond := [.code New1.yN New1.yB 2 none, .initialized ST, .methodLink ST 27 New4.yN, .instanceMethod New4.yN,
  .code New4.yN New4.yB 6 none, .fieldLink ST 38 ST "COMPACT_STRINGS" "Z", .laysFinal ST ST "value" "[B", .fieldLink ST 9 ST "value" "[B", .laysFinal ST ST "coder" "B", .fieldLink ST 15 ST "coder" "B",
  .methodLink ST 1 Lib.objectInit, .instanceMethod Lib.objectInit, .code Lib.objectInit ⟨#[0xb1]⟩ 1 none, .methodLink ST 177 Cmp3.yN, .static Cmp3.yN, .methodLink ST 47 CodL.yN, .static CodL.yN,
  .code Cmp3.yN Cmp3.yB 6 (some (.array .byte)), .initialized U16, .arrayClass .byte, .methodLink U16 115 Cmp5.yN, .static Cmp5.yN, .code Cmp5.yN Cmp5.yB 7 (some .int), .code CodL.yN CodL.yB 2 (some .byte)]
theorem tab_of {a : Array Value} {s : State} (h : ∀ w ∈ words, w.before a s = true) : New1.tab.before a s = true := by
  have h5 : Cmp5.tab.before a s = true := unparts (wk h (.code Cmp5.yN Cmp5.yB 7 (some .int))) (wks h (.initialized Cmp5.yN.cls :: Cmp5.site))
  have hc : CodL.tab.before a s = true := unparts (wk h (.code CodL.yN CodL.yB 2 (some .byte))) (wks h (.initialized CodL.yN.cls :: CodL.site))
  have q5 : ∀ w ∈ Cmp5.tab :: words, w.before a s = true := fun w hw => (List.mem_cons.mp hw).elim (fun e => e ▸ h5) (h w)
  have h3 : Cmp3.tab.before a s = true := unparts (wk q5 (.code Cmp3.yN Cmp3.yB 6 (some (.array .byte)))) (wks q5 (.initialized Cmp3.yN.cls :: Cmp3.site))
  have q3 : ∀ w ∈ Cmp3.tab :: CodL.tab :: words, w.before a s = true := fun w hw => (List.mem_cons.mp hw).elim (fun e => e ▸ h3) fun hw => (List.mem_cons.mp hw).elim (fun e => e ▸ hc) (h w)
  have h4 : New4.tab.before a s = true := unparts (wk q3 (.code New4.yN New4.yB 6 none)) (wks q3 (.initialized New4.yN.cls :: New4.site))
  have q4 : ∀ w ∈ New4.tab :: words, w.before a s = true := fun w hw => (List.mem_cons.mp hw).elim (fun e => e ▸ h4) (h w)
  exact unparts (wk q4 (.code New1.yN New1.yB 2 none)) (wks q4 (.initialized New1.yN.cls :: New1.site))
/-- the words ride from the start Z to the walk's own state -/
theorem moved {Z s : State} {a0 args : Array Value} (hZ : Z.Warmed39 s.vm) (hw : ∀ d ∈ words, d.before a0 Z = true) : ∀ d ∈ words, d.before args s = true := fun d hd => by
  have q := hw d hd
  have t : ∀ d ∈ words, d = .arrayClass .byte ∨ (d.onTables && d.keepsFace) = true := by decide +kernel
  rcases t d hd with rfl | t
  · exact RoadKit.mvA hZ q
  · exact RoadKit.mv hZ q t
/-- WHAT COMES BACK, over the tables of the start Z: h the heap at the call, h' behind it -/
def Q (Z : State) (x : Addr) (A : Cell) (h : Heap) (v : Option Value) (h' : Heap) (L : List Loc) : Prop := v = none ∧ (∀ y ∈ L, y.base = x) ∧ RoadKit.Keep h h' [x] ∧ h'.size = h.size + 1 ∧ RoadKit.Exa Z h' x ST ∧ RoadKit.Fld Z h' x ST "value" "[B" (.ref h.size) ∧ RoadKit.Fld Z h' x ST "coder" "B" (.int 0) ∧
  (∃ V : Cell, RoadKit.Arr Z h' h.size V .byte ∧ V.vm = .none ∧ Z.vm.findClass "[B" = some V.cls ∧ V.slots.size = A.slots.size ∧ ∀ j, j < A.slots.size → V.slots[j]? = some (.int (lo8 (cv A j)))) ∧
  ∀ (O n d : String) (w : Value), RoadKit.Fld Z h x O n d w → RoadKit.slotOf Z O n d ≠ RoadKit.slotOf Z ST "value" "[B" → RoadKit.slotOf Z O n d ≠ RoadKit.slotOf Z ST "coder" "B" → RoadKit.Fld Z h' x O n d w
/-- **new String(chars) AT A CALL, IN THE ROAD'S FORM**: for specialBack behind newO: x the fresh String, b the char[] with the cell A -/
theorem back {p : Program} {l : Launch} {e : Env} {R : Room} {s : State} {args : Array Value} {below : List Frame} {len W : Nat} {Z : State} {a0 : Array Value} {h : Heap} (hZ : Z.Warmed39 s.vm) (hw : ∀ d ∈ words, d.before a0 Z = true) {kI : Nat} (wi : (Jvm.Cond.instantiable ST kI).before a0 Z = true)
    {x b : Addr} {A : Cell} {z : Int32} {v0 c0 : Value} (E : RoadKit.Exa Z h x ST) (V : RoadKit.Fld Z h x ST "value" "[B" v0) (C : RoadKit.Fld Z h x ST "coder" "B" c0) (K : RoadKit.Arr Z h b A .char) (hty : Typed .char A) (S : RoadKit.Sta Z h ST "COMPACT_STRINGS" "Z" (.int z)) (hz : ¬ z = 0)
    (l0 : 0 < A.slots.size) (l2 : A.slots.size ≤ 536870912) (hp : ∀ i, i < A.slots.size → ¬ 255 < cv A i) (hfr : 4 ≤ R.frames) (hlo : W + 65 ≤ R.locals) :
    Back l R p e below s args New1.yN len W (fun P a => a = #[.ref x, .ref b] ∧ P.U.heap = h ∧ P.cells + 1 ≤ R.cells ∧ P.slots + A.slots.size ≤ R.slots)
      (fun P _ v B => ∃ L, Q Z x A h v B.U.heap L ∧ B.locs = P.locs ++ L ∧ B.cells = P.cells + 1 ∧ B.slots = P.slots + A.slots.size) := by
  intro m meth c P g ig mk a X hg hsize hdg hW hn hp'
  obtain ⟨rfl, rfl, r1, r2⟩ := hp'
  have al : Z.vm.Alike P.U.vm := hZ.alike.trans X.warmed.alike
  obtain ⟨D, cfV, kV, iV, fV, hD, gV, stV, knV, obV, asV, slV⟩ := id V
  obtain ⟨D', cfC, kC, iC, fC, hD', gC, stC, -, -, asC, slC⟩ := id C
  cases hD.symm.trans hD'
  obtain ⟨D2, kD, e1, e2, e3, e4, e5⟩ := id E
  cases hD.symm.trans e1
  obtain ⟨c2, k2, i1, i2, i3, -⟩ := Cond.instantiable_spec wi
  cases e2.symm.trans i1
  cases e3.symm.trans i2
  obtain ⟨kU, u1, u2⟩ := al.2.2 _ _ e3
  have hB : Blank ST x D P.U := ⟨hD, ⟨knV, fun q hq => by rw [hq] at obV; cases obV⟩, by rw [al.findClass]; exact e2, kU, u1, by rw [u2]; exact i3, by rw [u2]; exact e5 i3⟩
  have F1 : Found ST "value" "[B" fV P.U := ⟨SBG.found_only al ⟨cfV, kV, iV, gV⟩, stV⟩
  have F2 : Found ST "coder" "B" fC P.U := ⟨SBG.found_only al ⟨cfC, kC, iC, gC⟩, stC⟩
  have hA : Ch b A P.U := ⟨⟨K.1, State.isArrayOf_alike al K.2.1, K.2.2, by omega⟩, hty⟩
  have hS : StaticIs P.U ST "COMPACT_STRINGS" "Z" (.int z) := by
    obtain ⟨cfS, iS, kS, fS, st, cS, t1, t2, t3, t4, t5, t6, t7⟩ := S
    exact StaticIs.there (s := { Z with heap := P.U.heap }) ⟨cfS, iS, kS, fS, st, cS, t1, t2, t3, t4, t5, (fun q => by rw [q] at t6; cases t6), t7⟩ al rfl
  obtain ⟨v, B, X', ⟨⟨hv, E', V', q1, q2, q3, q4, q5, q6, q7, q8, q9, q10, q11⟩, hl, hc, hs⟩, st⟩ := New1.pays x D fV fC b A z (tab_of (moved hZ hw)) hfr hlo m meth c P g ig mk _ X hg hsize hdg hW hn ⟨r1, r2, rfl, hB, F1, F2, hA, hS, hz, l0, l2, hp⟩
  have al' : Z.vm.Alike B.U.vm := hZ.alike.trans X'.warmed.alike
  have hsz : E'.slots.size = D.slots.size := by
    obtain ⟨-, -, -, kB, w1, w2, w3⟩ := q1
    obtain ⟨kB', y1, y2⟩ := al'.2.2 _ _ e3
    rw [q2.2.1] at w1
    cases w1.symm.trans y1
    rw [w3, e5 i3, y2]
  refine ⟨v, B, X', ⟨_, ⟨hv, ?_, ⟨by omega, fun y cy hy hn' => q10 y cy (by simpa using hn') hy, fun y cy hy => ?_⟩, q11, ⟨E', _, q1.1, by rw [q2.2.1]; exact e2, by rw [q2.2.1]; exact e3, by rw [q2.1]; exact obV, fun _ => by rw [hsz]; exact e5 i3⟩,
    ⟨E', cfV, kV, iV, fV, q1.1, gV, stV, by rw [q2.1]; exact knV, by rw [q2.1]; exact obV, by rw [q2.2.1]; exact asV, q3⟩, ⟨E', cfC, kC, iC, fC, q1.1, gC, stC, by rw [q2.1]; exact knV, by rw [q2.1]; exact obV, by rw [q2.2.1]; exact asC, q4⟩,
    ⟨V', ⟨q5.1, State.isArrayOf_alike al'.symm q5.2.1, q5.2.2.1⟩, q6, by rw [← al'.findClass]; exact q7, q8, fun j hj => by have := q9 j hj; rwa [Nat.zero_add] at this⟩, fun O n d w F n1 n2 => ?_⟩, hl, hc, hs⟩, st⟩
  · intro y hy
    simp only [List.mem_cons, List.not_mem_nil, or_false] at hy
    rcases hy with rfl | rfl <;> rfl
  · by_cases q : y = x
    · subst q
      cases hD.symm.trans hy
      exact ⟨E', q1.1, q2.2.1, q2.1, hsz⟩
    · exact ⟨cy, q10 y cy q hy, rfl, rfl, rfl⟩
  · obtain ⟨D3, cf, k, i, f, g1, g2, g3, g4, g5, g6, g7⟩ := F
    cases hD.symm.trans g1
    simp only [RoadKit.slotOf, g2, gV, gC, Option.map_some, Option.getD_some] at n1 n2
    exact ⟨E', cf, k, i, f, q1.1, g2, g3, by rw [q2.1]; exact g4, by rw [q2.1]; exact g5, by rw [q2.2.1]; exact g6, by rw [q2.2.2 f.slot (by simp [n1, n2])]; exact g7⟩
end StrChars.Road
namespace StrChars.Road
open Jvm Sem ClassFile Op Lib Jvm.Stand Jvm.Free Jvm.Free.XT
/-- WHAT COMES BACK, the byte[] as a list of values -/
def QA (Z : State) (x : Addr) (zn : Int32) (cs : List Int32) (h : Heap) (v : Option Value) (h' : Heap) (L : List Loc) : Prop := v = none ∧ (∀ y ∈ L, y.base = x) ∧ RoadKit.Keep h h' [x] ∧ h'.size = h.size + 1 ∧ RoadKit.Exa Z h' x ST ∧ RoadKit.Fld Z h' x ST "value" "[B" (.ref h.size) ∧ RoadKit.Fld Z h' x ST "coder" "B" (.int 0) ∧
  (∃ kb, Z.vm.findClass "[B" = some kb ∧ RoadKit.Arv Z h' h.size kb .byte zn (cs.map fun c => .int (lo8 c)) (.int 0)) ∧
  ∀ (O n d : String) (w : Value), RoadKit.Fld Z h x O n d w → RoadKit.slotOf Z O n d ≠ RoadKit.slotOf Z ST "value" "[B" → RoadKit.slotOf Z O n d ≠ RoadKit.slotOf Z ST "coder" "B" → RoadKit.Fld Z h' x O n d w
/-- **new String(chars) AT A CALL, THE ARRAYS AS LISTS**: the char[] at b holds cs, not empty, no char above 255 -/
theorem backArv {p : Program} {l : Launch} {e : Env} {R : Room} {s : State} {args : Array Value} {below : List Frame} {len W : Nat} {Z : State} {a0 : Array Value} {h : Heap} (hZ : Z.Warmed39 s.vm) (hw : ∀ d ∈ words, d.before a0 Z = true) {kI : Nat} (wi : (Jvm.Cond.instantiable ST kI).before a0 Z = true)
    {x b : Addr} {k : ClassId} {zn z : Int32} {cs : List Int32} {dv v0 c0 : Value} (E : RoadKit.Exa Z h x ST) (V : RoadKit.Fld Z h x ST "value" "[B" v0) (C : RoadKit.Fld Z h x ST "coder" "B" c0) (K : RoadKit.Arv Z h b k .char zn (cs.map Value.int) dv) (S : RoadKit.Sta Z h ST "COMPACT_STRINGS" "Z" (.int z)) (hz : ¬ z = 0)
    (hlen : zn.toNatClampNeg = cs.length) (h0 : 0 < cs.length) (hbig : cs.length ≤ 536870912) (hall : ∀ c ∈ cs, ¬ 255 < c) (hfr : 4 ≤ R.frames) (hlo : W + 65 ≤ R.locals) :
    Back l R p e below s args New1.yN len W (fun P a => a = #[.ref x, .ref b] ∧ P.U.heap = h ∧ P.cells + 1 ≤ R.cells ∧ P.slots + cs.length ≤ R.slots)
      (fun P _ v B => ∃ L, QA Z x zn cs h v B.U.heap L ∧ B.locs = P.locs ++ L ∧ B.cells = P.cells + 1 ∧ B.slots = P.slots + cs.length) := by
  obtain ⟨A, K1, K2, K3, K4, K5, K6⟩ := K
  have e : A.slots.size = cs.length := K3.trans hlen
  have hat : ∀ (i : Nat) (hi : i < cs.length), A.slots[i]? = some (.int cs[i]) := fun i hi => by rw [K5 i (by omega)]; simp [List.getD_eq_getElem?_getD, hi]
  have hcv : ∀ (i : Nat) (hi : i < cs.length), cv A i = cs[i] := fun i hi => by unfold cv; rw [hat i hi]
  have hty : Typed .char A := fun i v hv => by
    have hi : i < A.slots.size := (Array.getElem?_eq_some_iff.mp hv).1
    have q := K5 i hi
    rw [hv] at q
    rw [Option.some.inj q]
    exact K6 i hi
  refine Back.mono (back hZ hw wi E V C K1 hty S hz (by omega) (by omega) (fun i hi => by rw [hcv i (by omega)]; exact hall _ (List.getElem_mem _)) hfr hlo) (fun P a hp => ⟨hp.1, hp.2.1, hp.2.2.1, by rw [e]; exact hp.2.2.2⟩) (fun P a v B hp hq => ?_)
  obtain ⟨L, ⟨q1, q2, q3, q4, q5, q6, q7, ⟨V', v1, v2, v3, v4, v5⟩, q9⟩, hl, hc, hs⟩ := hq
  refine ⟨L, ⟨q1, q2, q3, q4, q5, q6, q7, ⟨V'.cls, v3, V', v1, rfl, by rw [v4, e, hlen], K4, fun i hi => ?_, fun i hi => ?_⟩, q9⟩, hl, hc, by rw [hs, e]⟩
  · have hi' : i < cs.length := by omega
    rw [v5 i (by omega), hcv i hi']; simp [List.getD_eq_getElem?_getD, hi']
  · have hi' : i < cs.length := by omega
    simp only [List.getD_eq_getElem?_getD, List.getElem?_map, List.getElem?_eq_getElem hi', Option.map_some, Option.getD_some]
    exact fits_lo8 _
end StrChars.Road
namespace StrChars.Road
open Jvm Sem ClassFile Op Lib Jvm.Stand Jvm.Free Jvm.Free.XT
/-- WHAT COMES BACK, in the writer's own shape -/
def QV (Z : State) (x : Addr) (N : Int32) (bs : List Int32) (h : Heap) (n0 : Nat) (v : Option Value) (h' : Heap) (L : List Loc) : Prop := v = none ∧ RoadKit.Fr n0 L ∧ RoadKit.Keep h h' [x] ∧ RoadKit.Exa Z h' x ST ∧ RoadKit.Fld Z h' x ST "coder" "B" (.int 0) ∧
  ∃ (t : Addr) (kb : ClassId), n0 ≤ t ∧ h.size ≤ t ∧ ¬ t = x ∧ RoadKit.Fld Z h' x ST "value" "[B" (.ref t) ∧ RoadKit.Arv Z h' t kb .byte N (bs.map Value.int) (.int 0)
/-- **new String(chars) AT A CALL, FOR THE WRITER**: a char[] of n known ints, each 0 to 255 -/
theorem backV {p : Program} {l : Launch} {e : Env} {R : Room} {s : State} {args : Array Value} {below : List Frame} {len W : Nat} {Z : State} {a0 : Array Value} {h : Heap} (hZ : Z.Warmed39 s.vm) (hw : ∀ d ∈ words, d.before a0 Z = true) {kI : Nat} (wi : (Jvm.Cond.instantiable ST kI).before a0 Z = true)
    {x b : Addr} {kC : ClassId} {cs bs : List Int32} {d v0 c0 : Value} {z N : Int32} {n n0 : Nat} (hx0 : n0 ≤ x) (hh0 : n0 ≤ h.size) (E : RoadKit.Exa Z h x ST) (V : RoadKit.Fld Z h x ST "value" "[B" v0) (C : RoadKit.Fld Z h x ST "coder" "B" c0) (K : RoadKit.Arv Z h b kC .char N (cs.map Value.int) d) (S : RoadKit.Sta Z h ST "COMPACT_STRINGS" "Z" (.int z)) (hz : ¬ z = 0)
    (hn : cs.length = n) (hN : N = Int32.ofNat n) (l0 : 0 < n) (l2 : n ≤ 4000) (hp : ∀ c ∈ cs, ¬ c < 0 ∧ ¬ (255 : Int32) < c) (hb : bs = cs.map (fun c => c.toInt8.toInt32)) (hfr : 4 ≤ R.frames) (hlo : W + 65 ≤ R.locals) :
    Back l R p e below s args (⟨"java/lang/String", "<init>", "([C)V"⟩ : MethodName) len W (fun P a => a = #[.ref x, .ref b] ∧ P.U.heap = h ∧ P.cells + 1 ≤ R.cells ∧ P.slots + n ≤ R.slots)
      (fun P _ v B => ∃ L, QV Z x N bs h n0 v B.U.heap L ∧ B.locs = P.locs ++ L ∧ B.cells = P.cells + 1 ∧ B.slots = P.slots + n) := by
  subst hn hN hb
  refine Back.mono (backArv hZ hw wi E V C K S hz (n32 (by omega)) l0 (by omega) (fun c hc => (hp c hc).2) hfr hlo) (fun P a hp => hp) (fun P a v B hp hq => ?_)
  obtain ⟨L, ⟨q1, q2, q3, q4, q5, q6, q7, ⟨kb, v1, v2⟩, q9⟩, hl, hc, hs⟩ := hq
  exact ⟨L, ⟨q1, fun y hy => by rw [q2 y hy]; exact hx0, q3, q5, q7, h.size, kb, hh0, Nat.le_refl _, Nat.ne_of_gt E.lt, q6, by rw [List.map_map]; exact v2⟩, hl, hc, hs⟩
end StrChars.Road
namespace StrChars
open Jvm Sem ClassFile Op Lib Jvm.Stand Jvm.Free.XT Jvm.Free.ALB Jvm.Free.JM Jvm.Free
open Jvm.Lib.Cold (StaticIs)
def hi8 (x : Int32) : Int32 := lo8 (x >>> ((8 : Int32) &&& 31))
/-- what StringUTF16.getChar makes of two bytes -/
def pairCh (u v : Int32) : Int32 := (((u &&& 255) <<< ((0 : Int32) &&& 31)) ||| ((v &&& 255) <<< ((8 : Int32) &&& 31))).toUInt32.toUInt16.toUInt32.toInt32
theorem lo8_and (x : Int32) : (lo8 x &&& 255).toBitVec.toNat = x.toBitVec.toNat % 256 := by
  have h : (lo8 x).toBitVec = (x.toBitVec.signExtend 8).signExtend 32 := by rw [lo8, Int8.toBitVec_toInt32, Int32.toBitVec_toInt8]
  rw [Int32.toBitVec_and, BitVec.toNat_and, h]
  have e : ((x.toBitVec.signExtend 8).signExtend 32).toNat % 256 = x.toBitVec.toNat % 256 := by
    rw [BitVec.toNat_signExtend]
    have hlt := x.toBitVec.isLt
    simp only [BitVec.toNat_setWidth, BitVec.toNat_signExtend]
    split <;> split <;> omega
  rw [← e]
  exact Nat.and_two_pow_sub_one_eq_mod _ 8
theorem pair_says {c : Int32} (h0 : ¬ c < 0) (h1 : ¬ 65535 < c) : pairCh (lo8 c) (hi8 c) = c := by
  rw [Int32.lt_iff_toInt_lt] at h0 h1
  have e0 : (0 : Int32).toInt = 0 := rfl
  have e1 : (65535 : Int32).toInt = 65535 := rfl
  have hc : c.toInt = c.toBitVec.toNat := by
    have := c.toBitVec.isLt
    have e : c.toInt = c.toBitVec.toInt := rfl
    rw [e] at h0 h1
    rw [e]
    rw [BitVec.toInt_eq_toNat_cond] at h0 h1 ⊢
    split at h0 <;> split <;> omega
  have hn : c.toBitVec.toNat < 65536 := by omega
  have a1 := lo8_and c
  have a2 : (hi8 c &&& 255).toBitVec.toNat = c.toBitVec.toNat / 256 := by
    rw [hi8, lo8_and]
    have e : ((8 : Int32) &&& 31) = 8 := by decide
    rw [e, Int32.toBitVec_shiftRight]
    have e2 : ((8 : Int32).toBitVec.smod 32) = 8#32 := by decide
    rw [e2, BitVec.sshiftRight_eq', BitVec.toNat_sshiftRight_of_msb_false (by rw [BitVec.msb_eq_false_iff_two_mul_lt]; omega)]
    show c.toBitVec.toNat >>> 8 % 256 = _
    rw [Nat.shiftRight_eq_div_pow]
    omega
  unfold pairCh
  apply Int32.toBitVec_inj.mp
  apply BitVec.eq_of_toNat_eq
  have f0 : ((0 : Int32) &&& 31) = 0 := by decide
  have f8 : ((8 : Int32) &&& 31) = 8 := by decide
  rw [f0, f8]
  have g : (((lo8 c &&& 255) <<< (0 : Int32)) ||| ((hi8 c &&& 255) <<< (8 : Int32))).toBitVec.toNat = c.toBitVec.toNat := by
    rw [Int32.toBitVec_or, Int32.toBitVec_shiftLeft, Int32.toBitVec_shiftLeft]
    have s0 : ((0 : Int32).toBitVec.smod 32) = 0#32 := by decide
    have s8 : ((8 : Int32).toBitVec.smod 32) = 8#32 := by decide
    rw [s0, s8, BitVec.toNat_or]
    simp only [BitVec.shiftLeft_eq', BitVec.toNat_shiftLeft, a1, a2]
    show (c.toBitVec.toNat % 256) <<< 0 % 2 ^ 32 ||| (c.toBitVec.toNat / 256) <<< 8 % 2 ^ 32 = _
    rw [Nat.shiftLeft_zero, Nat.mod_eq_of_lt (show c.toBitVec.toNat % 256 < 2 ^ 32 by omega), Nat.mod_eq_of_lt (show (c.toBitVec.toNat / 256) <<< 8 < 2 ^ 32 by rw [Nat.shiftLeft_eq]; omega), Nat.or_comm, ← Nat.shiftLeft_add_eq_or_of_lt (by omega), Nat.shiftLeft_eq]
    omega
  show BitVec.toNat (((((lo8 c &&& 255) <<< (0 : Int32)) ||| ((hi8 c &&& 255) <<< (8 : Int32))).toBitVec.setWidth 16).setWidth 32) = _
  rw [BitVec.toNat_setWidth, BitVec.toNat_setWidth, g]
  omega
end StrChars
namespace StrChars
open Jvm Sem ClassFile Op Lib Jvm.Stand Jvm.Free.XT Jvm.Free.ALB Jvm.Free.JM Jvm.Free
open Jvm.Lib.Cold (StaticIs)
/-- charAt's cast of a byte read back -/
def chr8 (u : Int32) : Int32 := (u &&& 255).toUInt32.toUInt16.toUInt32.toInt32
theorem chr8_lo8 {c : Int32} (h0 : ¬ c < 0) (h1 : ¬ 255 < c) : chr8 (lo8 c) = c := by
  have t : ∀ k : Fin 256, (Int32.ofNat k.val).toUInt32.toUInt16.toUInt32.toInt32 = Int32.ofNat k.val := by decide +kernel
  unfold chr8
  rw [lo8_mask h0 h1]
  rw [Int32.lt_iff_toInt_lt] at h0 h1
  have e0 : (0 : Int32).toInt = 0 := rfl
  have e1 : (255 : Int32).toInt = 255 := rfl
  obtain ⟨k, hk⟩ : ∃ k : Nat, c.toInt = k := ⟨c.toInt.toNat, by omega⟩
  have hx : c = Int32.ofNat k := Int32.toInt_inj.mp (by rw [hk, Int32.toInt_ofNat_small (by omega)])
  rw [hx]
  exact t ⟨k, by omega⟩
theorem narrow_ch {c : Int32} (h0 : ¬ c < 0) (h1 : ¬ 65535 < c) : narrow .char (.int c) = .int c := by
  have q : narrow .char (.int (pairCh (lo8 c) (hi8 c))) = .int (pairCh (lo8 c) (hi8 c)) := narrow_c _
  rwa [pair_says h0 h1] at q
/-- the array's cell V codes the n chars f 0 .. f (n - 1) by the coder cd, as the JDK does: coder 1 just where some char is above 255 -/
def Cod (cd : Int32) (n : Nat) (f : Nat → Int32) (V : Cell) : Prop := (cd = 0 ∧ V.slots.size = n ∧ ∀ j, j < n → V.slots[j]? = some (.int (lo8 (f j))) ∧ ¬ 255 < f j) ∨ (cd = 1 ∧ V.slots.size = 2 * n ∧ (∀ j, j < n → V.slots[2 * j]? = some (.int (lo8 (f j))) ∧ V.slots[2 * j + 1]? = some (.int (hi8 (f j)))) ∧ ∃ j, j < n ∧ 255 < f j)
theorem Cod.cd {cd : Int32} {n : Nat} {f : Nat → Int32} {V : Cell} (h : Cod cd n f V) : cd = 0 ∨ cd = 1 := h.imp (fun q => q.1) fun q => q.1
/-- **x is a String of the n chars f 0 .. f (n - 1)**, Latin-1 or UTF-16; its array at t has the cell V -/
def Txt (x t : Addr) (V : Cell) (cd : Int32) (n : Nat) (f : Nat → Int32) (U : State) : Prop := Exact "java/lang/String" x U ∧ Has x "java/lang/String" "value" "[B" (.ref t) U ∧ Has x "java/lang/String" "coder" "B" (.int cd) U ∧ XT.Arr .byte t V U ∧ Cod cd n f V ∧ ∀ j, j < n → ¬ f j < 0 ∧ ¬ 65535 < f j
theorem Txt.mv {x t : Addr} {V : Cell} {cd : Int32} {n : Nat} {f : Nat → Int32} {U U' : State} (h : Txt x t V cd n f U) (hal : U.vm.Alike U'.vm) (hh : U'.heap = U.heap) : Txt x t V cd n f U' := ⟨h.1.mv hal hh, h.2.1.mv hal hh, h.2.2.1.mv hal hh, h.2.2.2.1.mv hal hh, h.2.2.2.2⟩
namespace IsL
def yN : MethodName := ⟨"java/lang/String", "isLatin1", "()Z"⟩
abbrev yB : ByteArray := jdk_42_method_154_code
theorem d0 : decode yB 0 = .ok (.getstatic 38, 3) := by decide +kernel
theorem d3 : decode yB 3 = .ok (.ifCond (.eq) 14, 3) := by decide +kernel
theorem d6 : decode yB 6 = .ok (.aload_n 0, 1) := by decide +kernel
theorem d7 : decode yB 7 = .ok (.getfield 15, 3) := by decide +kernel
theorem d10 : decode yB 10 = .ok (.ifCond (.ne) 7, 3) := by decide +kernel
theorem d13 : decode yB 13 = .ok (.iconst 1, 1) := by decide +kernel
theorem d14 : decode yB 14 = .ok (.goto 4, 3) := by decide +kernel
theorem d17 : decode yB 17 = .ok (.iconst 0, 1) := by decide +kernel
theorem d18 : decode yB 18 = .ok (.ireturn, 1) := by decide +kernel
def site : List Cond := [.fieldLink "java/lang/String" 38 "java/lang/String" "COMPACT_STRINGS" "Z", .fieldLink "java/lang/String" 15 "java/lang/String" "coder" "B"]
def tab : Cond := tabOf yN yB 1 (some .boolean) site
def P (x : Addr) (cd z : Int32) (args : Array Value) (s : State) : Prop := args = #[.ref x] ∧ Has x "java/lang/String" "coder" "B" (.int cd) s ∧ (cd = 0 ∨ cd = 1) ∧ StaticIs s "java/lang/String" "COMPACT_STRINGS" "Z" (.int z) ∧ ¬ z = 0
def E (cd : Int32) (r : Option Value) (s u : State) : Prop := XT.PureE (some (.int (1 - cd))) r s u
theorem law (l : Launch) (x : Addr) (cd z : Int32) : Law l yN 1 0 0 0 yB 1 (some .boolean) site (P x cd z) (E cd) [] 0 0 := by
  refine Law.of_walk (plainFor_of_name (by decide +kernel)) (by decide +kernel) (by decide +kernel) (by decide) (fun _ _ h => by rw [h.1]; rfl) (fun _ U U' hal hh h => ⟨h.1, h.2.1.mv hal hh, h.2.2.1, h.2.2.2.1.there hal hh, h.2.2.2.2⟩) (fun r U U' V V' h1 hal h2 h => XT.PureE.mv r U U' V V' h1 hal h2 h) ?_
  intro p e s m args below meth c s₁ X0 hexec hbytes hml hret hlk hnm hown hh0 W hP
  obtain ⟨rfl, hx, hc, s1, hz⟩ := hP
  have c1 : Steps p.tables e below (s₁.setTop (entryFrame m #[.ref x] 1)) (s₁.setTop (mkF m 0 #[.val (.ref x)] [])) := entry rfl
  obtain ⟨T2, X2, q2, st2⟩ := X0.sget hexec hown (wk W (.fieldLink "java/lang/String" 38 "java/lang/String" "COMPACT_STRINGS" "Z")) s1 (fun _ _ h => by rw [hh0]; exact h) (g := (mkF m 0 #[.val (.ref x)] [])) rfl (hb hbytes d0)
  have hh2 := q2.trans hh0
  have c3 : Steps p.tables e below (s₁.setTop (entryFrame m #[.ref x] 1)) (T2.setTop (mkF m 7 #[.val (.ref x)] [.ref x])) := (c1.trans (st2 _ (Steps.refl _))).trans (by
    refine XS.ifNo X2.here hexec rfl (hb hbytes d3) rfl (i0_eq_f hz) ?_
    refine XS.aloadN X2.here hexec rfl (hb hbytes d6) rfl rfl ?_
    exact Steps.refl _)
  obtain ⟨T4, X4, q4, st4⟩ := X2.hget hexec hown (wk W (.fieldLink "java/lang/String" 15 "java/lang/String" "coder" "B")) (hx.mv X2.warmed.alike hh2) (g := (mkF m 7 #[.val (.ref x)] [.ref x])) rfl (rest := []) rfl (hb hbytes d7)
  have c5 : Steps p.tables e below (s₁.setTop (entryFrame m #[.ref x] 1)) (T4.setTop (mkF m 10 #[.val (.ref x)] [.int cd])) := c3.trans (st4 _ (Steps.refl _))
  have c6 : Steps p.tables e below (s₁.setTop (entryFrame m #[.ref x] 1)) (T4.setTop (mkF m 18 #[.val (.ref x)] [.int (1 - cd)])) := by
    rcases hc with rfl | rfl
    · exact c5.trans (by
        refine XS.ifNo X4.here hexec rfl (hb hbytes d10) rfl (i0_ne_f rfl) ?_
        refine iconstV X4.here hexec rfl 1 (hb hbytes d13) (by decide) ?_
        refine XS.goto X4.here hexec rfl (pc0 := 14) rfl (hb hbytes d14) (by decide) rfl ?_
        exact Steps.refl _)
    · exact c5.trans (by
        refine XS.ifYes X4.here hexec rfl (pc0 := 10) rfl (hb hbytes d10) rfl (i0_ne_t (by decide)) (by decide) rfl ?_
        refine iconstV X4.here hexec rfl 0 (hb hbytes d17) (by decide) ?_
        exact Steps.refl _)
  exact ⟨T4, some (.int (1 - cd)), _, _, _, X4, rfl, rfl, rfl, (fun h => by cases h), ⟨rfl, q4.trans hh2⟩, fun fs hl => c6.trans (X4.ireturnOut hexec hret (by rcases hc with rfl | rfl <;> rfl) (Or.inr (Or.inl rfl)) (hb hbytes d18) hl)⟩
end IsL
namespace LChA
def yN : MethodName := ⟨"java/lang/StringLatin1", "charAt", "([BI)C"⟩
abbrev yB : ByteArray := jdk_43_method_2_code
theorem d0 : decode yB 0 = .ok (.iload_n 1, 1) := by decide +kernel
theorem d1 : decode yB 1 = .ok (.aload_n 0, 1) := by decide +kernel
theorem d2 : decode yB 2 = .ok (.arraylength, 1) := by decide +kernel
theorem d3 : decode yB 3 = .ok (.invokestatic 9, 3) := by decide +kernel
theorem d6 : decode yB 6 = .ok (.aload_n 0, 1) := by decide +kernel
theorem d7 : decode yB 7 = .ok (.iload_n 1, 1) := by decide +kernel
theorem d8 : decode yB 8 = .ok (.baload, 1) := by decide +kernel
theorem d9 : decode yB 9 = .ok (.sipush 255, 3) := by decide +kernel
theorem d12 : decode yB 12 = .ok (.iand, 1) := by decide +kernel
theorem d13 : decode yB 13 = .ok (.i2c, 1) := by decide +kernel
theorem d14 : decode yB 14 = .ok (.ireturn, 1) := by decide +kernel
def site : List Cond := [JO.Str_checkIndex.tab] ++ staticW "java/lang/StringLatin1" 9 JO.Str_checkIndex.yN
def tab : Cond := tabOf yN yB 2 (some .char) site
def P (t : Addr) (V : Cell) (i : Nat) (u : Int32) (fm : Value) (args : Array Value) (s : State) : Prop := args = #[.ref t, .int (Int32.ofNat i)] ∧ XT.Arr .byte t V s ∧ V.slots[i]? = some (.int u) ∧ (StaticIs s "jdk/internal/util/Preconditions" "SIOOBE_FORMATTER" "Ljava/util/function/BiFunction;" fm ∧ fm.isRef = true)
def E (u : Int32) (r : Option Value) (s w : State) : Prop := XT.PureE (some (.int (chr8 u))) r s w
theorem law (l : Launch) (t : Addr) (V : Cell) (i : Nat) (u : Int32) (fm : Value) : Law l yN 2 2 2 27 yB 2 (some .char) site (P t V i u fm) (E u) [] 0 0 := by
  refine Law.of_walk (plainFor_of_name (by decide +kernel)) (by decide +kernel) (by decide +kernel) (by decide) (fun _ _ h => by rw [h.1]; rfl) (fun _ U U' hal hh h => ⟨h.1, h.2.1.mv hal hh, h.2.2.1, h.2.2.2.1.there hal hh, h.2.2.2.2⟩) (fun r U U' V V' h1 hal h2 h => XT.PureE.mv r U U' V V' h1 hal h2 h) ?_
  intro p e s m args below meth c s₁ X0 hexec hbytes hml hret hlk hnm hown hh0 W hP
  obtain ⟨rfl, hV, hu, s1, rf⟩ := hP
  have v31 := hV.2.2.2
  have hi : i < V.slots.size := (Array.getElem?_eq_some_iff.mp hu).1
  have c1 : Steps p.tables e below (s₁.setTop (entryFrame m #[.ref t, .int (Int32.ofNat i)] 2)) (s₁.setTop (mkF m 0 #[.val (.ref t), .val (.int (Int32.ofNat i))] [])) := entry rfl
  have c2 : Steps p.tables e below (s₁.setTop (entryFrame m #[.ref t, .int (Int32.ofNat i)] 2)) (s₁.setTop (mkF m 3 #[.val (.ref t), .val (.int (Int32.ofNat i))] [.int (Int32.ofNat V.slots.size), .int (Int32.ofNat i)])) := c1.trans (by
    refine XS.iloadN X0.here hexec rfl (hb hbytes d0) rfl ?_
    refine XS.aloadN X0.here hexec rfl (hb hbytes d1) rfl rfl ?_
    refine X0.alen hexec (hV.mv X0.warmed.alike hh0) rfl rfl (hb hbytes d2) ?_
    exact Steps.refl _)
  obtain ⟨v3, T3, X3, E3, g3⟩ := X0.callS hexec (JO.Str_checkIndex.law l (Int32.ofNat i) (Int32.ofNat V.slots.size) fm) hown (wks W (staticW "java/lang/StringLatin1" 9 JO.Str_checkIndex.yN)) (wk W JO.Str_checkIndex.tab) (W := 0) (Nat.le_of_ble_eq_true rfl) (Nat.le_of_ble_eq_true rfl) (Nat.le_refl _) (Nat.le_refl _) (g := (mkF m 3 #[.val (.ref t), .val (.int (Int32.ofNat i))] [.int (Int32.ofNat V.slots.size), .int (Int32.ofNat i)])) rfl (by rw [hml]; rfl) c2 (argsL := [.int (Int32.ofNat i), .int (Int32.ofNat V.slots.size)]) (rest := []) rfl rfl (by show 2 * 0 + 0 ≤ _; decide) (hb hbytes d3) (⟨rfl, rf, s1.there X0.warmed.alike hh0, Int32.ofNat_not_neg (by omega), lt32 v31 hi⟩)
  obtain ⟨rfl, q3⟩ := E3
  have hh3 := q3.trans hh0
  have c4 : Steps p.tables e below (s₁.setTop (entryFrame m #[.ref t, .int (Int32.ofNat i)] 2)) (T3.setTop (mkF m 14 #[.val (.ref t), .val (.int (Int32.ofNat i))] [.int (chr8 u)])) := Steps.trans g3 (by
    refine XS.aloadN X3.here hexec rfl (hb hbytes d6) rfl rfl ?_
    refine XS.iloadN X3.here hexec rfl (hb hbytes d7) rfl ?_
    refine X3.aget hexec (hV.mv X3.warmed.alike hh3) rfl hu rfl rfl (hb hbytes d8) ?_
    refine sipushV X3.here hexec rfl 255 (hb hbytes d9) (by decide) ?_
    refine XS.iand X3.here hexec rfl (hb hbytes d12) rfl ?_
    refine i2c X3.here hexec rfl (hb hbytes d13) rfl ?_
    exact Steps.refl _)
  exact ⟨T3, some (.int (chr8 u)), _, _, _, X3, rfl, rfl, rfl, (fun h => by cases h), ⟨rfl, hh3⟩, fun fs hl => c4.trans (X3.ireturnOut hexec hret (narrow_c _) (Or.inr (Or.inr (Or.inr (Or.inl rfl)))) (hb hbytes d14) hl)⟩
end LChA
end StrChars
namespace StrChars.Road
open Jvm Sem ClassFile Op Lib Jvm.Stand Jvm.Free Jvm.Free.XT
open Jvm.Lib.Cold (StaticIs)
theorem consq {a : Array Value} {s : State} {c : Jvm.Cond} {L : List Jvm.Cond} (h0 : c.before a s = true) (h : ∀ w ∈ L, w.before a s = true) : ∀ w ∈ c :: L, w.before a s = true := fun w hw => (List.mem_cons.mp hw).elim (fun e => e ▸ h0) (h w)
/-- the bytes of the chars cs, low before high -/
def wideBytes : List Int32 → List Value
  | [] => []
  | c :: cs => .int (lo8 c) :: .int (hi8 c) :: wideBytes cs
theorem wide_lo (d : Value) : ∀ (cs : List Int32) (j : Nat), j < cs.length → (wideBytes cs).getD (2 * j) d = .int (lo8 (cs.getD j 0))
  | [], j, h => absurd h (Nat.not_lt_zero j)
  | c :: cs, 0, _ => rfl
  | c :: cs, j + 1, h => by
    have q := wide_lo d cs j (by simpa using h)
    rw [show 2 * (j + 1) = 2 * j + 1 + 1 from by omega]
    simpa [wideBytes] using q
theorem wide_hi (d : Value) : ∀ (cs : List Int32) (j : Nat), j < cs.length → (wideBytes cs).getD (2 * j + 1) d = .int (hi8 (cs.getD j 0))
  | [], j, h => absurd h (Nat.not_lt_zero j)
  | c :: cs, 0, _ => rfl
  | c :: cs, j + 1, h => by
    have q := wide_hi d cs j (by simpa using h)
    rw [show 2 * (j + 1) + 1 = 2 * j + 1 + 1 + 1 from by omega]
    simpa [wideBytes] using q
theorem low_at (d : Value) (cs : List Int32) (j : Nat) (h : j < cs.length) : (cs.map fun c => Value.int (lo8 c)).getD j d = .int (lo8 (cs.getD j 0)) := by
  simp [List.getD_eq_getElem?_getD, h]
/-- an array of N2 bytes vs codes the chars cs by the coder cd -/
def CodA (cs : List Int32) (cd N2 : Int32) (vs : List Value) : Prop := (cd = 0 ∧ N2 = Int32.ofNat cs.length ∧ vs = (cs.map fun c => Value.int (lo8 c)) ∧ ∀ c ∈ cs, ¬ 255 < c) ∨ (cd = 1 ∧ N2 = Int32.ofNat (2 * cs.length) ∧ vs = wideBytes cs ∧ ∃ c ∈ cs, 255 < c)
theorem CodA.cod {cs : List Int32} {cd N2 : Int32} {vs : List Value} {V : Cell} (h : CodA cs cd N2 vs) (hn : 2 * cs.length < 2 ^ 31) (hs : V.slots.size = N2.toNatClampNeg) (hv : RoadKit.Has V vs (.int 0)) : Cod cd cs.length (fun j => cs.getD j 0) V := by
  rcases h with ⟨rfl, rfl, rfl, h⟩ | ⟨rfl, rfl, rfl, c, hc, hw⟩
  · rw [n32 (by omega)] at hs
    exact Or.inl ⟨rfl, hs, fun j hj => ⟨by rw [hv j (by omega), low_at _ _ _ hj], by
      have e : cs.getD j 0 = cs[j] := by simp [List.getD_eq_getElem?_getD, hj]
      show ¬ 255 < cs.getD j 0
      rw [e]; exact h _ (List.getElem_mem _)⟩⟩
  · rw [n32 (by omega)] at hs
    obtain ⟨j, hj, rfl⟩ := List.getElem_of_mem hc
    exact Or.inr ⟨rfl, hs, fun j hj => ⟨by rw [hv _ (by omega), wide_lo _ _ _ hj], by rw [hv _ (by omega), wide_hi _ _ _ hj]⟩, j, hj, by
      have e : cs.getD j 0 = cs[j] := by simp [List.getD_eq_getElem?_getD, hj]
      show 255 < cs.getD j 0
      rw [e]; exact hw⟩
/-- an object of exactly java/lang/String, its two fields found: as the laws ask it -/
theorem strObj {Z U : State} {a0 : Array Value} {kI : Nat} (wi : (Jvm.Cond.instantiable ST kI).before a0 Z = true) (al : Z.vm.Alike U.vm) {x : Addr} {v0 c0 : Value} (E : RoadKit.Exa Z U.heap x ST) (V : RoadKit.Fld Z U.heap x ST "value" "[B" v0) (C : RoadKit.Fld Z U.heap x ST "coder" "B" c0) :
    ∃ (D : Cell) (fV fC : Field), Blank ST x D U ∧ Found ST "value" "[B" fV U ∧ Found ST "coder" "B" fC U ∧ D.slots[fV.slot]? = some v0 ∧ D.slots[fC.slot]? = some c0 ∧ RoadKit.slotOf Z ST "value" "[B" = fV.slot ∧ RoadKit.slotOf Z ST "coder" "B" = fC.slot := by
  obtain ⟨D, cfV, kV, iV, fV, hD, gV, stV, knV, obV, asV, slV⟩ := V
  obtain ⟨D', cfC, kC, iC, fC, hD', gC, stC, -, -, asC, slC⟩ := C
  cases hD.symm.trans hD'
  obtain ⟨D2, kD, e1, e2, e3, e4, e5⟩ := E
  cases hD.symm.trans e1
  obtain ⟨c2, k2, i1, i2, i3, -⟩ := Cond.instantiable_spec wi
  cases e2.symm.trans i1
  cases e3.symm.trans i2
  obtain ⟨kU, u1, u2⟩ := al.2.2 _ _ e3
  exact ⟨D, fV, fC, ⟨hD, ⟨knV, fun q hq => by rw [hq] at obV; cases obV⟩, by rw [al.findClass]; exact e2, kU, u1, by rw [u2]; exact i3, by rw [u2]; exact e5 i3⟩, ⟨SBG.found_only al ⟨cfV, kV, iV, gV⟩, stV⟩, ⟨SBG.found_only al ⟨cfC, kC, iC, gC⟩, stC⟩, slV, slC, by simp [RoadKit.slotOf, gV], by simp [RoadKit.slotOf, gC]⟩
theorem sta_is {Z U : State} (al : Z.vm.Alike U.vm) {C n d : String} {v : Value} (S : RoadKit.Sta Z U.heap C n d v) : StaticIs U C n d v := by
  obtain ⟨cfS, iS, kS, fS, st, cS, t1, t2, t3, t4, t5, t6, t7⟩ := S
  exact StaticIs.there (s := { Z with heap := U.heap }) ⟨cfS, iS, kS, fS, st, cS, t1, t2, t3, t4, t5, (fun q => by rw [q] at t6; cases t6), t7⟩ al rfl
end StrChars.Road
namespace StrChars.Road
open Jvm Sem ClassFile Op Lib Jvm.Stand Jvm.Free Jvm.Free.XT
open Jvm.Lib.Cold (StaticIs)
/-- the road's facts of a String, as the laws ask it -/
theorem txt_of {Z U : State} {a0 : Array Value} {kI : Nat} (wi : (Jvm.Cond.instantiable ST kI).before a0 Z = true) (al : Z.vm.Alike U.vm) {x t : Addr} {kb : ClassId} {cs : List Int32} {cd N2 : Int32} {vs : List Value} (E : RoadKit.Exa Z U.heap x ST) (V : RoadKit.Fld Z U.heap x ST "value" "[B" (.ref t)) (C : RoadKit.Fld Z U.heap x ST "coder" "B" (.int cd)) (K : RoadKit.Arv Z U.heap t kb .byte N2 vs (.int 0)) (hc : CodA cs cd N2 vs) (hb : ∀ c ∈ cs, ¬ c < 0 ∧ ¬ (65535 : Int32) < c) (l2 : cs.length ≤ 4000) :
    ∃ A, Txt x t A cd cs.length (fun j => cs.getD j 0) U := by
  obtain ⟨A, K1, K2, K3, K4, K5, K6⟩ := K
  have hcod := hc.cod (by omega) K3 K5
  obtain ⟨D, fV, fC, hB, F1, F2, g1, g2, -, -⟩ := strObj wi al E V C
  exact ⟨A, ⟨_, hB.2.2.1, D, hB.1, rfl, by cases q : D.vm <;> first | rfl | exact absurd q (hB.2.1.2 _)⟩, Has.of hB F1 g1, Has.of hB F2 g2, ⟨K1.1, State.isArrayOf_alike al K1.2.1, K1.2.2, by rcases hcod with ⟨-, q, -⟩ | ⟨-, q, -⟩ <;> omega⟩, hcod, fun j hj => by
    have e : cs.getD j 0 = cs[j] := by simp [List.getD_eq_getElem?_getD, hj]
    show ¬ cs.getD j 0 < 0 ∧ ¬ 65535 < cs.getD j 0
    rw [e]; exact hb _ (List.getElem_mem _)⟩
end StrChars.Road
namespace StrChars
open Jvm Sem ClassFile Op Lib Jvm.Stand Jvm.Free.XT Jvm.Free.ALB Jvm.Free.JM Jvm.Free
open Jvm.Lib.Cold (StaticIs)
namespace ChN
def yN : MethodName := ⟨"java/lang/String", "charAt", "(I)C"⟩
abbrev yB : ByteArray := jdk_42_method_56_code
theorem d0 : decode yB 0 = .ok (.aload_n 0, 1) := by decide +kernel
theorem d1 : decode yB 1 = .ok (.invokevirtual 492, 3) := by decide +kernel
theorem d4 : decode yB 4 = .ok (.ifCond (.eq) 12, 3) := by decide +kernel
theorem d7 : decode yB 7 = .ok (.aload_n 0, 1) := by decide +kernel
theorem d8 : decode yB 8 = .ok (.getfield 9, 3) := by decide +kernel
theorem d11 : decode yB 11 = .ok (.iload_n 1, 1) := by decide +kernel
theorem d12 : decode yB 12 = .ok (.invokestatic 495, 3) := by decide +kernel
theorem d15 : decode yB 15 = .ok (.ireturn, 1) := by decide +kernel
def site : List Cond := [.fieldLink "java/lang/String" 9 "java/lang/String" "value" "[B", IsL.tab, LChA.tab] ++ virtW "java/lang/String" 492 "java/lang/String" IsL.yN IsL.yN ++ staticW "java/lang/String" 495 LChA.yN
def tab : Cond := tabOf yN yB 2 (some .char) site
def P (x t : Addr) (V : Cell) (n : Nat) (f : Nat → Int32) (z : Int32) (fm : Value) (i : Nat) (args : Array Value) (s : State) : Prop := args = #[.ref x, .int (Int32.ofNat i)] ∧ Txt x t V 0 n f s ∧ i < n ∧ StaticIs s "java/lang/String" "COMPACT_STRINGS" "Z" (.int z) ∧ ¬ z = 0 ∧ StaticIs s "jdk/internal/util/Preconditions" "SIOOBE_FORMATTER" "Ljava/util/function/BiFunction;" fm ∧ fm.isRef = true
def E (f : Nat → Int32) (i : Nat) (r : Option Value) (s u : State) : Prop := XT.PureE (some (.int (f i))) r s u
/-- charAt(i) of a Latin-1 String of n chars, i < n: f i -/
theorem law (l : Launch) (x t : Addr) (V : Cell) (n : Nat) (f : Nat → Int32) (z : Int32) (fm : Value) (i : Nat) : Law l yN 2 1 3 40 yB 2 (some .char) site (P x t V n f z fm i) (E f i) [] 0 0 := by
  refine Law.of_walk (plainFor_of_name (by decide +kernel)) (by decide +kernel) (by decide +kernel) (by decide) (fun _ _ h => by rw [h.1]; rfl) (fun _ U U' hal hh h => ⟨h.1, h.2.1.mv hal hh, h.2.2.1, h.2.2.2.1.there hal hh, h.2.2.2.2.1, h.2.2.2.2.2.1.there hal hh, h.2.2.2.2.2.2⟩) (fun r U U' V V' h1 hal h2 h => XT.PureE.mv r U U' V V' h1 hal h2 h) ?_
  intro p e s m args below meth c s₁ X0 hexec hbytes hml hret hlk hnm hown hh0 W hP
  obtain ⟨rfl, hx, hi, s1, hz, s3, rf⟩ := hP
  have v31 := hx.2.2.2.1.2.2.2
  have hr := hx.2.2.2.2.2 i hi
  have hx0 := hx.mv X0.warmed.alike hh0
  have c1 : Steps p.tables e below (s₁.setTop (entryFrame m #[.ref x, .int (Int32.ofNat i)] 2)) (s₁.setTop (mkF m 1 #[.val (.ref x), .val (.int (Int32.ofNat i))] [.ref x])) := Steps.trans (entry rfl) (by
    show Steps p.tables e below (s₁.setTop (mkF m 0 #[.val (.ref x), .val (.int (Int32.ofNat i))] [])) _
    refine XS.aloadN X0.here hexec rfl (hb hbytes d0) rfl rfl ?_
    exact Steps.refl _)
  obtain ⟨v2, T2, X2, E2, g2⟩ := X0.callV hexec (IsL.law l x 0 z) hown (wks W (virtW "java/lang/String" 492 "java/lang/String" IsL.yN IsL.yN)) rfl (by decide) (wk W IsL.tab) (W := 0) (Nat.le_of_ble_eq_true rfl) (Nat.le_of_ble_eq_true rfl) (Nat.le_refl _) (Nat.le_refl _) (hx0.1.fc X0.warmed.alike) hx0.1.is (g := (mkF m 1 #[.val (.ref x), .val (.int (Int32.ofNat i))] [.ref x])) rfl (by rw [hml]; rfl) c1 (argsL := []) (rest := []) rfl rfl (by show 2 * 0 + 0 ≤ _; decide) (hb hbytes d1) (⟨rfl, hx0.2.2.1, hx.2.2.2.2.1.cd, s1.there X0.warmed.alike hh0, hz⟩)
  obtain ⟨rfl, q2⟩ := E2
  have hh2 := q2.trans hh0
  have hx2 := hx.mv X2.warmed.alike hh2
  obtain ⟨-, k1, k2⟩ | ⟨k0, -⟩ := hx.2.2.2.2.1
  · have c3 : Steps p.tables e below (s₁.setTop (entryFrame m #[.ref x, .int (Int32.ofNat i)] 2)) (T2.setTop (mkF m 8 #[.val (.ref x), .val (.int (Int32.ofNat i))] [.ref x])) := Steps.trans g2 (by
      refine XS.ifNo X2.here hexec rfl (hb hbytes d4) rfl (i0_eq_f (by decide)) ?_
      refine XS.aloadN X2.here hexec rfl (hb hbytes d7) rfl rfl ?_
      exact Steps.refl _)
    obtain ⟨T4, X4, q4, st4⟩ := X2.hget hexec hown (wk W (.fieldLink "java/lang/String" 9 "java/lang/String" "value" "[B")) hx2.2.1 (g := (mkF m 8 #[.val (.ref x), .val (.int (Int32.ofNat i))] [.ref x])) rfl (rest := []) rfl (hb hbytes d8)
    have hh4 := q4.trans hh2
    have c5 : Steps p.tables e below (s₁.setTop (entryFrame m #[.ref x, .int (Int32.ofNat i)] 2)) (T4.setTop (mkF m 12 #[.val (.ref x), .val (.int (Int32.ofNat i))] [.int (Int32.ofNat i), .ref t])) := (c3.trans (st4 _ (Steps.refl _))).trans (by
      refine XS.iloadN X4.here hexec rfl (hb hbytes d11) rfl ?_
      exact Steps.refl _)
    obtain ⟨v6, T6, X6, E6, g6⟩ := X4.callS hexec (LChA.law l t V i (lo8 (f i)) fm) hown (wks W (staticW "java/lang/String" 495 LChA.yN)) (wk W LChA.tab) (W := 0) (Nat.le_of_ble_eq_true rfl) (Nat.le_of_ble_eq_true rfl) (Nat.le_refl _) (Nat.le_refl _) (g := (mkF m 12 #[.val (.ref x), .val (.int (Int32.ofNat i))] [.int (Int32.ofNat i), .ref t])) rfl (by rw [hml]; rfl) c5 (argsL := [.ref t, .int (Int32.ofNat i)]) (rest := []) rfl rfl (by show 2 * 0 + 0 ≤ _; decide) (hb hbytes d12) (⟨rfl, hx.2.2.2.1.mv X4.warmed.alike hh4, (k2 i hi).1, s3.there X4.warmed.alike hh4, rf⟩)
    obtain ⟨rfl, q6⟩ := E6
    rw [chr8_lo8 hr.1 (k2 i hi).2] at g6
    exact ⟨T6, some (.int (f i)), _, _, _, X6, rfl, rfl, rfl, (fun h => by cases h), ⟨rfl, q6.trans hh4⟩, fun fs hl => Steps.trans g6 (X6.ireturnOut hexec hret (narrow_ch hr.1 hr.2) (Or.inr (Or.inr (Or.inr (Or.inl rfl)))) (hb hbytes d15) hl)⟩
  · exact absurd k0 (by decide)
theorem pays {l : Launch} {R : Room} {p : Program} {e : Env} {below : List Frame} {s : State} {sargs : Array Value} {len W : Nat} (x t : Addr) (V : Cell) (n : Nat) (f : Nat → Int32) (z : Int32) (fm : Value) (i : Nat) (htab : tab.before sargs s = true) (hfr : 4 ≤ R.frames) (hlo : W + 53 ≤ R.locals) :
    Back l R p e below s sargs yN len W (fun A₁ a₁ => A₁.cells + 0 ≤ R.cells ∧ A₁.slots + 0 ≤ R.slots ∧ P x t V n f z fm i a₁ A₁.U) (fun A₁ _ v₁ B₁ => E f i v₁ A₁.U B₁.U ∧ B₁.locs = A₁.locs ++ [] ∧ B₁.cells = A₁.cells + 0 ∧ B₁.slots = A₁.slots + 0) :=
  (law l x t V n f z fm i).pays htab hfr (by omega)
end ChN
end StrChars
namespace StrChars.Road
open Jvm Sem ClassFile Op Lib Jvm.Stand Jvm.Free Jvm.Free.XT
open Jvm.Lib.Cold (StaticIs)
/-- the words of String.charAt(int), the Latin-1 road alone -/
abbrev wordsChN : List Jvm.Cond := [.code ChN.yN ChN.yB 2 (some .char), .initialized ST, .fieldLink ST 9 ST "value" "[B", .fieldLink ST 38 ST "COMPACT_STRINGS" "Z", .fieldLink ST 15 ST "coder" "B", .code IsL.yN IsL.yB 1 (some .boolean), .methodLink ST 492 IsL.yN, .declares IsL.yN, .selects ST IsL.yN IsL.yN, .instanceMethod IsL.yN,
  .methodLink ST 495 LChA.yN, .static LChA.yN, .code LChA.yN LChA.yB 2 (some .char), .initialized "java/lang/StringLatin1", .methodLink "java/lang/StringLatin1" 9 JO.Str_checkIndex.yN, .static JO.Str_checkIndex.yN, .code JO.Str_checkIndex.yN JO.Str_checkIndex.yB 2 none,
  .fieldLink ST 1053 "jdk/internal/util/Preconditions" "SIOOBE_FORMATTER" "Ljava/util/function/BiFunction;", .methodLink ST 1059 JC.PreCheck.yN, .static JC.PreCheck.yN, .code JC.PreCheck.yN JC.PreCheck.yB 3 (some .int), .initialized "jdk/internal/util/Preconditions"]
theorem tabChN_of {a : Array Value} {s : State} (h : ∀ w ∈ wordsChN, w.before a s = true) : ChN.tab.before a s = true := by
  have hp : JC.PreCheck.tab.before a s = true := unparts (wk h (.code JC.PreCheck.yN JC.PreCheck.yB 3 (some .int))) (wks h (.initialized JC.PreCheck.yN.cls :: JC.PreCheck.site))
  have qk := consq hp h
  have hk : JO.Str_checkIndex.tab.before a s = true := unparts (wk qk (.code JO.Str_checkIndex.yN JO.Str_checkIndex.yB 2 none)) (wks qk (.initialized JO.Str_checkIndex.yN.cls :: JO.Str_checkIndex.site))
  have ql := consq hk h
  have hl : LChA.tab.before a s = true := unparts (wk ql (.code LChA.yN LChA.yB 2 (some .char))) (wks ql (.initialized LChA.yN.cls :: LChA.site))
  have hi : IsL.tab.before a s = true := unparts (wk h (.code IsL.yN IsL.yB 1 (some .boolean))) (wks h (.initialized IsL.yN.cls :: IsL.site))
  have q := consq hi (consq hl h)
  exact unparts (wk q (.code ChN.yN ChN.yB 2 (some .char))) (wks q (.initialized ChN.yN.cls :: ChN.site))
theorem movedChN {Z s : State} {a0 args : Array Value} (hZ : Z.Warmed39 s.vm) (hw : ∀ d ∈ wordsChN, d.before a0 Z = true) : ∀ d ∈ wordsChN, d.before args s = true := fun d hd => by
  have t : ∀ d ∈ wordsChN, (d.onTables && d.keepsFace) = true := by decide +kernel
  exact RoadKit.mv hZ (hw d hd) (t d hd)
/-- **charAt(i) OF A LATIN-1 STRING**, i < n: the char -/
theorem chN {p : Program} {l : Launch} {e : Env} {R : Room} {s : State} {args : Array Value} {below : List Frame} {len W : Nat} {Z : State} {a0 : Array Value} {h : Heap} (hZ : Z.Warmed39 s.vm) (hw : ∀ d ∈ wordsChN, d.before a0 Z = true) {kI : Nat} (wi : (Jvm.Cond.instantiable ST kI).before a0 Z = true)
    {x t : Addr} {kb : ClassId} {cs : List Int32} {N2 z : Int32} {vs : List Value} {fm : Value} {i : Nat} {j : Int32} (E : RoadKit.Exa Z h x ST) (V : RoadKit.Fld Z h x ST "value" "[B" (.ref t)) (C : RoadKit.Fld Z h x ST "coder" "B" (.int 0)) (K : RoadKit.Arv Z h t kb .byte N2 vs (.int 0)) (hc : CodA cs 0 N2 vs) (hb : ∀ c ∈ cs, ¬ c < 0 ∧ ¬ (65535 : Int32) < c)
    (S : RoadKit.Sta Z h ST "COMPACT_STRINGS" "Z" (.int z)) (hz : ¬ z = 0) (F : RoadKit.Sta Z h "jdk/internal/util/Preconditions" "SIOOBE_FORMATTER" "Ljava/util/function/BiFunction;" fm) (rf : fm.isRef = true) (l2 : cs.length ≤ 4000) (hi : i < cs.length) (hj : j = Int32.ofNat i) (hfr : 4 ≤ R.frames) (hlo : W + 53 ≤ R.locals) :
    Back l R p e below s args (⟨"java/lang/String", "charAt", "(I)C"⟩ : MethodName) len W (fun P a => a = #[.ref x, .int j] ∧ P.U.heap = h ∧ P.cells + 0 ≤ R.cells ∧ P.slots + 0 ≤ R.slots)
      (fun P _ v B => ∃ L, (v = some (.int (cs.getD i 0)) ∧ L = [] ∧ B.U.heap = h) ∧ B.locs = P.locs ++ L ∧ B.cells = P.cells + 0 ∧ B.slots = P.slots + 0) := by
  subst hj
  intro m meth c P g ig mk a X hg hsize hdg hW hn hp'
  obtain ⟨rfl, rfl, r1, r2⟩ := hp'
  have al : Z.vm.Alike P.U.vm := hZ.alike.trans X.warmed.alike
  obtain ⟨A, hx⟩ := txt_of wi al E V C K hc hb l2
  obtain ⟨v, B, X', ⟨⟨hv, hh⟩, hl, hk, hs⟩, st⟩ := ChN.pays x t A cs.length (fun j => cs.getD j 0) z fm i (tabChN_of (movedChN hZ hw)) hfr hlo m meth c P g ig mk _ X hg hsize hdg hW hn ⟨r1, r2, rfl, hx, hi, sta_is al S, hz, sta_is al F, rf⟩
  exact ⟨v, B, X', ⟨[], ⟨hv, rfl, hh⟩, hl, hk, hs⟩, st⟩
/-- what backV says of its String, as the contracts of this text ask it: cs's low bytes, coder 0 -/
theorem codOf {cs : List Int32} {n : Nat} (hn : cs.length = n) (hb : ∀ c ∈ cs, ¬ 255 < c) : CodA cs 0 (Int32.ofNat n) ((cs.map lo8).map Value.int) := Or.inl ⟨rfl, by rw [hn], by simp [List.map_map, Function.comp_def], hb⟩
end StrChars.Road
end Jvm.Pilot.@@N@@
namespace Jvm.Pilot.@@N@@
open Jvm Jvm.ClassFile Sem Op Lib Jvm.Free Jvm.Stand Jvm.LawKit Jvm.RoadKit Bundle Jvm.Pilot.@@N@@.Jvm.D
/-- what a body that writes nothing leaves -/
def QR (r : Option Value) (h0 : Heap) (n0 : Nat) (v : Option Value) (h : Heap) (L : List Loc) : Prop := v = r ∧ Fr n0 L ∧ h = h0
theorem own_chars (x : Int32) : ¬ nar .char ((x &&& (255 : Int32)).toUInt32.toUInt16.toUInt32.toInt32) < 0 ∧ ¬ (255 : Int32) < nar .char ((x &&& (255 : Int32)).toUInt32.toUInt16.toUInt32.toInt32) := by
  have t : ∀ k : Fin 256, ¬ nar .char ((Int32.ofNat k.val).toUInt32.toUInt16.toUInt32.toInt32) < 0 ∧ ¬ (255 : Int32) < nar .char ((Int32.ofNat k.val).toUInt32.toUInt16.toUInt32.toInt32) := by decide +kernel
  have h : (x &&& 255).toBitVec.toNat < 256 := by
    simp only [Int32.toBitVec_and, BitVec.toNat_and]
    exact Nat.lt_succ_of_le Nat.and_le_right
  have e : (x &&& 255) = Int32.ofNat (x &&& 255).toBitVec.toNat := by
    apply Int32.toBitVec_inj.mp
    show _ = BitVec.ofNat 32 _
    rw [BitVec.ofNat_toNat]; simp
  rw [e]
  exact t ⟨_, h⟩
def own_dg (q1 : Int64) (p2 : Int32) : Int32 := nar .char (((48 : Int32) + (((((q1.toUInt64 >>> (((2 : Int32) * p2) &&& 0x3f).toInt64.toUInt64).toInt64) &&& (15 : Int64)) - ((((q1.toUInt64 >>> (((2 : Int32) * p2) &&& 0x3f).toInt64.toUInt64).toInt64) &&& (15 : Int64)) / (10 : Int64)) * (10 : Int64)).toInt32)).toUInt32.toUInt16.toUInt32.toInt32)
theorem d1_0 : decode method_2_code 0 = .ok (.bipush 48, 2) := by decide +kernel
theorem d1_2 : decode method_2_code 2 = .ok (.lload_n 0, 1) := by decide +kernel
theorem d1_3 : decode method_2_code 3 = .ok (.iconst 2, 1) := by decide +kernel
theorem d1_4 : decode method_2_code 4 = .ok (.iload_n 2, 1) := by decide +kernel
theorem d1_5 : decode method_2_code 5 = .ok (.imul, 1) := by decide +kernel
theorem d1_6 : decode method_2_code 6 = .ok (.lushr, 1) := by decide +kernel
theorem d1_7 : decode method_2_code 7 = .ok (.ldc2_w 7, 3) := by decide +kernel
theorem d1_10 : decode method_2_code 10 = .ok (.land, 1) := by decide +kernel
theorem d1_11 : decode method_2_code 11 = .ok (.ldc2_w 9, 3) := by decide +kernel
theorem d1_14 : decode method_2_code 14 = .ok (.lrem, 1) := by decide +kernel
theorem d1_15 : decode method_2_code 15 = .ok (.l2i, 1) := by decide +kernel
theorem d1_16 : decode method_2_code 16 = .ok (.iadd, 1) := by decide +kernel
theorem d1_17 : decode method_2_code 17 = .ok (.i2c, 1) := by decide +kernel
theorem d1_18 : decode method_2_code 18 = .ok (.ireturn, 1) := by decide +kernel
theorem pn_1 : plainName "com/example/bandmark/bandmark/PlainDecimalIsCompactPinLaw" = true := by first | (simp [plainName, overriddenIn]; done) | decide +kernel
theorem ef_1 (m : MethodId) (x0 : Int64) (x1 : Int32) : entryFrame m #[(.long x0), (.int x1)] 3 = mkF m 0 #[.val (.long x0), .second, .val (.int x1)] [] := by first | (simp [entryFrame, mkF, argsToLocals, Value.category]; done) | rfl
set_option maxRecDepth 65536 in
set_option maxHeartbeats 40000000 in
theorem r1 (l : Launch) (Z : State) (a0 : Array Value) (hw : ∀ d ∈ tables_1, d.before a0 Z = true) (ws : List Jvm.Cond) (q1 : Int64) (p2 : Int32) (h0 : Heap) (n0 : Nat) (Z0 : n0 ≤ h0.size) (hnz14 : ¬ ((10 : Int64) = (0 : Int64))) :
    MetFree l (⟨"com/example/bandmark/bandmark/PlainDecimalIsCompactPinLaw", "dg", "(JI)C"⟩ : MethodName) (head1 (Jvm.Cond.code (⟨"com/example/bandmark/bandmark/PlainDecimalIsCompactPinLaw", "dg", "(JI)C"⟩ : MethodName) method_2_code 3 (some .char) :: ws) ({ frames := 0, cells := 0, slots := 0, locals := 0 } : Room)) (fun a U => a = #[(.long q1), (.int p2)] ∧ Z.Warmed39 U.vm ∧ U.heap = h0) (fun _ _ _ _ _ => True) (fun _ U o U' => ∃ v L, o = .returned v ∧ QR (some (.int (nar .char (((48 : Int32) + (((((q1.toUInt64 >>> (((2 : Int32) * p2) &&& 0x3f).toInt64.toUInt64).toInt64) &&& (15 : Int64)) - ((((q1.toUInt64 >>> (((2 : Int32) * p2) &&& 0x3f).toInt64.toUInt64).toInt64) &&& (15 : Int64)) / (10 : Int64)) * (10 : Int64)).toInt32)).toUInt32.toUInt16.toUInt32.toInt32)))) h0 n0 v U'.heap L ∧ FrameEnd U o U' L ({ frames := 0, cells := 0, slots := 0, locals := 0 } : Room).cells ({ frames := 0, cells := 0, slots := 0, locals := 0 } : Room).slots) := by
  refine MetFree.of_bodySF (plainFor_of_name pn_1) hisR ?_
  intro p e s m args below meth c s₁ Bd hml0 hP hK
  obtain ⟨rfl, hZ, hh⟩ := hP
  have hx := Bd.exec
  have hby := Bd.bytes
  have hml : c.maxLocals = 3 := hml0
  have hown : s.vm.findClass "com/example/bandmark/bandmark/PlainDecimalIsCompactPinLaw" = some m.cls := findClass_of_methodNamed Bd.named
  have hnm := (name_of_methodNamed Bd.named Bd.method).1
  have X0 : Stand p l e ({ frames := 0, cells := 0, slots := 0, locals := 0 } : Room) s m #[(.long q1), (.int p2)] below meth c s₁ [] 0 0 := Stand.of_body Bd
  have e0 : s₁.heap = h0 := by rw [← hh, Bd.state]; rfl
  have N0 := Fr.nil n0
  have pre0 : ∀ t, Steps p.tables e below (s₁.setTop (mkF m 0 #[.val (.long q1), .second, .val (.int p2)] [])) t → Steps p.tables e below (s₁.setTop (entryFrame m #[(.long q1), (.int p2)] 3)) t := fun t k => castTop (ef_1 m q1 p2) k
  obtain ⟨fs, hr, hrun, hended, hW, hsame⟩ := X0.leave (v := some (.int (nar .char (((48 : Int32) + (((((q1.toUInt64 >>> (((2 : Int32) * p2) &&& 0x3f).toInt64.toUInt64).toInt64) &&& (15 : Int64)) - ((((q1.toUInt64 >>> (((2 : Int32) * p2) &&& 0x3f).toInt64.toUInt64).toInt64) &&& (15 : Int64)) / (10 : Int64)) * (10 : Int64)).toInt32)).toUInt32.toUInt16.toUInt32.toInt32)))) (fun h => by rw [Bd.returns] at h; cases h)
  refine ⟨_, _, pre0 _ ?_, hrun, hended, _, _, rfl, ?_, ⟨_, rfl⟩, hW, hsame.mono (by decide) (by decide)⟩
  · show Steps p.tables e below (s₁.setTop (mkF m 0 #[.val (.long q1), .second, .val (.int p2)] [])) _
    refine XS.bipush X0.here hx rfl (hb hby d1_0) ?_
    show Steps p.tables e below (s₁.setTop (mkF m 2 #[.val (.long q1), .second, .val (.int p2)] [(.int (48 : Int32))])) _
    refine XS.lloadN X0.here hx rfl (hb hby d1_2) rfl ?_
    show Steps p.tables e below (s₁.setTop (mkF m 3 #[.val (.long q1), .second, .val (.int p2)] [(.long q1), (.int (48 : Int32))])) _
    refine XS.iconst X0.here hx rfl (hb hby d1_3) ?_
    show Steps p.tables e below (s₁.setTop (mkF m 4 #[.val (.long q1), .second, .val (.int p2)] [(.int (2 : Int32)), (.long q1), (.int (48 : Int32))])) _
    refine XS.iloadN X0.here hx rfl (hb hby d1_4) rfl ?_
    show Steps p.tables e below (s₁.setTop (mkF m 5 #[.val (.long q1), .second, .val (.int p2)] [(.int p2), (.int (2 : Int32)), (.long q1), (.int (48 : Int32))])) _
    refine XS.imul X0.here hx rfl (hb hby d1_5) rfl ?_
    show Steps p.tables e below (s₁.setTop (mkF m 6 #[.val (.long q1), .second, .val (.int p2)] [(.int ((2 : Int32) * p2)), (.long q1), (.int (48 : Int32))])) _
    refine XS.lushr X0.here hx rfl (hb hby d1_6) rfl ?_
    show Steps p.tables e below (s₁.setTop (mkF m 7 #[.val (.long q1), .second, .val (.int p2)] [(.long ((q1.toUInt64 >>> (((2 : Int32) * p2) &&& 0x3f).toInt64.toUInt64).toInt64)), (.int (48 : Int32))])) _
    refine X0.ldc2Long hx hown (mvT hZ (hw _ (List.mem_of_getElem? (i := 5) rfl))) (g := (mkF m 7 #[.val (.long q1), .second, .val (.int p2)] [(.long ((q1.toUInt64 >>> (((2 : Int32) * p2) &&& 0x3f).toInt64.toUInt64).toInt64)), (.int (48 : Int32))])) rfl (hb hby d1_7) _ ?_
    show Steps p.tables e below (s₁.setTop (mkF m 10 #[.val (.long q1), .second, .val (.int p2)] [(.long (15 : Int64)), (.long ((q1.toUInt64 >>> (((2 : Int32) * p2) &&& 0x3f).toInt64.toUInt64).toInt64)), (.int (48 : Int32))])) _
    refine XS.land X0.here hx rfl (hb hby d1_10) rfl ?_
    show Steps p.tables e below (s₁.setTop (mkF m 11 #[.val (.long q1), .second, .val (.int p2)] [(.long (((q1.toUInt64 >>> (((2 : Int32) * p2) &&& 0x3f).toInt64.toUInt64).toInt64) &&& (15 : Int64))), (.int (48 : Int32))])) _
    refine X0.ldc2Long hx hown (mvT hZ (hw _ (List.mem_of_getElem? (i := 6) rfl))) (g := (mkF m 11 #[.val (.long q1), .second, .val (.int p2)] [(.long (((q1.toUInt64 >>> (((2 : Int32) * p2) &&& 0x3f).toInt64.toUInt64).toInt64) &&& (15 : Int64))), (.int (48 : Int32))])) rfl (hb hby d1_11) _ ?_
    show Steps p.tables e below (s₁.setTop (mkF m 14 #[.val (.long q1), .second, .val (.int p2)] [(.long (10 : Int64)), (.long (((q1.toUInt64 >>> (((2 : Int32) * p2) &&& 0x3f).toInt64.toUInt64).toInt64) &&& (15 : Int64))), (.int (48 : Int32))])) _
    refine XS.lrem X0.here hx rfl (hb hby d1_14) rfl hnz14 ?_
    show Steps p.tables e below (s₁.setTop (mkF m 15 #[.val (.long q1), .second, .val (.int p2)] [(.long ((((q1.toUInt64 >>> (((2 : Int32) * p2) &&& 0x3f).toInt64.toUInt64).toInt64) &&& (15 : Int64)) - ((((q1.toUInt64 >>> (((2 : Int32) * p2) &&& 0x3f).toInt64.toUInt64).toInt64) &&& (15 : Int64)) / (10 : Int64)) * (10 : Int64))), (.int (48 : Int32))])) _
    refine XS.l2i X0.here hx rfl (hb hby d1_15) rfl ?_
    show Steps p.tables e below (s₁.setTop (mkF m 16 #[.val (.long q1), .second, .val (.int p2)] [(.int (((((q1.toUInt64 >>> (((2 : Int32) * p2) &&& 0x3f).toInt64.toUInt64).toInt64) &&& (15 : Int64)) - ((((q1.toUInt64 >>> (((2 : Int32) * p2) &&& 0x3f).toInt64.toUInt64).toInt64) &&& (15 : Int64)) / (10 : Int64)) * (10 : Int64)).toInt32)), (.int (48 : Int32))])) _
    refine XS.iadd X0.here hx rfl (hb hby d1_16) rfl ?_
    show Steps p.tables e below (s₁.setTop (mkF m 17 #[.val (.long q1), .second, .val (.int p2)] [(.int ((48 : Int32) + (((((q1.toUInt64 >>> (((2 : Int32) * p2) &&& 0x3f).toInt64.toUInt64).toInt64) &&& (15 : Int64)) - ((((q1.toUInt64 >>> (((2 : Int32) * p2) &&& 0x3f).toInt64.toUInt64).toInt64) &&& (15 : Int64)) / (10 : Int64)) * (10 : Int64)).toInt32)))])) _
    refine XS.i2c X0.here hx rfl (hb hby d1_17) rfl ?_
    show Steps p.tables e below (s₁.setTop (mkF m 18 #[.val (.long q1), .second, .val (.int p2)] [(.int (((48 : Int32) + (((((q1.toUInt64 >>> (((2 : Int32) * p2) &&& 0x3f).toInt64.toUInt64).toInt64) &&& (15 : Int64)) - ((((q1.toUInt64 >>> (((2 : Int32) * p2) &&& 0x3f).toInt64.toUInt64).toInt64) &&& (15 : Int64)) / (10 : Int64)) * (10 : Int64)).toInt32)).toUInt32.toUInt16.toUInt32.toInt32))])) _
    exact retN X0 hx (t := .char) Bd.returns (by simp) (hb hby d1_18) hr
  · show QR (some (.int (nar .char (((48 : Int32) + (((((q1.toUInt64 >>> (((2 : Int32) * p2) &&& 0x3f).toInt64.toUInt64).toInt64) &&& (15 : Int64)) - ((((q1.toUInt64 >>> (((2 : Int32) * p2) &&& 0x3f).toInt64.toUInt64).toInt64) &&& (15 : Int64)) / (10 : Int64)) * (10 : Int64)).toInt32)).toUInt32.toUInt16.toUInt32.toInt32)))) h0 n0 _ s₁.heap _
    rw [e0]
    exact ⟨rfl, N0, rfl⟩
theorem d12_0 : decode prog_8_method_1_code 0 = .ok (.aload_n 0, 1) := by decide +kernel
theorem d12_1 : decode prog_8_method_1_code 1 = .ok (.invokespecial 1, 3) := by decide +kernel
theorem d12_4 : decode prog_8_method_1_code 4 = .ok (.return_, 1) := by decide +kernel
theorem pn_12 : plainName "com/example/bandmark/bandmark/PlainDecimal" = true := by first | (simp [plainName, overriddenIn]; done) | decide +kernel
theorem ef_12 (m : MethodId) (x0 : Addr) : entryFrame m #[(.ref x0)] 1 = mkF m 0 #[.val (.ref x0)] [] := by first | (simp [entryFrame, mkF, argsToLocals, Value.category]; done) | rfl
set_option maxRecDepth 65536 in
set_option maxHeartbeats 40000000 in
theorem r12 (l : Launch) (Z : State) (a0 : Array Value) (hw : ∀ d ∈ tables_1, d.before a0 Z = true) (ws : List Jvm.Cond) (a1 : Addr) (h0 : Heap) (n0 : Nat) (Z0 : n0 ≤ h0.size) :
    MetFree l (⟨"com/example/bandmark/bandmark/PlainDecimal", "<init>", "()V"⟩ : MethodName) (head1 (Jvm.Cond.code (⟨"com/example/bandmark/bandmark/PlainDecimal", "<init>", "()V"⟩ : MethodName) prog_8_method_1_code 1 none :: ws) ({ frames := 1, cells := 0, slots := 0, locals := 12 } : Room)) (fun a U => a = #[(.ref a1)] ∧ Z.Warmed39 U.vm ∧ U.heap = h0) (fun _ _ _ _ _ => True) (fun _ U o U' => ∃ v L, o = .returned v ∧ QR (none) h0 n0 v U'.heap L ∧ FrameEnd U o U' L ({ frames := 1, cells := 0, slots := 0, locals := 12 } : Room).cells ({ frames := 1, cells := 0, slots := 0, locals := 12 } : Room).slots) := by
  refine MetFree.of_bodySF (plainFor_of_name pn_12) hisR ?_
  intro p e s m args below meth c s₁ Bd hml0 hP hK
  obtain ⟨rfl, hZ, hh⟩ := hP
  have hx := Bd.exec
  have hby := Bd.bytes
  have hml : c.maxLocals = 1 := hml0
  have hown : s.vm.findClass "com/example/bandmark/bandmark/PlainDecimal" = some m.cls := findClass_of_methodNamed Bd.named
  have hnm := (name_of_methodNamed Bd.named Bd.method).1
  have X0 : Stand p l e ({ frames := 1, cells := 0, slots := 0, locals := 12 } : Room) s m #[(.ref a1)] below meth c s₁ [] 0 0 := Stand.of_body Bd
  have e0 : s₁.heap = h0 := by rw [← hh, Bd.state]; rfl
  have N0 := Fr.nil n0
  have pre0 : ∀ t, Steps p.tables e below (s₁.setTop (mkF m 0 #[.val (.ref a1)] [])) t → Steps p.tables e below (s₁.setTop (entryFrame m #[(.ref a1)] 1)) t := fun t k => castTop (ef_12 m a1) k
  obtain ⟨T2, X2, e2, st2⟩ := initO X0 hx hZ hown (hw _ (List.mem_of_getElem? (i := 57) rfl)) (hw _ (List.mem_of_getElem? (i := 18) rfl)) (hw _ (List.mem_of_getElem? (i := 19) rfl)) e0 (g := (mkF m 1 #[.val (.ref a1)] [(.ref a1)])) rfl (by rw [hml]; rfl) rfl (hb hby d12_1) (by decide) (W := 0) (by show 2 * 0 + _ ≤ _; exact Nat.le_of_eq rfl) (by decide)
  obtain ⟨fs, hr, hrun, hended, hW, hsame⟩ := X2.leave (v := none) (fun _ => rfl)
  refine ⟨_, _, pre0 _ ?_, hrun, hended, _, _, rfl, ?_, ⟨_, rfl⟩, hW, hsame.mono (by decide) (by decide)⟩
  · show Steps p.tables e below (s₁.setTop (mkF m 0 #[.val (.ref a1)] [])) _
    refine XS.aloadN X0.here hx rfl (hb hby d12_0) rfl rfl ?_
    show Steps p.tables e below (s₁.setTop (mkF m 1 #[.val (.ref a1)] [(.ref a1)])) _
    refine st2 _ ?_
    show Steps p.tables e below (T2.setTop (mkF m 4 #[.val (.ref a1)] [])) _
    exact X2.returnOut hx Bd.returns (hb hby d12_4) hr
  · show QR (none) h0 n0 _ T2.heap _
    rw [e2]
    exact ⟨rfl, N0, rfl⟩
theorem d14_0 : decode prog_8_method_3_code 0 = .ok (.aload_n 0, 1) := by decide +kernel
theorem d14_1 : decode prog_8_method_3_code 1 = .ok (.getfield 35, 3) := by decide +kernel
theorem d14_4 : decode prog_8_method_3_code 4 = .ok (.bipush 18, 2) := by decide +kernel
theorem d14_6 : decode prog_8_method_3_code 6 = .ok (.if_icmp .gt 7, 3) := by decide +kernel
theorem d14_13 : decode prog_8_method_3_code 13 = .ok (.iconst 0, 1) := by decide +kernel
theorem d14_14 : decode prog_8_method_3_code 14 = .ok (.ireturn, 1) := by decide +kernel
theorem pn_14 : plainName "com/example/bandmark/bandmark/PlainDecimal" = true := by first | (simp [plainName, overriddenIn]; done) | decide +kernel
theorem ef_14 (m : MethodId) (x0 : Addr) : entryFrame m #[(.ref x0)] 1 = mkF m 0 #[.val (.ref x0)] [] := by first | (simp [entryFrame, mkF, argsToLocals, Value.category]; done) | rfl
set_option maxRecDepth 65536 in
set_option maxHeartbeats 40000000 in
theorem r14t (l : Launch) (Z : State) (a0 : Array Value) (hw : ∀ d ∈ tables_1, d.before a0 Z = true) (ws : List Jvm.Cond) (a1 : Addr) (w2 : Int32) (h0 : Heap) (n0 : Nat) (Z0 : n0 ≤ h0.size) (F_digits_a1 : Fld Z h0 a1 "com/example/bandmark/bandmark/PlainDecimal" "digits" "I" (.int w2)) (hc6 : (18 : Int32) < w2) :
    MetFree l (⟨"com/example/bandmark/bandmark/PlainDecimal", "isCompact", "()Z"⟩ : MethodName) (head1 (Jvm.Cond.code (⟨"com/example/bandmark/bandmark/PlainDecimal", "isCompact", "()Z"⟩ : MethodName) prog_8_method_3_code 1 (some .boolean) :: ws) ({ frames := 0, cells := 0, slots := 0, locals := 0 } : Room)) (fun a U => a = #[(.ref a1)] ∧ Z.Warmed39 U.vm ∧ U.heap = h0) (fun _ _ _ _ _ => True) (fun _ U o U' => ∃ v L, o = .returned v ∧ QR (some (.int (0 : Int32))) h0 n0 v U'.heap L ∧ FrameEnd U o U' L ({ frames := 0, cells := 0, slots := 0, locals := 0 } : Room).cells ({ frames := 0, cells := 0, slots := 0, locals := 0 } : Room).slots) := by
  refine MetFree.of_bodySF (plainFor_of_name pn_14) hisR ?_
  intro p e s m args below meth c s₁ Bd hml0 hP hK
  obtain ⟨rfl, hZ, hh⟩ := hP
  have hx := Bd.exec
  have hby := Bd.bytes
  have hml : c.maxLocals = 1 := hml0
  have hown : s.vm.findClass "com/example/bandmark/bandmark/PlainDecimal" = some m.cls := findClass_of_methodNamed Bd.named
  have hnm := (name_of_methodNamed Bd.named Bd.method).1
  have X0 : Stand p l e ({ frames := 0, cells := 0, slots := 0, locals := 0 } : Room) s m #[(.ref a1)] below meth c s₁ [] 0 0 := Stand.of_body Bd
  have e0 : s₁.heap = h0 := by rw [← hh, Bd.state]; rfl
  have N0 := Fr.nil n0
  have pre0 : ∀ t, Steps p.tables e below (s₁.setTop (mkF m 0 #[.val (.ref a1)] [])) t → Steps p.tables e below (s₁.setTop (entryFrame m #[(.ref a1)] 1)) t := fun t k => castTop (ef_14 m a1) k
  obtain ⟨T3, X3, e3, st3⟩ := getF X0 hx hZ hown (host := "") (Or.inl (hw _ (List.mem_of_getElem? (i := 68) rfl))) Via.refl e0 F_digits_a1 (g := (mkF m 1 #[.val (.ref a1)] [(.ref a1)])) rfl rfl (hb hby d14_1)
  obtain ⟨fs, hr, hrun, hended, hW, hsame⟩ := X3.leave (v := some (.int (0 : Int32))) (fun h => by rw [Bd.returns] at h; cases h)
  refine ⟨_, _, pre0 _ ?_, hrun, hended, _, _, rfl, ?_, ⟨_, rfl⟩, hW, hsame.mono (by decide) (by decide)⟩
  · show Steps p.tables e below (s₁.setTop (mkF m 0 #[.val (.ref a1)] [])) _
    refine XS.aloadN X0.here hx rfl (hb hby d14_0) rfl rfl ?_
    show Steps p.tables e below (s₁.setTop (mkF m 1 #[.val (.ref a1)] [(.ref a1)])) _
    refine st3 _ ?_
    show Steps p.tables e below (T3.setTop (mkF m 4 #[.val (.ref a1)] [(.int w2)])) _
    refine XS.bipush X3.here hx rfl (hb hby d14_4) ?_
    show Steps p.tables e below (T3.setTop (mkF m 6 #[.val (.ref a1)] [(.int (18 : Int32)), (.int w2)])) _
    refine XS.icmpYes X3.here hx rfl (pc0 := 6) (pc' := 13) rfl (hb hby d14_6) rfl (tlt hc6).2.2.1 (by decide) (by decide) ?_
    show Steps p.tables e below (T3.setTop (mkF m 13 #[.val (.ref a1)] [])) _
    refine XS.iconst X3.here hx rfl (hb hby d14_13) ?_
    show Steps p.tables e below (T3.setTop (mkF m 14 #[.val (.ref a1)] [(.int (0 : Int32))])) _
    exact retN X3 hx (t := .boolean) Bd.returns (by simp) (hb hby d14_14) hr
  · show QR (some (.int (0 : Int32))) h0 n0 _ T3.heap _
    rw [e3]
    exact ⟨rfl, N0, rfl⟩
theorem d14_9 : decode prog_8_method_3_code 9 = .ok (.iconst 1, 1) := by decide +kernel
theorem d14_10 : decode prog_8_method_3_code 10 = .ok (.goto 4, 3) := by decide +kernel
set_option maxRecDepth 65536 in
set_option maxHeartbeats 40000000 in
theorem r14f (l : Launch) (Z : State) (a0 : Array Value) (hw : ∀ d ∈ tables_1, d.before a0 Z = true) (ws : List Jvm.Cond) (a1 : Addr) (w2 : Int32) (h0 : Heap) (n0 : Nat) (Z0 : n0 ≤ h0.size) (F_digits_a1 : Fld Z h0 a1 "com/example/bandmark/bandmark/PlainDecimal" "digits" "I" (.int w2)) (hc6 : ¬ ((18 : Int32) < w2)) :
    MetFree l (⟨"com/example/bandmark/bandmark/PlainDecimal", "isCompact", "()Z"⟩ : MethodName) (head1 (Jvm.Cond.code (⟨"com/example/bandmark/bandmark/PlainDecimal", "isCompact", "()Z"⟩ : MethodName) prog_8_method_3_code 1 (some .boolean) :: ws) ({ frames := 0, cells := 0, slots := 0, locals := 0 } : Room)) (fun a U => a = #[(.ref a1)] ∧ Z.Warmed39 U.vm ∧ U.heap = h0) (fun _ _ _ _ _ => True) (fun _ U o U' => ∃ v L, o = .returned v ∧ QR (some (.int (1 : Int32))) h0 n0 v U'.heap L ∧ FrameEnd U o U' L ({ frames := 0, cells := 0, slots := 0, locals := 0 } : Room).cells ({ frames := 0, cells := 0, slots := 0, locals := 0 } : Room).slots) := by
  refine MetFree.of_bodySF (plainFor_of_name pn_14) hisR ?_
  intro p e s m args below meth c s₁ Bd hml0 hP hK
  obtain ⟨rfl, hZ, hh⟩ := hP
  have hx := Bd.exec
  have hby := Bd.bytes
  have hml : c.maxLocals = 1 := hml0
  have hown : s.vm.findClass "com/example/bandmark/bandmark/PlainDecimal" = some m.cls := findClass_of_methodNamed Bd.named
  have hnm := (name_of_methodNamed Bd.named Bd.method).1
  have X0 : Stand p l e ({ frames := 0, cells := 0, slots := 0, locals := 0 } : Room) s m #[(.ref a1)] below meth c s₁ [] 0 0 := Stand.of_body Bd
  have e0 : s₁.heap = h0 := by rw [← hh, Bd.state]; rfl
  have N0 := Fr.nil n0
  have pre0 : ∀ t, Steps p.tables e below (s₁.setTop (mkF m 0 #[.val (.ref a1)] [])) t → Steps p.tables e below (s₁.setTop (entryFrame m #[(.ref a1)] 1)) t := fun t k => castTop (ef_14 m a1) k
  obtain ⟨T3, X3, e3, st3⟩ := getF X0 hx hZ hown (host := "") (Or.inl (hw _ (List.mem_of_getElem? (i := 68) rfl))) Via.refl e0 F_digits_a1 (g := (mkF m 1 #[.val (.ref a1)] [(.ref a1)])) rfl rfl (hb hby d14_1)
  obtain ⟨fs, hr, hrun, hended, hW, hsame⟩ := X3.leave (v := some (.int (1 : Int32))) (fun h => by rw [Bd.returns] at h; cases h)
  refine ⟨_, _, pre0 _ ?_, hrun, hended, _, _, rfl, ?_, ⟨_, rfl⟩, hW, hsame.mono (by decide) (by decide)⟩
  · show Steps p.tables e below (s₁.setTop (mkF m 0 #[.val (.ref a1)] [])) _
    refine XS.aloadN X0.here hx rfl (hb hby d14_0) rfl rfl ?_
    show Steps p.tables e below (s₁.setTop (mkF m 1 #[.val (.ref a1)] [(.ref a1)])) _
    refine st3 _ ?_
    show Steps p.tables e below (T3.setTop (mkF m 4 #[.val (.ref a1)] [(.int w2)])) _
    refine XS.bipush X3.here hx rfl (hb hby d14_4) ?_
    show Steps p.tables e below (T3.setTop (mkF m 6 #[.val (.ref a1)] [(.int (18 : Int32)), (.int w2)])) _
    refine XS.icmpNo X3.here hx rfl (hb hby d14_6) rfl (flt hc6).2.2.1 ?_
    show Steps p.tables e below (T3.setTop (mkF m 9 #[.val (.ref a1)] [])) _
    refine XS.iconst X3.here hx rfl (hb hby d14_9) ?_
    show Steps p.tables e below (T3.setTop (mkF m 10 #[.val (.ref a1)] [(.int (1 : Int32))])) _
    refine XS.goto X3.here hx rfl (pc0 := 10) (pc' := 14) rfl (hb hby d14_10) (by decide) (by decide) ?_
    show Steps p.tables e below (T3.setTop (mkF m 14 #[.val (.ref a1)] [(.int (1 : Int32))])) _
    exact retN X3 hx (t := .boolean) Bd.returns (by simp) (hb hby d14_14) hr
  · show QR (some (.int (1 : Int32))) h0 n0 _ T3.heap _
    rw [e3]
    exact ⟨rfl, N0, rfl⟩
theorem d9_0 : decode jdk_43_method_3_code 0 = .ok (.iload_n 0, 1) := by decide +kernel
theorem d9_1 : decode jdk_43_method_3_code 1 = .ok (.sipush 255, 3) := by decide +kernel
theorem d9_4 : decode jdk_43_method_3_code 4 = .ok (.if_icmp .gt 7, 3) := by decide +kernel
theorem d9_7 : decode jdk_43_method_3_code 7 = .ok (.iconst 1, 1) := by decide +kernel
theorem d9_8 : decode jdk_43_method_3_code 8 = .ok (.goto 4, 3) := by decide +kernel
theorem d9_12 : decode jdk_43_method_3_code 12 = .ok (.ireturn, 1) := by decide +kernel
theorem pn_9 : plainName "java/lang/StringLatin1" = true := by first | (simp [plainName, overriddenIn]; done) | decide +kernel
theorem ef_9 (m : MethodId) (x0 : Int32) : entryFrame m #[(.int x0)] 1 = mkF m 0 #[.val (.int x0)] [] := by first | (simp [entryFrame, mkF, argsToLocals, Value.category]; done) | rfl
set_option maxRecDepth 65536 in
set_option maxHeartbeats 40000000 in
theorem r9 (l : Launch) (Z : State) (a0 : Array Value) (hw : ∀ d ∈ tables_1, d.before a0 Z = true) (ws : List Jvm.Cond) (p1 : Int32) (h0 : Heap) (n0 : Nat) (Z0 : n0 ≤ h0.size) (hc4 : ¬ ((255 : Int32) < p1)) :
    MetFree l (⟨"java/lang/StringLatin1", "canEncode", "(C)Z"⟩ : MethodName) (head1 (Jvm.Cond.code (⟨"java/lang/StringLatin1", "canEncode", "(C)Z"⟩ : MethodName) jdk_43_method_3_code 1 (some .boolean) :: ws) ({ frames := 0, cells := 0, slots := 0, locals := 0 } : Room)) (fun a U => a = #[(.int p1)] ∧ Z.Warmed39 U.vm ∧ U.heap = h0) (fun _ _ _ _ _ => True) (fun _ U o U' => ∃ v L, o = .returned v ∧ QR (some (.int (1 : Int32))) h0 n0 v U'.heap L ∧ FrameEnd U o U' L ({ frames := 0, cells := 0, slots := 0, locals := 0 } : Room).cells ({ frames := 0, cells := 0, slots := 0, locals := 0 } : Room).slots) := by
  refine MetFree.of_bodySF (plainFor_of_name pn_9) hisR ?_
  intro p e s m args below meth c s₁ Bd hml0 hP hK
  obtain ⟨rfl, hZ, hh⟩ := hP
  have hx := Bd.exec
  have hby := Bd.bytes
  have hml : c.maxLocals = 1 := hml0
  have hown : s.vm.findClass "java/lang/StringLatin1" = some m.cls := findClass_of_methodNamed Bd.named
  have hnm := (name_of_methodNamed Bd.named Bd.method).1
  have X0 : Stand p l e ({ frames := 0, cells := 0, slots := 0, locals := 0 } : Room) s m #[(.int p1)] below meth c s₁ [] 0 0 := Stand.of_body Bd
  have e0 : s₁.heap = h0 := by rw [← hh, Bd.state]; rfl
  have N0 := Fr.nil n0
  have pre0 : ∀ t, Steps p.tables e below (s₁.setTop (mkF m 0 #[.val (.int p1)] [])) t → Steps p.tables e below (s₁.setTop (entryFrame m #[(.int p1)] 1)) t := fun t k => castTop (ef_9 m p1) k
  obtain ⟨fs, hr, hrun, hended, hW, hsame⟩ := X0.leave (v := some (.int (1 : Int32))) (fun h => by rw [Bd.returns] at h; cases h)
  refine ⟨_, _, pre0 _ ?_, hrun, hended, _, _, rfl, ?_, ⟨_, rfl⟩, hW, hsame.mono (by decide) (by decide)⟩
  · show Steps p.tables e below (s₁.setTop (mkF m 0 #[.val (.int p1)] [])) _
    refine XS.iloadN X0.here hx rfl (hb hby d9_0) rfl ?_
    show Steps p.tables e below (s₁.setTop (mkF m 1 #[.val (.int p1)] [(.int p1)])) _
    refine XS.sipush X0.here hx rfl (hb hby d9_1) ?_
    show Steps p.tables e below (s₁.setTop (mkF m 4 #[.val (.int p1)] [(.int (255 : Int32)), (.int p1)])) _
    refine XS.icmpNo X0.here hx rfl (hb hby d9_4) rfl (flt hc4).2.2.1 ?_
    show Steps p.tables e below (s₁.setTop (mkF m 7 #[.val (.int p1)] [])) _
    refine XS.iconst X0.here hx rfl (hb hby d9_7) ?_
    show Steps p.tables e below (s₁.setTop (mkF m 8 #[.val (.int p1)] [(.int (1 : Int32))])) _
    refine XS.goto X0.here hx rfl (pc0 := 8) (pc' := 12) rfl (hb hby d9_8) (by decide) (by decide) ?_
    show Steps p.tables e below (s₁.setTop (mkF m 12 #[.val (.int p1)] [(.int (1 : Int32))])) _
    exact retN X0 hx (t := .boolean) Bd.returns (by simp) (hb hby d9_12) hr
  · show QR (some (.int (1 : Int32))) h0 n0 _ s₁.heap _
    rw [e0]
    exact ⟨rfl, N0, rfl⟩
theorem d10_0 : decode jdk_43_method_46_code 0 = .ok (.iconst 1, 1) := by decide +kernel
theorem d10_1 : decode jdk_43_method_46_code 1 = .ok (.newarray .byte, 2) := by decide +kernel
theorem d10_3 : decode jdk_43_method_46_code 3 = .ok (.dup, 1) := by decide +kernel
theorem d10_4 : decode jdk_43_method_46_code 4 = .ok (.iconst 0, 1) := by decide +kernel
theorem d10_5 : decode jdk_43_method_46_code 5 = .ok (.iload_n 0, 1) := by decide +kernel
theorem d10_6 : decode jdk_43_method_46_code 6 = .ok (.i2b, 1) := by decide +kernel
theorem d10_7 : decode jdk_43_method_46_code 7 = .ok (.bastore, 1) := by decide +kernel
theorem d10_8 : decode jdk_43_method_46_code 8 = .ok (.areturn, 1) := by decide +kernel
theorem pn_10 : plainName "java/lang/StringLatin1" = true := by first | (simp [plainName, overriddenIn]; done) | decide +kernel
theorem ef_10 (m : MethodId) (x0 : Int32) : entryFrame m #[(.int x0)] 1 = mkF m 0 #[.val (.int x0)] [] := by first | (simp [entryFrame, mkF, argsToLocals, Value.category]; done) | rfl
def Q10 (Z : State) (p1 : Int32) (h0 : Heap) (n0 : Nat) (v : Option Value) (h : Heap) (L : List Loc) : Prop := v = some (.ref h0.size) ∧ Fr n0 L ∧ Keep h0 h [] ∧ ∃ k, Arv Z h h0.size k .byte (1 : Int32) [.int (nar .byte (p1.toInt8.toInt32))] (.int (0 : Int32))
set_option maxRecDepth 65536 in
set_option maxHeartbeats 40000000 in
theorem r10 (l : Launch) (Z : State) (a0 : Array Value) (hw : ∀ d ∈ tables_1, d.before a0 Z = true) (ws : List Jvm.Cond) (p1 : Int32) (h0 : Heap) (n0 : Nat) (Z0 : n0 ≤ h0.size) :
    MetFree l (⟨"java/lang/StringLatin1", "toBytes", "(C)[B"⟩ : MethodName) (head1 (Jvm.Cond.code (⟨"java/lang/StringLatin1", "toBytes", "(C)[B"⟩ : MethodName) jdk_43_method_46_code 1 (some (.array .byte)) :: ws) ({ frames := 0, cells := 1, slots := 1, locals := 0 } : Room)) (fun a U => a = #[(.int p1)] ∧ Z.Warmed39 U.vm ∧ U.heap = h0) (fun _ _ _ _ _ => True) (fun _ U o U' => ∃ v L, o = .returned v ∧ Q10 Z p1 h0 n0 v U'.heap L ∧ FrameEnd U o U' L ({ frames := 0, cells := 1, slots := 1, locals := 0 } : Room).cells ({ frames := 0, cells := 1, slots := 1, locals := 0 } : Room).slots) := by
  refine MetFree.of_bodySF (plainFor_of_name pn_10) hisR ?_
  intro p e s m args below meth c s₁ Bd hml0 hP hK
  obtain ⟨rfl, hZ, hh⟩ := hP
  have hx := Bd.exec
  have hby := Bd.bytes
  have hml : c.maxLocals = 1 := hml0
  have hown : s.vm.findClass "java/lang/StringLatin1" = some m.cls := findClass_of_methodNamed Bd.named
  have hnm := (name_of_methodNamed Bd.named Bd.method).1
  have X0 : Stand p l e ({ frames := 0, cells := 1, slots := 1, locals := 0 } : Room) s m #[(.int p1)] below meth c s₁ [] 0 0 := Stand.of_body Bd
  have e0 : s₁.heap = h0 := by rw [← hh, Bd.state]; rfl
  have N0 := Fr.nil n0
  have pre0 : ∀ t, Steps p.tables e below (s₁.setTop (mkF m 0 #[.val (.int p1)] [])) t → Steps p.tables e below (s₁.setTop (entryFrame m #[(.int p1)] 1)) t := fun t k => castTop (ef_10 m p1) k
  obtain ⟨T2, h2, k2, X2, e2, E2, A2, st2⟩ := newP X0 hx hZ (hw _ (List.mem_of_getElem? (i := 25) rfl)) e0 (g := (mkF m 1 #[.val (.int p1)] [(.int (1 : Int32))])) rfl (hb hby d10_1) rfl (by decide) (cap := 1) (by decide) (by decide) (by decide) (by decide)
  obtain ⟨b2, g2⟩ : ∃ z, z = h0.size := ⟨_, rfl⟩
  rw [← g2] at A2 st2
  have V_b2 : Arv Z h2 b2 k2 .byte (1 : Int32) [(.int (0 : Int32))] (.int (0 : Int32)) := (Arv.new A2 (by decide)).pad (pad_rep [] (.int (0 : Int32)) 1)
  have g_b2 : n0 ≤ b2 := Nat.le_trans Z0 (Nat.le_of_eq g2.symm)
  have sz_b2 : h0.size ≤ b2 := (Nat.le_trans (Keep.refl h0 []).1 (Nat.le_of_eq g2.symm))
  have K2 : Keep h0 h2 [] := (Keep.refl h0 []).ext E2
  obtain ⟨cl_b2_7, Ar_b2, q_b2, S_b2, N_b2, H_b2, G_b2⟩ := V_b2
  have hin7 : ¬ ((0 : Int32) < 0 ∨ cl_b2_7.slots.size ≤ ((0 : Int32)).toNatClampNeg) := inb_of S_b2 ⟨by decide, by decide⟩
  obtain ⟨T3, h3, X3, e3, W3, st3⟩ := stB X2 hx hZ e2 Ar_b2 (j := (0 : Int32)) hin7 (g := (mkF m 7 #[.val (.int p1)] [(.int (p1.toInt8.toInt32)), (.int (0 : Int32)), (.ref b2), (.ref b2)])) rfl rfl (hb hby d10_7)
  have V_b2_3 := Arv.set Ar_b2 q_b2 S_b2 N_b2 H_b2 G_b2 (fits_nar_byte _) W3 0 rfl (Nat.le_of_ble_eq_true rfl)
  have K3 : Keep h0 h3 [] := K2.wr W3 (Or.inr sz_b2)
  have N3 := Fr.snoc X3 N0 g_b2
  obtain ⟨fs, hr, hrun, hended, hW, hsame⟩ := X3.leave (v := some (.ref b2)) (fun h => by rw [Bd.returns] at h; cases h)
  refine ⟨_, _, pre0 _ ?_, hrun, hended, _, _, rfl, ?_, ⟨_, rfl⟩, hW, hsame.mono (by decide) (by decide)⟩
  · show Steps p.tables e below (s₁.setTop (mkF m 0 #[.val (.int p1)] [])) _
    refine XS.iconst X0.here hx rfl (hb hby d10_0) ?_
    show Steps p.tables e below (s₁.setTop (mkF m 1 #[.val (.int p1)] [(.int (1 : Int32))])) _
    refine st2 _ ?_
    show Steps p.tables e below (T2.setTop (mkF m 3 #[.val (.int p1)] [(.ref b2)])) _
    refine XS.dup X2.here hx rfl (hb hby d10_3) rfl rfl ?_
    show Steps p.tables e below (T2.setTop (mkF m 4 #[.val (.int p1)] [(.ref b2), (.ref b2)])) _
    refine XS.iconst X2.here hx rfl (hb hby d10_4) ?_
    show Steps p.tables e below (T2.setTop (mkF m 5 #[.val (.int p1)] [(.int (0 : Int32)), (.ref b2), (.ref b2)])) _
    refine XS.iloadN X2.here hx rfl (hb hby d10_5) rfl ?_
    show Steps p.tables e below (T2.setTop (mkF m 6 #[.val (.int p1)] [(.int p1), (.int (0 : Int32)), (.ref b2), (.ref b2)])) _
    refine XS.i2b X2.here hx rfl (hb hby d10_6) rfl ?_
    show Steps p.tables e below (T2.setTop (mkF m 7 #[.val (.int p1)] [(.int (p1.toInt8.toInt32)), (.int (0 : Int32)), (.ref b2), (.ref b2)])) _
    refine st3 _ ?_
    show Steps p.tables e below (T3.setTop (mkF m 8 #[.val (.int p1)] [(.ref b2)])) _
    jvm_step X3.here [X3.here.top, hx, (hb hby d10_8), X3.method', Bd.returns, Value.isRef, FieldType.isReference]
    first | (intro acts; rw [hr _ acts rfl rfl rfl]) | rw [hr _ _ rfl rfl rfl]
    exact Steps.refl _
  · show Q10 Z p1 h0 n0 _ T3.heap _
    rw [e3]
    subst g2
    exact ⟨rfl, N3, K3, k2, V_b2_3⟩
theorem d11_0 : decode jdk_42_method_151_code 0 = .ok (.aload_n 0, 1) := by decide +kernel
theorem d11_1 : decode jdk_42_method_151_code 1 = .ok (.invokespecial 1, 3) := by decide +kernel
theorem d11_4 : decode jdk_42_method_151_code 4 = .ok (.aload_n 0, 1) := by decide +kernel
theorem d11_5 : decode jdk_42_method_151_code 5 = .ok (.aload_n 1, 1) := by decide +kernel
theorem d11_6 : decode jdk_42_method_151_code 6 = .ok (.putfield 9, 3) := by decide +kernel
theorem d11_9 : decode jdk_42_method_151_code 9 = .ok (.aload_n 0, 1) := by decide +kernel
theorem d11_10 : decode jdk_42_method_151_code 10 = .ok (.iload_n 2, 1) := by decide +kernel
theorem d11_11 : decode jdk_42_method_151_code 11 = .ok (.putfield 15, 3) := by decide +kernel
theorem d11_14 : decode jdk_42_method_151_code 14 = .ok (.return_, 1) := by decide +kernel
theorem pn_11 : plainName "java/lang/String" = true := by first | (simp [plainName, overriddenIn]; done) | decide +kernel
theorem ef_11 (m : MethodId) (x0 : Addr) (x1 : Addr) (x2 : Int32) : entryFrame m #[(.ref x0), (.ref x1), (.int x2)] 3 = mkF m 0 #[.val (.ref x0), .val (.ref x1), .val (.int x2)] [] := by first | (simp [entryFrame, mkF, argsToLocals, Value.category]; done) | rfl
def Q11 (Z : State) (a1 : Addr) (a2 : Addr) (p3 : Int32) (u_value_a1 : Value) (u_coder_a1 : Value) (h0 : Heap) (n0 : Nat) (v : Option Value) (h : Heap) (L : List Loc) : Prop := v = none ∧ Fr n0 L ∧ Keep h0 h [a1] ∧ Exa Z h a1 "java/lang/String" ∧ Fld Z h a1 "java/lang/String" "value" "[B" (.ref a2) ∧ Fld Z h a1 "java/lang/String" "coder" "B" (.int (nar .byte p3))
set_option maxRecDepth 65536 in
set_option maxHeartbeats 40000000 in
theorem r11 (l : Launch) (Z : State) (a0 : Array Value) (hw : ∀ d ∈ tables_1, d.before a0 Z = true) (ws : List Jvm.Cond) (a1 : Addr) (a2 : Addr) (p3 : Int32) (u_value_a1 : Value) (u_coder_a1 : Value) (h0 : Heap) (n0 : Nat) (Z0 : n0 ≤ h0.size) (E_a1 : Exa Z h0 a1 "java/lang/String") (F_value_a1 : Fld Z h0 a1 "java/lang/String" "value" "[B" u_value_a1) (g_a1 : n0 ≤ a1) (F_coder_a1 : Fld Z h0 a1 "java/lang/String" "coder" "B" u_coder_a1) :
    MetFree l (⟨"java/lang/String", "<init>", "([BB)V"⟩ : MethodName) (head1 (Jvm.Cond.code (⟨"java/lang/String", "<init>", "([BB)V"⟩ : MethodName) jdk_42_method_151_code 3 none :: ws) ({ frames := 1, cells := 0, slots := 0, locals := 12 } : Room)) (fun a U => a = #[(.ref a1), (.ref a2), (.int p3)] ∧ Z.Warmed39 U.vm ∧ U.heap = h0) (fun _ _ _ _ _ => True) (fun _ U o U' => ∃ v L, o = .returned v ∧ Q11 Z a1 a2 p3 u_value_a1 u_coder_a1 h0 n0 v U'.heap L ∧ FrameEnd U o U' L ({ frames := 1, cells := 0, slots := 0, locals := 12 } : Room).cells ({ frames := 1, cells := 0, slots := 0, locals := 12 } : Room).slots) := by
  refine MetFree.of_bodySF (plainFor_of_name pn_11) hisR ?_
  intro p e s m args below meth c s₁ Bd hml0 hP hK
  obtain ⟨rfl, hZ, hh⟩ := hP
  have hx := Bd.exec
  have hby := Bd.bytes
  have hml : c.maxLocals = 3 := hml0
  have hown : s.vm.findClass "java/lang/String" = some m.cls := findClass_of_methodNamed Bd.named
  have hnm := (name_of_methodNamed Bd.named Bd.method).1
  have X0 : Stand p l e ({ frames := 1, cells := 0, slots := 0, locals := 12 } : Room) s m #[(.ref a1), (.ref a2), (.int p3)] below meth c s₁ [] 0 0 := Stand.of_body Bd
  have e0 : s₁.heap = h0 := by rw [← hh, Bd.state]; rfl
  have N0 := Fr.nil n0
  have pre0 : ∀ t, Steps p.tables e below (s₁.setTop (mkF m 0 #[.val (.ref a1), .val (.ref a2), .val (.int p3)] [])) t → Steps p.tables e below (s₁.setTop (entryFrame m #[(.ref a1), (.ref a2), (.int p3)] 3)) t := fun t k => castTop (ef_11 m a1 a2 p3) k
  obtain ⟨T4, X4, e4, st4⟩ := initO X0 hx hZ hown (hw _ (List.mem_of_getElem? (i := 17) rfl)) (hw _ (List.mem_of_getElem? (i := 18) rfl)) (hw _ (List.mem_of_getElem? (i := 19) rfl)) e0 (g := (mkF m 1 #[.val (.ref a1), .val (.ref a2), .val (.int p3)] [(.ref a1)])) rfl (by rw [hml]; rfl) rfl (hb hby d11_1) (by decide) (W := 0) (by show 2 * 0 + _ ≤ _; exact Nat.le_of_eq rfl) (by decide)
  obtain ⟨T5, h5, X5, e5, W5, st5⟩ := putF X4 hx hZ hown (host := "") (Or.inl (hw _ (List.mem_of_getElem? (i := 34) rfl))) Via.refl e4 F_value_a1 E_a1 (Or.inr ⟨(hw _ (List.mem_of_getElem? (i := 35) rfl)), rfl, hnm⟩) (hw _ (List.mem_of_getElem? (i := 8) rfl)) (ty := (.array .byte)) (by decide) rfl rfl (g := (mkF m 6 #[.val (.ref a1), .val (.ref a2), .val (.int p3)] [(.ref a2), (.ref a1)])) rfl rfl (hb hby d11_6)
  have Fw5 := F_value_a1.same W5
  have K5 : Keep h0 h5 [a1] := (Keep.refl h0 [a1]).wr W5 (Or.inl (List.mem_of_getElem? (i := 0) rfl))
  have N5 := Fr.snoc X5 N0 g_a1
  obtain ⟨T6, h6, X6, e6, W6, st6⟩ := putFN X5 hx hZ hown (hw _ (List.mem_of_getElem? (i := 32) rfl)) Via.refl e5 (F_coder_a1.other W5 (Or.inr (slot_ne (Or.inr (hw _ (List.mem_of_getElem? (i := 33) rfl))) (Or.inr (hw _ (List.mem_of_getElem? (i := 35) rfl))) (by decide) (t := .byte) (t' := (.array .byte)) (by decide) (by decide)))) (E_a1.wr W5) (Or.inr ⟨(hw _ (List.mem_of_getElem? (i := 33) rfl)), rfl, hnm⟩) (hw _ (List.mem_of_getElem? (i := 8) rfl)) (ty := .byte) (v' := (.int (nar .byte p3))) (by decide) rfl (fits_nar_byte _) (g := (mkF m 11 #[.val (.ref a1), .val (.ref a2), .val (.int p3)] [(.int p3), (.ref a1)])) rfl rfl (hb hby d11_11)
  have Fw6 := (F_coder_a1.other W5 (Or.inr (slot_ne (Or.inr (hw _ (List.mem_of_getElem? (i := 33) rfl))) (Or.inr (hw _ (List.mem_of_getElem? (i := 35) rfl))) (by decide) (t := .byte) (t' := (.array .byte)) (by decide) (by decide)))).same W6
  have K6 : Keep h0 h6 [a1] := K5.wr W6 (Or.inl (List.mem_of_getElem? (i := 0) rfl))
  have N6 := Fr.snoc X6 N5 g_a1
  obtain ⟨fs, hr, hrun, hended, hW, hsame⟩ := X6.leave (v := none) (fun _ => rfl)
  refine ⟨_, _, pre0 _ ?_, hrun, hended, _, _, rfl, ?_, ⟨_, rfl⟩, hW, hsame.mono (by decide) (by decide)⟩
  · show Steps p.tables e below (s₁.setTop (mkF m 0 #[.val (.ref a1), .val (.ref a2), .val (.int p3)] [])) _
    refine XS.aloadN X0.here hx rfl (hb hby d11_0) rfl rfl ?_
    show Steps p.tables e below (s₁.setTop (mkF m 1 #[.val (.ref a1), .val (.ref a2), .val (.int p3)] [(.ref a1)])) _
    refine st4 _ ?_
    show Steps p.tables e below (T4.setTop (mkF m 4 #[.val (.ref a1), .val (.ref a2), .val (.int p3)] [])) _
    refine XS.aloadN X4.here hx rfl (hb hby d11_4) rfl rfl ?_
    show Steps p.tables e below (T4.setTop (mkF m 5 #[.val (.ref a1), .val (.ref a2), .val (.int p3)] [(.ref a1)])) _
    refine XS.aloadN X4.here hx rfl (hb hby d11_5) rfl rfl ?_
    show Steps p.tables e below (T4.setTop (mkF m 6 #[.val (.ref a1), .val (.ref a2), .val (.int p3)] [(.ref a2), (.ref a1)])) _
    refine st5 _ ?_
    show Steps p.tables e below (T5.setTop (mkF m 9 #[.val (.ref a1), .val (.ref a2), .val (.int p3)] [])) _
    refine XS.aloadN X5.here hx rfl (hb hby d11_9) rfl rfl ?_
    show Steps p.tables e below (T5.setTop (mkF m 10 #[.val (.ref a1), .val (.ref a2), .val (.int p3)] [(.ref a1)])) _
    refine XS.iloadN X5.here hx rfl (hb hby d11_10) rfl ?_
    show Steps p.tables e below (T5.setTop (mkF m 11 #[.val (.ref a1), .val (.ref a2), .val (.int p3)] [(.int p3), (.ref a1)])) _
    refine st6 _ ?_
    show Steps p.tables e below (T6.setTop (mkF m 14 #[.val (.ref a1), .val (.ref a2), .val (.int p3)] [])) _
    exact X6.returnOut hx Bd.returns (hb hby d11_14) hr
  · show Q11 Z a1 a2 p3 u_value_a1 u_coder_a1 h0 n0 _ T6.heap _
    rw [e6]
    exact ⟨rfl, N6, K6, ((E_a1.wr W5).wr W6), (Fw5.other W6 (Or.inr (slot_ne (Or.inr (hw _ (List.mem_of_getElem? (i := 35) rfl))) (Or.inr (hw _ (List.mem_of_getElem? (i := 33) rfl))) (by decide) (t := (.array .byte)) (t' := .byte) (by decide) (by decide)))), Fw6⟩
theorem d8_0 : decode jdk_42_method_139_code 0 = .ok (.getstatic 38, 3) := by decide +kernel
theorem d8_3 : decode jdk_42_method_139_code 3 = .ok (.ifCond .eq 23, 3) := by decide +kernel
theorem d8_6 : decode jdk_42_method_139_code 6 = .ok (.iload_n 0, 1) := by decide +kernel
theorem d8_7 : decode jdk_42_method_139_code 7 = .ok (.invokestatic 1015, 3) := by decide +kernel
theorem d8_10 : decode jdk_42_method_139_code 10 = .ok (.ifCond .eq 16, 3) := by decide +kernel
theorem d8_13 : decode jdk_42_method_139_code 13 = .ok (.new 10, 3) := by decide +kernel
theorem d8_16 : decode jdk_42_method_139_code 16 = .ok (.dup, 1) := by decide +kernel
theorem d8_17 : decode jdk_42_method_139_code 17 = .ok (.iload_n 0, 1) := by decide +kernel
theorem d8_18 : decode jdk_42_method_139_code 18 = .ok (.invokestatic 1018, 3) := by decide +kernel
theorem d8_21 : decode jdk_42_method_139_code 21 = .ok (.iconst 0, 1) := by decide +kernel
theorem d8_22 : decode jdk_42_method_139_code 22 = .ok (.invokespecial 209, 3) := by decide +kernel
theorem d8_25 : decode jdk_42_method_139_code 25 = .ok (.areturn, 1) := by decide +kernel
theorem pn_8 : plainName "java/lang/String" = true := by first | (simp [plainName, overriddenIn]; done) | decide +kernel
theorem pd_8_8 : parseMethodDescriptor "(C)Z" = some ⟨[.char], some .boolean⟩ := by decide +kernel
theorem pd_8_9 : parseMethodDescriptor "(C)[B" = some ⟨[.char], some (.array .byte)⟩ := by decide +kernel
theorem pd_8_10 : parseMethodDescriptor "([BB)V" = some ⟨[(.array .byte), .byte], none⟩ := by decide +kernel
theorem ef_8 (m : MethodId) (x0 : Int32) : entryFrame m #[(.int x0)] 1 = mkF m 0 #[.val (.int x0)] [] := by first | (simp [entryFrame, mkF, argsToLocals, Value.category]; done) | rfl
def Q8 (Z : State) (p1 : Int32) (h0 : Heap) (n0 : Nat) (v : Option Value) (h : Heap) (L : List Loc) : Prop := v = some (.ref h0.size) ∧ Fr n0 L ∧ Keep h0 h [] ∧ Exa Z h h0.size "java/lang/String" ∧ Fld Z h h0.size "java/lang/String" "coder" "B" (.int 0) ∧ ∃ (t : Addr) (k : ClassId), Fld Z h h0.size "java/lang/String" "value" "[B" (.ref t) ∧ Arv Z h t k .byte (1 : Int32) [.int (nar .byte (p1.toInt8.toInt32))] (.int (0 : Int32))
set_option maxRecDepth 65536 in
set_option maxHeartbeats 40000000 in
theorem r8 (l : Launch) (Z : State) (a0 : Array Value) (hw : ∀ d ∈ tables_1, d.before a0 Z = true) (ws : List Jvm.Cond) (p1 : Int32) (w2 : Int32) (h0 : Heap) (n0 : Nat) (Z0 : n0 ≤ h0.size) (S_COMPACT_STRINGS : Sta Z h0 "java/lang/String" "COMPACT_STRINGS" "Z" (.int w2)) (hc3 : ¬ (w2 = (0 : Int32))) (hlt : ¬ ((255 : Int32) < p1)) :
    MetFree l (⟨"java/lang/String", "valueOf", "(C)Ljava/lang/String;"⟩ : MethodName) (head1 (Jvm.Cond.code (⟨"java/lang/String", "valueOf", "(C)Ljava/lang/String;"⟩ : MethodName) jdk_42_method_139_code 1 (some (.object "java/lang/String")) :: ws) ({ frames := 2, cells := 2, slots := 5, locals := 27 } : Room)) (fun a U => a = #[(.int p1)] ∧ Z.Warmed39 U.vm ∧ U.heap = h0) (fun _ _ _ _ _ => True) (fun _ U o U' => ∃ v L, o = .returned v ∧ Q8 Z p1 h0 n0 v U'.heap L ∧ FrameEnd U o U' L ({ frames := 2, cells := 2, slots := 5, locals := 27 } : Room).cells ({ frames := 2, cells := 2, slots := 5, locals := 27 } : Room).slots) := by
  refine MetFree.of_bodySF (plainFor_of_name pn_8) hisR ?_
  intro p e s m args below meth c s₁ Bd hml0 hP hK
  obtain ⟨rfl, hZ, hh⟩ := hP
  have hx := Bd.exec
  have hby := Bd.bytes
  have hml : c.maxLocals = 1 := hml0
  have hown : s.vm.findClass "java/lang/String" = some m.cls := findClass_of_methodNamed Bd.named
  have hnm := (name_of_methodNamed Bd.named Bd.method).1
  have X0 : Stand p l e ({ frames := 2, cells := 2, slots := 5, locals := 27 } : Room) s m #[(.int p1)] below meth c s₁ [] 0 0 := Stand.of_body Bd
  have e0 : s₁.heap = h0 := by rw [← hh, Bd.state]; rfl
  have N0 := Fr.nil n0
  have pre0 : ∀ t, Steps p.tables e below (s₁.setTop (mkF m 0 #[.val (.int p1)] [])) t → Steps p.tables e below (s₁.setTop (entryFrame m #[(.int p1)] 1)) t := fun t k => castTop (ef_8 m p1) k
  obtain ⟨T3, X3, e3, st3⟩ := getS2 X0 hx hZ hown (host := "") (Or.inl (hw _ (List.mem_of_getElem? (i := 20) rfl))) Via.refl e0 S_COMPACT_STRINGS (g := (mkF m 0 #[.val (.int p1)] [])) rfl (hb hby d8_0)
  obtain ⟨_, _, ⟨T4, L4, k4, n4⟩, -, X4, ⟨Lc4, hQ4, l4, y4, z4⟩, st4⟩ := Jvm.LawKit.callS X3 hx (y := (⟨"java/lang/StringLatin1", "canEncode", "(C)Z"⟩ : MethodName)) hown (mvT hZ (hw _ (List.mem_of_getElem? (i := 40) rfl))) (mvT hZ (hw _ (List.mem_of_getElem? (i := 41) rfl))) (mvT hZ (hw _ (List.mem_of_getElem? (i := 42) rfl))) (mvT hZ (hw _ (List.mem_of_getElem? (i := 43) rfl))) (by decide) (backOf (W := 0) (r9 l Z a0 hw [] p1 h0 n0 Z0 hlt) hZ (hw _ (List.mem_of_getElem? (i := 43) rfl)) (hw _ (List.mem_of_getElem? (i := 42) rfl)) (by decide) (by decide)) (g := (mkF m 7 #[.val (.int p1)] [(.int p1)])) rfl (by rw [hml]; rfl) (argsL := [(.int p1)]) (rest := []) (lenOf pd_8_8 rfl) rfl (by show 2 * 0 + _ ≤ _; exact Nat.le_of_eq rfl) (hb hby d8_7) (fun _ _ => ⟨rfl, e3, (by decide : 0 + 0 ≤ _), (by decide : 0 + 0 ≤ _)⟩)
  dsimp only [Pt.U, Pt.locs, Pt.cells, Pt.slots] at X4 l4 y4 z4 st4 hQ4
  subst l4 y4 z4
  obtain ⟨rfl, N4q, e4⟩ := hQ4
  have N4 := Fr.app N0 N4q
  obtain ⟨T5, h5, X5, e5, E5, A5, D5, -, st5⟩ := newO X4 hx hZ hown (hw _ (List.mem_of_getElem? (i := 44) rfl)) (hw _ (List.mem_of_getElem? (i := 8) rfl)) (hw _ (List.mem_of_getElem? (i := 9) rfl)) e4 (g := (mkF m 13 #[.val (.int p1)] [])) rfl (hb hby d8_13) (by decide) (by decide)
  obtain ⟨b5, g5⟩ : ∃ z, z = h0.size := ⟨_, rfl⟩
  rw [← g5] at A5 D5 st5
  have F_coder_b5 : Fld Z h5 b5 "java/lang/String" "coder" "B" (.int (0 : Int32)) := D5 (Or.inr (hw _ (List.mem_of_getElem? (i := 33) rfl))) (ty := .byte) (by decide)
  have F_value_b5 : Fld Z h5 b5 "java/lang/String" "value" "[B" .null := D5 (Or.inr (hw _ (List.mem_of_getElem? (i := 35) rfl))) (ty := (.array .byte)) (by decide)
  have E_b5 := A5
  have g_b5 : n0 ≤ b5 := Nat.le_trans Z0 (Nat.le_of_eq g5.symm)
  have sz_b5 : h0.size ≤ b5 := (Nat.le_trans (Keep.refl h0 []).1 (Nat.le_of_eq g5.symm))
  have K5 : Keep h0 h5 [] := (Keep.refl h0 []).ext E5
  obtain ⟨_, _, ⟨T6, L6, k6, n6⟩, -, X6, ⟨Lc6, hQ6, l6, y6, z6⟩, st6⟩ := Jvm.LawKit.callS X5 hx (y := (⟨"java/lang/StringLatin1", "toBytes", "(C)[B"⟩ : MethodName)) hown (mvT hZ (hw _ (List.mem_of_getElem? (i := 45) rfl))) (mvT hZ (hw _ (List.mem_of_getElem? (i := 46) rfl))) (mvT hZ (hw _ (List.mem_of_getElem? (i := 42) rfl))) (mvT hZ (hw _ (List.mem_of_getElem? (i := 47) rfl))) (by decide) (backOf (W := 2) (r10 l Z a0 hw [] p1 h5 n0 (Nat.le_trans Z0 E5.1)) hZ (hw _ (List.mem_of_getElem? (i := 47) rfl)) (hw _ (List.mem_of_getElem? (i := 42) rfl)) (by decide) (by decide)) (g := (mkF m 18 #[.val (.int p1)] [(.int p1), (.ref b5), (.ref b5)])) rfl (by rw [hml]; rfl) (argsL := [(.int p1)]) (rest := [(.ref b5), (.ref b5)]) (lenOf pd_8_9 rfl) rfl (by show 2 * 0 + _ ≤ _; exact Nat.le_of_eq rfl) (hb hby d8_18) (fun _ _ => ⟨rfl, e5, (by decide : 1 + 1 ≤ _), (by decide : 4 + 1 ≤ _)⟩)
  dsimp only [Pt.U, Pt.locs, Pt.cells, Pt.slots] at X6 l6 y6 z6 st6 hQ6
  subst l6 y6 z6
  obtain ⟨rfl, N6q, K6, k6, V6⟩ := hQ6
  have N6 := Fr.app N4 N6q
  obtain ⟨_, _, ⟨T7, L7, k7, n7⟩, -, X7, ⟨Lc7, hQ7, l7, y7, z7⟩, st7⟩ := X6.specialBack hx (y := (⟨"java/lang/String", "<init>", "([BB)V"⟩ : MethodName)) rfl hown (mvT hZ (hw _ (List.mem_of_getElem? (i := 48) rfl))) (mvT hZ (hw _ (List.mem_of_getElem? (i := 49) rfl))) (mvT hZ (hw _ (List.mem_of_getElem? (i := 50) rfl))) (by decide) (backOf (W := 1) (r11 l Z a0 hw [] b5 h5.size (0 : Int32) _ _ T6.heap n0 (Nat.le_trans (Nat.le_trans Z0 E5.1) K6.1) (E_b5.keep K6) (F_value_b5.keep K6 nin0) g_b5 (F_coder_b5.keep K6 nin0)) hZ (hw _ (List.mem_of_getElem? (i := 50) rfl)) (hw _ (List.mem_of_getElem? (i := 9) rfl)) (by decide) (by decide)) (g := (mkF m 22 #[.val (.int p1)] [(.int (0 : Int32)), (.ref h5.size), (.ref b5), (.ref b5)])) rfl (by rw [hml]; rfl) (Steps.refl _) (a := b5) (argsL := [(.ref h5.size), (.int (0 : Int32))]) (rest := [(.ref b5)]) (lenOf pd_8_10 rfl) rfl (by show 2 * 0 + _ ≤ _; exact Nat.le_of_eq rfl) (hb hby d8_22) (fun _ _ => ⟨rfl, rfl, (by decide : 2 + 0 ≤ _), (by decide : 5 + 0 ≤ _)⟩)
  dsimp only [Pt.U, Pt.locs, Pt.cells, Pt.slots] at X7 l7 y7 z7 st7 hQ7
  subst l7 y7 z7
  obtain ⟨rfl, N7q, K7, E7, Fa7, Fb7⟩ := hQ7
  have N7 := Fr.app N6 N7q
  obtain ⟨fs, hr, hrun, hended, hW, hsame⟩ := X7.leave (v := some (.ref b5)) (fun h => by rw [Bd.returns] at h; cases h)
  refine ⟨_, _, pre0 _ ?_, hrun, hended, _, _, rfl, ?_, ⟨_, rfl⟩, hW, hsame.mono (by decide) (by decide)⟩
  · show Steps p.tables e below (s₁.setTop (mkF m 0 #[.val (.int p1)] [])) _
    refine st3 _ ?_
    show Steps p.tables e below (T3.setTop (mkF m 3 #[.val (.int p1)] [(.int w2)])) _
    refine XS.ifNo X3.here hx rfl (hb hby d8_3) rfl ((if0 _ _).trans (feq hc3).1) ?_
    show Steps p.tables e below (T3.setTop (mkF m 6 #[.val (.int p1)] [])) _
    refine XS.iloadN X3.here hx rfl (hb hby d8_6) rfl ?_
    show Steps p.tables e below (T3.setTop (mkF m 7 #[.val (.int p1)] [(.int p1)])) _
    refine st4 _ ?_
    show Steps p.tables e below (T4.setTop (mkF m 10 #[.val (.int p1)] [(.int (1 : Int32))])) _
    refine XS.ifNo X4.here hx rfl (hb hby d8_10) rfl ((if0 _ _).trans (feq (by decide : ¬ ((1 : Int32) = (0 : Int32)))).1) ?_
    show Steps p.tables e below (T4.setTop (mkF m 13 #[.val (.int p1)] [])) _
    refine st5 _ ?_
    show Steps p.tables e below (T5.setTop (mkF m 16 #[.val (.int p1)] [(.ref b5)])) _
    refine XS.dup X5.here hx rfl (hb hby d8_16) rfl rfl ?_
    show Steps p.tables e below (T5.setTop (mkF m 17 #[.val (.int p1)] [(.ref b5), (.ref b5)])) _
    refine XS.iloadN X5.here hx rfl (hb hby d8_17) rfl ?_
    show Steps p.tables e below (T5.setTop (mkF m 18 #[.val (.int p1)] [(.int p1), (.ref b5), (.ref b5)])) _
    refine st6 _ ?_
    show Steps p.tables e below (T6.setTop (mkF m 21 #[.val (.int p1)] [(.ref h5.size), (.ref b5), (.ref b5)])) _
    refine XS.iconst X6.here hx rfl (hb hby d8_21) ?_
    show Steps p.tables e below (T6.setTop (mkF m 22 #[.val (.int p1)] [(.int (0 : Int32)), (.ref h5.size), (.ref b5), (.ref b5)])) _
    refine st7.trans ?_
    show Steps p.tables e below (T7.setTop (mkF m 25 #[.val (.int p1)] [(.ref b5)])) _
    jvm_step X7.here [X7.here.top, hx, (hb hby d8_25), X7.method', Bd.returns, Value.isRef, FieldType.isReference]
    first | (intro acts; rw [hr _ acts rfl rfl rfl]) | rw [hr _ _ rfl rfl rfl]
    exact Steps.refl _
  · show Q8 Z p1 h0 n0 _ T7.heap _
    have KK := (K5.trans K6 all0).trans K7 (allS (Or.inr sz_b5) all0)
    have hne : h5.size ≠ b5 := Nat.ne_of_gt E_b5.lt
    subst g5
    exact ⟨rfl, N7, KK, E7, Fb7, _, k6, Fa7, V6.keep K7 (ninS hne nin0)⟩
def own_Tx (Z : State) (h : Heap) (o : Addr) (cs : List Int32) : Prop := ∃ (t : Addr) (kb : ClassId) (z : Int32) (fm : Value), Exa Z h o "java/lang/String" ∧ Fld Z h o "java/lang/String" "value" "[B" (.ref t) ∧ Fld Z h o "java/lang/String" "coder" "B" (.int 0) ∧ Arv Z h t kb .byte (Int32.ofNat cs.length) ((cs.map StrChars.lo8).map Value.int) (.int 0) ∧ (∀ c ∈ cs, ¬ c < 0 ∧ ¬ (255 : Int32) < c) ∧ Sta Z h "java/lang/String" "COMPACT_STRINGS" "Z" (.int z) ∧ ¬ z = 0 ∧ Sta Z h "jdk/internal/util/Preconditions" "SIOOBE_FORMATTER" "Ljava/util/function/BiFunction;" fm ∧ fm.isRef = true ∧ cs.length ≤ 22
theorem own_ch {p : Program} {l : Launch} {e : Env} {R : Room} {s : State} {args : Array Value} {below : List Frame} {len W : Nat} {Z : State} {a0 : Array Value} {h : Heap} (hZ : Z.Warmed39 s.vm) (hw : ∀ d ∈ tables_1, d.before a0 Z = true) {o : Addr} {cs : List Int32} (TX : own_Tx Z h o cs) {i : Nat} {j : Int32} (hi : i < cs.length) (hj : j = Int32.ofNat i) (n0 : Nat) (hfr : 4 ≤ R.frames) (hlo : W + 53 ≤ R.locals) :
    Back l R p e below s args (⟨"java/lang/String", "charAt", "(I)C"⟩ : MethodName) len W (fun P a => a = #[.ref o, .int j] ∧ P.U.heap = h ∧ P.cells + 0 ≤ R.cells ∧ P.slots + 0 ≤ R.slots)
      (fun P _ v B => ∃ L, QR (some (.int (cs.getD i 0))) h n0 v B.U.heap L ∧ B.locs = P.locs ++ L ∧ B.cells = P.cells + 0 ∧ B.slots = P.slots + 0) := by
  obtain ⟨t, kb, z, fm, E, V, C, K, hb, S, hz, F, rf, l2⟩ := TX
  refine Back.mono (StrChars.Road.chN hZ (fun d hd => hw d ((by decide +kernel : ∀ d ∈ StrChars.Road.wordsChN, d ∈ tables_1) d hd)) (kI := 4) (hw _ (List.mem_of_getElem? (i := 8) rfl)) E V C K (StrChars.Road.codOf rfl (fun c hc => (hb c hc).2)) (fun c hc => ⟨(hb c hc).1, fun q => (hb c hc).2 (Int32.lt_trans (by decide) q)⟩) S hz F rf (by omega) hi hj hfr hlo) (fun P a hp => hp) (fun P a v B hp hq => ?_)
  obtain ⟨L, ⟨q1, q2, q3⟩, hl, hc, hs⟩ := hq
  exact ⟨L, ⟨q1, by rw [q2]; exact Fr.nil n0, q3⟩, hl, hc, hs⟩
theorem own_Tx.exa {Z : State} {h : Heap} {o : Addr} {cs : List Int32} (T : own_Tx Z h o cs) : Exa Z h o "java/lang/String" := by obtain ⟨t, kb, z, fm, E, -⟩ := T; exact E
abbrev own_R13 : Room := { frames := 4, cells := 0, slots := 0, locals := 53 }
def own_scan (f : Nat → Int32) : Nat → Nat → Nat → Bool → Option Nat
  | 0, _, c, _ => some c
  | k + 1, i, c, pt => if ¬ f i < 48 ∧ ¬ 57 < f i then own_scan f k (i + 1) (c + 1) pt else if f i = 46 ∧ pt = false then own_scan f k (i + 1) c true else none
def own_start (f : Nat → Int32) (a b : Nat) : Nat := if a < b ∧ (f a = 45 ∨ f a = 43) then a + 1 else a
def own_read (f : Nat → Int32) (a b : Nat) : Nat := (own_scan f (b - own_start f a b) (own_start f a b) 0 false).getD 0
theorem own_lt (a b : Nat) (ha : a < 32) (hb : b < 32) : Int32.ofNat a < Int32.ofNat b ↔ a < b := (by decide +kernel : ∀ a b : Fin 32, Int32.ofNat a.val < Int32.ofNat b.val ↔ a.val < b.val) ⟨a, ha⟩ ⟨b, hb⟩
theorem own_succ (a : Nat) (ha : a < 32) : Int32.ofNat a + (1 : Int32) = Int32.ofNat (a + 1) := (by decide +kernel : ∀ a : Fin 32, Int32.ofNat a.val + (1 : Int32) = Int32.ofNat (a.val + 1)) ⟨a, ha⟩
theorem own_zero (a : Nat) (ha : a < 32) : Int32.ofNat a = (0 : Int32) ↔ a = 0 := (by decide +kernel : ∀ a : Fin 32, Int32.ofNat a.val = (0 : Int32) ↔ a.val = 0) ⟨a, ha⟩
theorem d13_0 : decode prog_8_method_2_code 0 = .ok (.iload_n 2, 1) := by decide +kernel
theorem d13_1 : decode prog_8_method_2_code 1 = .ok (.istore 4, 2) := by decide +kernel
theorem d13_3 : decode prog_8_method_2_code 3 = .ok (.iload 4, 2) := by decide +kernel
theorem d13_5 : decode prog_8_method_2_code 5 = .ok (.iload_n 3, 1) := by decide +kernel
theorem d13_6 : decode prog_8_method_2_code 6 = .ok (.if_icmp .ge 18, 3) := by decide +kernel
theorem d13_24 : decode prog_8_method_2_code 24 = .ok (.iconst 0, 1) := by decide +kernel
theorem d13_25 : decode prog_8_method_2_code 25 = .ok (.istore 5, 2) := by decide +kernel
theorem d13_27 : decode prog_8_method_2_code 27 = .ok (.iload 5, 2) := by decide +kernel
theorem d13_29 : decode prog_8_method_2_code 29 = .ok (.ifCond .ne 20, 3) := by decide +kernel
theorem d13_32 : decode prog_8_method_2_code 32 = .ok (.iload 4, 2) := by decide +kernel
theorem d13_34 : decode prog_8_method_2_code 34 = .ok (.iload_n 3, 1) := by decide +kernel
theorem d13_35 : decode prog_8_method_2_code 35 = .ok (.if_icmp .ge 17, 3) := by decide +kernel
theorem d13_52 : decode prog_8_method_2_code 52 = .ok (.lconst 0, 1) := by decide +kernel
theorem d13_53 : decode prog_8_method_2_code 53 = .ok (.lstore 6, 2) := by decide +kernel
theorem d13_55 : decode prog_8_method_2_code 55 = .ok (.iconst 0, 1) := by decide +kernel
theorem d13_56 : decode prog_8_method_2_code 56 = .ok (.istore 8, 2) := by decide +kernel
theorem d13_58 : decode prog_8_method_2_code 58 = .ok (.iconst 0, 1) := by decide +kernel
theorem d13_59 : decode prog_8_method_2_code 59 = .ok (.istore 9, 2) := by decide +kernel
theorem d13_61 : decode prog_8_method_2_code 61 = .ok (.iconst 0, 1) := by decide +kernel
theorem d13_62 : decode prog_8_method_2_code 62 = .ok (.istore 10, 2) := by decide +kernel
theorem os13_1_b0 {s0 : Slot} {s1 : Slot} {z2 : Value} {z3 : Value} {s4 : Slot} {s5 : Slot} {s6 : Slot} {s7 : Slot} {s8 : Slot} {s9 : Slot} {s10 : Slot} {s11 : Slot} {v : Int32} (h : One s4) : storeLocals #[s0, s1, .val z2, .val z3, s4, s5, s6, s7, s8, s9, s10, s11] 4 (.int v) = some #[s0, s1, .val z2, .val z3, .val (.int v), s5, s6, s7, s8, s9, s10, s11] := by
  rcases h with rfl | ⟨w, rfl, hw⟩
  · rfl
  · cases w <;> first | rfl | (simp [Value.category] at hw)
theorem os13_25_b0 {s0 : Slot} {s1 : Slot} {z2 : Value} {z3 : Value} {z4 : Value} {s5 : Slot} {s6 : Slot} {s7 : Slot} {s8 : Slot} {s9 : Slot} {s10 : Slot} {s11 : Slot} {v : Int32} (h : One s5) : storeLocals #[s0, s1, .val z2, .val z3, .val z4, s5, s6, s7, s8, s9, s10, s11] 5 (.int v) = some #[s0, s1, .val z2, .val z3, .val z4, .val (.int v), s6, s7, s8, s9, s10, s11] := by
  rcases h with rfl | ⟨w, rfl, hw⟩
  · rfl
  · cases w <;> first | rfl | (simp [Value.category] at hw)
theorem os13_56_b0 {s0 : Slot} {s1 : Slot} {z2 : Value} {z3 : Value} {z4 : Value} {z5 : Value} {z6 : Value} {s8 : Slot} {s9 : Slot} {s10 : Slot} {s11 : Slot} {v : Int32} (h : One s8) : storeLocals #[s0, s1, .val z2, .val z3, .val z4, .val z5, .val z6, .second, s8, s9, s10, s11] 8 (.int v) = some #[s0, s1, .val z2, .val z3, .val z4, .val z5, .val z6, .second, .val (.int v), s9, s10, s11] := by
  rcases h with rfl | ⟨w, rfl, hw⟩
  · rfl
  · cases w <;> first | rfl | (simp [Value.category] at hw)
theorem os13_59_b0 {s0 : Slot} {s1 : Slot} {z2 : Value} {z3 : Value} {z4 : Value} {z5 : Value} {z6 : Value} {z8 : Value} {s9 : Slot} {s10 : Slot} {s11 : Slot} {v : Int32} (h : One s9) : storeLocals #[s0, s1, .val z2, .val z3, .val z4, .val z5, .val z6, .second, .val z8, s9, s10, s11] 9 (.int v) = some #[s0, s1, .val z2, .val z3, .val z4, .val z5, .val z6, .second, .val z8, .val (.int v), s10, s11] := by
  rcases h with rfl | ⟨w, rfl, hw⟩
  · rfl
  · cases w <;> first | rfl | (simp [Value.category] at hw)
theorem os13_62_b0 {s0 : Slot} {s1 : Slot} {z2 : Value} {z3 : Value} {z4 : Value} {z5 : Value} {z6 : Value} {z8 : Value} {z9 : Value} {s10 : Slot} {s11 : Slot} {v : Int32} (h : One s10) : storeLocals #[s0, s1, .val z2, .val z3, .val z4, .val z5, .val z6, .second, .val z8, .val z9, s10, s11] 10 (.int v) = some #[s0, s1, .val z2, .val z3, .val z4, .val z5, .val z6, .second, .val z8, .val z9, .val (.int v), s11] := by
  rcases h with rfl | ⟨w, rfl, hw⟩
  · rfl
  · cases w <;> first | rfl | (simp [Value.category] at hw)
set_option maxRecDepth 65536 in
set_option maxHeartbeats 40000000 in
theorem b0 {p : Program} {l : Launch} {e : Env} {s : State} {m : MethodId} {args : Array Value} {below : List Frame} {meth : Method} {c : Code} {T0 : State} {locs : List Loc} {cells slots : Nat} {Z : State} {a0 : Array Value} {h0 : Heap} (s0 : Slot) (s1 : Slot) (i2 : Int32) (i3 : Int32) (s4 : Slot) (s5 : Slot) (s8 : Slot) (s9 : Slot) (s10 : Slot) (s11 : Slot)
    (X0 : Stand p l e own_R13 s m args below meth c T0 locs cells slots) (hx : p.tables.exec = Jvm.exec) (hZ : Z.Warmed39 s.vm) (hw : ∀ d ∈ tables_1, d.before a0 Z = true) (hby : c.code = prog_8_method_2_code) (hml : c.maxLocals = 12) (hown : s.vm.findClass "com/example/bandmark/bandmark/PlainDecimal" = some m.cls) (e0 : T0.heap = h0) (hs4 : One s4) (hs5 : One s5) (hs8 : One s8) (hs9 : One s9) (hs10 : One s10) (hc6 : ¬ (i2 < i3)) (hc35 : ¬ (i2 < i3)) :
    ∃ (T' : State), Stand p l e own_R13 s m args below meth c T' locs cells slots ∧ T'.heap = h0 ∧
      ∀ target, Steps p.tables e below (T'.setTop (mkF m 64 #[s0, s1, .val (.int i2), .val (.int i3), .val (.int i2), .val (.int (0 : Int32)), .val (.long (0 : Int64)), .second, .val (.int (0 : Int32)), .val (.int (0 : Int32)), .val (.int (0 : Int32)), s11] [])) target → Steps p.tables e below (T0.setTop (mkF m 0 #[s0, s1, .val (.int i2), .val (.int i3), s4, s5, .unset, .unset, s8, s9, s10, s11] [])) target := by
  refine ⟨T0, X0, e0, fun target kt => ?_⟩
  show Steps p.tables e below (T0.setTop (mkF m 0 #[s0, s1, .val (.int i2), .val (.int i3), s4, s5, .unset, .unset, s8, s9, s10, s11] [])) _
  refine XS.iloadN X0.here hx rfl (hb hby d13_0) rfl ?_
  show Steps p.tables e below (T0.setTop (mkF m 1 #[s0, s1, .val (.int i2), .val (.int i3), s4, s5, .unset, .unset, s8, s9, s10, s11] [(.int i2)])) _
  refine XS.istore X0.here hx rfl (hb hby d13_1) rfl (l' := #[s0, s1, .val (.int i2), .val (.int i3), .val (.int i2), s5, .unset, .unset, s8, s9, s10, s11]) (os13_1_b0 hs4) ?_
  show Steps p.tables e below (T0.setTop (mkF m 3 #[s0, s1, .val (.int i2), .val (.int i3), .val (.int i2), s5, .unset, .unset, s8, s9, s10, s11] [])) _
  refine XS.iload X0.here hx rfl (hb hby d13_3) rfl ?_
  show Steps p.tables e below (T0.setTop (mkF m 5 #[s0, s1, .val (.int i2), .val (.int i3), .val (.int i2), s5, .unset, .unset, s8, s9, s10, s11] [(.int i2)])) _
  refine XS.iloadN X0.here hx rfl (hb hby d13_5) rfl ?_
  show Steps p.tables e below (T0.setTop (mkF m 6 #[s0, s1, .val (.int i2), .val (.int i3), .val (.int i2), s5, .unset, .unset, s8, s9, s10, s11] [(.int i3), (.int i2)])) _
  refine XS.icmpYes X0.here hx rfl (pc0 := 6) (pc' := 24) rfl (hb hby d13_6) rfl (flt hc6).2.1 (by decide) (by decide) ?_
  show Steps p.tables e below (T0.setTop (mkF m 24 #[s0, s1, .val (.int i2), .val (.int i3), .val (.int i2), s5, .unset, .unset, s8, s9, s10, s11] [])) _
  refine XS.iconst X0.here hx rfl (hb hby d13_24) ?_
  show Steps p.tables e below (T0.setTop (mkF m 25 #[s0, s1, .val (.int i2), .val (.int i3), .val (.int i2), s5, .unset, .unset, s8, s9, s10, s11] [(.int (0 : Int32))])) _
  refine XS.istore X0.here hx rfl (hb hby d13_25) rfl (l' := #[s0, s1, .val (.int i2), .val (.int i3), .val (.int i2), .val (.int (0 : Int32)), .unset, .unset, s8, s9, s10, s11]) (os13_25_b0 hs5) ?_
  show Steps p.tables e below (T0.setTop (mkF m 27 #[s0, s1, .val (.int i2), .val (.int i3), .val (.int i2), .val (.int (0 : Int32)), .unset, .unset, s8, s9, s10, s11] [])) _
  refine XS.iload X0.here hx rfl (hb hby d13_27) rfl ?_
  show Steps p.tables e below (T0.setTop (mkF m 29 #[s0, s1, .val (.int i2), .val (.int i3), .val (.int i2), .val (.int (0 : Int32)), .unset, .unset, s8, s9, s10, s11] [(.int (0 : Int32))])) _
  refine XS.ifNo X0.here hx rfl (hb hby d13_29) rfl ((if0 _ _).trans (teq (rfl : (0 : Int32) = (0 : Int32))).2) ?_
  show Steps p.tables e below (T0.setTop (mkF m 32 #[s0, s1, .val (.int i2), .val (.int i3), .val (.int i2), .val (.int (0 : Int32)), .unset, .unset, s8, s9, s10, s11] [])) _
  refine XS.iload X0.here hx rfl (hb hby d13_32) rfl ?_
  show Steps p.tables e below (T0.setTop (mkF m 34 #[s0, s1, .val (.int i2), .val (.int i3), .val (.int i2), .val (.int (0 : Int32)), .unset, .unset, s8, s9, s10, s11] [(.int i2)])) _
  refine XS.iloadN X0.here hx rfl (hb hby d13_34) rfl ?_
  show Steps p.tables e below (T0.setTop (mkF m 35 #[s0, s1, .val (.int i2), .val (.int i3), .val (.int i2), .val (.int (0 : Int32)), .unset, .unset, s8, s9, s10, s11] [(.int i3), (.int i2)])) _
  refine XS.icmpYes X0.here hx rfl (pc0 := 35) (pc' := 52) rfl (hb hby d13_35) rfl (flt hc35).2.1 (by decide) (by decide) ?_
  show Steps p.tables e below (T0.setTop (mkF m 52 #[s0, s1, .val (.int i2), .val (.int i3), .val (.int i2), .val (.int (0 : Int32)), .unset, .unset, s8, s9, s10, s11] [])) _
  refine XS.lconst X0.here hx rfl (hb hby d13_52) ?_
  show Steps p.tables e below (T0.setTop (mkF m 53 #[s0, s1, .val (.int i2), .val (.int i3), .val (.int i2), .val (.int (0 : Int32)), .unset, .unset, s8, s9, s10, s11] [(.long (0 : Int64))])) _
  refine XS.lstore X0.here hx rfl (hb hby d13_53) rfl (l' := #[s0, s1, .val (.int i2), .val (.int i3), .val (.int i2), .val (.int (0 : Int32)), .val (.long (0 : Int64)), .second, s8, s9, s10, s11]) rfl ?_
  show Steps p.tables e below (T0.setTop (mkF m 55 #[s0, s1, .val (.int i2), .val (.int i3), .val (.int i2), .val (.int (0 : Int32)), .val (.long (0 : Int64)), .second, s8, s9, s10, s11] [])) _
  refine XS.iconst X0.here hx rfl (hb hby d13_55) ?_
  show Steps p.tables e below (T0.setTop (mkF m 56 #[s0, s1, .val (.int i2), .val (.int i3), .val (.int i2), .val (.int (0 : Int32)), .val (.long (0 : Int64)), .second, s8, s9, s10, s11] [(.int (0 : Int32))])) _
  refine XS.istore X0.here hx rfl (hb hby d13_56) rfl (l' := #[s0, s1, .val (.int i2), .val (.int i3), .val (.int i2), .val (.int (0 : Int32)), .val (.long (0 : Int64)), .second, .val (.int (0 : Int32)), s9, s10, s11]) (os13_56_b0 hs8) ?_
  show Steps p.tables e below (T0.setTop (mkF m 58 #[s0, s1, .val (.int i2), .val (.int i3), .val (.int i2), .val (.int (0 : Int32)), .val (.long (0 : Int64)), .second, .val (.int (0 : Int32)), s9, s10, s11] [])) _
  refine XS.iconst X0.here hx rfl (hb hby d13_58) ?_
  show Steps p.tables e below (T0.setTop (mkF m 59 #[s0, s1, .val (.int i2), .val (.int i3), .val (.int i2), .val (.int (0 : Int32)), .val (.long (0 : Int64)), .second, .val (.int (0 : Int32)), s9, s10, s11] [(.int (0 : Int32))])) _
  refine XS.istore X0.here hx rfl (hb hby d13_59) rfl (l' := #[s0, s1, .val (.int i2), .val (.int i3), .val (.int i2), .val (.int (0 : Int32)), .val (.long (0 : Int64)), .second, .val (.int (0 : Int32)), .val (.int (0 : Int32)), s10, s11]) (os13_59_b0 hs9) ?_
  show Steps p.tables e below (T0.setTop (mkF m 61 #[s0, s1, .val (.int i2), .val (.int i3), .val (.int i2), .val (.int (0 : Int32)), .val (.long (0 : Int64)), .second, .val (.int (0 : Int32)), .val (.int (0 : Int32)), s10, s11] [])) _
  refine XS.iconst X0.here hx rfl (hb hby d13_61) ?_
  show Steps p.tables e below (T0.setTop (mkF m 62 #[s0, s1, .val (.int i2), .val (.int i3), .val (.int i2), .val (.int (0 : Int32)), .val (.long (0 : Int64)), .second, .val (.int (0 : Int32)), .val (.int (0 : Int32)), s10, s11] [(.int (0 : Int32))])) _
  refine XS.istore X0.here hx rfl (hb hby d13_62) rfl (l' := #[s0, s1, .val (.int i2), .val (.int i3), .val (.int i2), .val (.int (0 : Int32)), .val (.long (0 : Int64)), .second, .val (.int (0 : Int32)), .val (.int (0 : Int32)), .val (.int (0 : Int32)), s11]) (os13_62_b0 hs10) ?_
  exact kt
theorem d13_9 : decode prog_8_method_2_code 9 = .ok (.aload_n 1, 1) := by decide +kernel
theorem d13_10 : decode prog_8_method_2_code 10 = .ok (.iload 4, 2) := by decide +kernel
theorem d13_12 : decode prog_8_method_2_code 12 = .ok (.invokevirtual 7, 3) := by decide +kernel
theorem d13_15 : decode prog_8_method_2_code 15 = .ok (.bipush 45, 2) := by decide +kernel
theorem d13_17 : decode prog_8_method_2_code 17 = .ok (.if_icmp .ne 7, 3) := by decide +kernel
theorem d13_20 : decode prog_8_method_2_code 20 = .ok (.iconst 1, 1) := by decide +kernel
theorem d13_21 : decode prog_8_method_2_code 21 = .ok (.goto 4, 3) := by decide +kernel
theorem d13_49 : decode prog_8_method_2_code 49 = .ok (.iinc 4 1, 3) := by decide +kernel
theorem pd_13_13 : parseMethodDescriptor "(I)C" = some ⟨[.int], some .char⟩ := by decide +kernel
theorem os13_1_b1 {s0 : Slot} {z1 : Value} {z2 : Value} {z3 : Value} {s4 : Slot} {s5 : Slot} {s6 : Slot} {s7 : Slot} {s8 : Slot} {s9 : Slot} {s10 : Slot} {s11 : Slot} {v : Int32} (h : One s4) : storeLocals #[s0, .val z1, .val z2, .val z3, s4, s5, s6, s7, s8, s9, s10, s11] 4 (.int v) = some #[s0, .val z1, .val z2, .val z3, .val (.int v), s5, s6, s7, s8, s9, s10, s11] := by
  rcases h with rfl | ⟨w, rfl, hw⟩
  · rfl
  · cases w <;> first | rfl | (simp [Value.category] at hw)
theorem os13_25_b1 {s0 : Slot} {z1 : Value} {z2 : Value} {z3 : Value} {z4 : Value} {s5 : Slot} {s6 : Slot} {s7 : Slot} {s8 : Slot} {s9 : Slot} {s10 : Slot} {s11 : Slot} {v : Int32} (h : One s5) : storeLocals #[s0, .val z1, .val z2, .val z3, .val z4, s5, s6, s7, s8, s9, s10, s11] 5 (.int v) = some #[s0, .val z1, .val z2, .val z3, .val z4, .val (.int v), s6, s7, s8, s9, s10, s11] := by
  rcases h with rfl | ⟨w, rfl, hw⟩
  · rfl
  · cases w <;> first | rfl | (simp [Value.category] at hw)
theorem os13_56_b1 {s0 : Slot} {z1 : Value} {z2 : Value} {z3 : Value} {z4 : Value} {z5 : Value} {z6 : Value} {s8 : Slot} {s9 : Slot} {s10 : Slot} {s11 : Slot} {v : Int32} (h : One s8) : storeLocals #[s0, .val z1, .val z2, .val z3, .val z4, .val z5, .val z6, .second, s8, s9, s10, s11] 8 (.int v) = some #[s0, .val z1, .val z2, .val z3, .val z4, .val z5, .val z6, .second, .val (.int v), s9, s10, s11] := by
  rcases h with rfl | ⟨w, rfl, hw⟩
  · rfl
  · cases w <;> first | rfl | (simp [Value.category] at hw)
theorem os13_59_b1 {s0 : Slot} {z1 : Value} {z2 : Value} {z3 : Value} {z4 : Value} {z5 : Value} {z6 : Value} {z8 : Value} {s9 : Slot} {s10 : Slot} {s11 : Slot} {v : Int32} (h : One s9) : storeLocals #[s0, .val z1, .val z2, .val z3, .val z4, .val z5, .val z6, .second, .val z8, s9, s10, s11] 9 (.int v) = some #[s0, .val z1, .val z2, .val z3, .val z4, .val z5, .val z6, .second, .val z8, .val (.int v), s10, s11] := by
  rcases h with rfl | ⟨w, rfl, hw⟩
  · rfl
  · cases w <;> first | rfl | (simp [Value.category] at hw)
theorem os13_62_b1 {s0 : Slot} {z1 : Value} {z2 : Value} {z3 : Value} {z4 : Value} {z5 : Value} {z6 : Value} {z8 : Value} {z9 : Value} {s10 : Slot} {s11 : Slot} {v : Int32} (h : One s10) : storeLocals #[s0, .val z1, .val z2, .val z3, .val z4, .val z5, .val z6, .second, .val z8, .val z9, s10, s11] 10 (.int v) = some #[s0, .val z1, .val z2, .val z3, .val z4, .val z5, .val z6, .second, .val z8, .val z9, .val (.int v), s11] := by
  rcases h with rfl | ⟨w, rfl, hw⟩
  · rfl
  · cases w <;> first | rfl | (simp [Value.category] at hw)
set_option maxRecDepth 65536 in
set_option maxHeartbeats 40000000 in
theorem b1 {p : Program} {l : Launch} {e : Env} {s : State} {m : MethodId} {args : Array Value} {below : List Frame} {meth : Method} {c : Code} {T0 : State} {locs : List Loc} {cells slots : Nat} {Z : State} {a0 : Array Value} {h0 : Heap} (s0 : Slot) (o1 : Addr) (i2 : Int32) (i3 : Int32) (s4 : Slot) (s5 : Slot) (s8 : Slot) (s9 : Slot) (s10 : Slot) (s11 : Slot) (cs : List Int32) (ii : Nat) (n0 : Nat)
    (X0 : Stand p l e own_R13 s m args below meth c T0 locs cells slots) (hx : p.tables.exec = Jvm.exec) (hZ : Z.Warmed39 s.vm) (hw : ∀ d ∈ tables_1, d.before a0 Z = true) (hby : c.code = prog_8_method_2_code) (hml : c.maxLocals = 12) (hown : s.vm.findClass "com/example/bandmark/bandmark/PlainDecimal" = some m.cls) (e0 : T0.heap = h0) (TX : own_Tx Z h0 o1 cs) (hi : ii < cs.length) (hj : i2 = Int32.ofNat ii) (Z0 : n0 ≤ h0.size) (N0 : Fr n0 locs) (hcl : cells ≤ own_R13.cells) (hsl : slots ≤ own_R13.slots) (hs4 : One s4) (hs5 : One s5) (hs8 : One s8) (hs9 : One s9) (hs10 : One s10) (hc6 : i2 < i3) (hc29 : ¬ ((1 : Int32) = (0 : Int32))) (hk0 : (cs.getD ii 0) = (45 : Int32)) :
    ∃ (T' : State) (locs' : List Loc), Stand p l e own_R13 s m args below meth c T' locs' cells slots ∧ Fr n0 locs' ∧ T'.heap = h0 ∧
      ∀ target, Steps p.tables e below (T'.setTop (mkF m 64 #[s0, .val (.ref o1), .val (.int i2), .val (.int i3), .val (.int (i2 + (1 : Int32))), .val (.int (1 : Int32)), .val (.long (0 : Int64)), .second, .val (.int (0 : Int32)), .val (.int (0 : Int32)), .val (.int (0 : Int32)), s11] [])) target → Steps p.tables e below (T0.setTop (mkF m 0 #[s0, .val (.ref o1), .val (.int i2), .val (.int i3), s4, s5, .unset, .unset, s8, s9, s10, s11] [])) target := by
  obtain ⟨cq5, kq5, q5a, q5b, q5c⟩ := isOf hZ e0 TX.exa
  obtain ⟨_, _, ⟨T5, L5, k5, n5⟩, -, X5, ⟨Lc5, hQ5, l5, y5, z5⟩, st5⟩ := X0.virtualBack hx (y := (⟨"java/lang/String", "charAt", "(I)C"⟩ : MethodName)) (z := (⟨"java/lang/String", "charAt", "(I)C"⟩ : MethodName)) hown (mvT hZ (hw _ (List.mem_of_getElem? (i := 70) rfl))) (mvT hZ (hw _ (List.mem_of_getElem? (i := 71) rfl))) (notFace_of_selects (args := #[]) (mvT hZ (hw _ (List.mem_of_getElem? (i := 73) rfl)))) (mvT hZ (hw _ (List.mem_of_getElem? (i := 73) rfl))) (mvT hZ (hw _ (List.mem_of_getElem? (i := 72) rfl))) (by decide) (own_ch (W := 0) hZ hw TX (i := ii) (j := i2) hi hj n0 (by decide) (by decide)) q5a q5c (g := (mkF m 12 #[s0, .val (.ref o1), .val (.int i2), .val (.int i3), .val (.int i2), s5, .unset, .unset, s8, s9, s10, s11] [(.int i2), (.ref o1)])) rfl (by rw [hml]; rfl) (Steps.refl _) (argsL := [(.int i2)]) (rest := []) (lenOf pd_13_13 rfl) rfl (by show 2 * 0 + _ ≤ _; exact Nat.le_of_eq rfl) (hb hby d13_12) (fun _ _ => ⟨rfl, e0, hcl, hsl⟩)
  dsimp only [Pt.U, Pt.locs, Pt.cells, Pt.slots] at X5 l5 y5 z5 st5 hQ5
  subst l5 y5 z5
  obtain ⟨rfl, N5q, e5⟩ := hQ5
  have N5 := Fr.app N0 N5q
  refine ⟨T5, _, X5, N5, e5, fun target kt => ?_⟩
  show Steps p.tables e below (T0.setTop (mkF m 0 #[s0, .val (.ref o1), .val (.int i2), .val (.int i3), s4, s5, .unset, .unset, s8, s9, s10, s11] [])) _
  refine XS.iloadN X0.here hx rfl (hb hby d13_0) rfl ?_
  show Steps p.tables e below (T0.setTop (mkF m 1 #[s0, .val (.ref o1), .val (.int i2), .val (.int i3), s4, s5, .unset, .unset, s8, s9, s10, s11] [(.int i2)])) _
  refine XS.istore X0.here hx rfl (hb hby d13_1) rfl (l' := #[s0, .val (.ref o1), .val (.int i2), .val (.int i3), .val (.int i2), s5, .unset, .unset, s8, s9, s10, s11]) (os13_1_b1 hs4) ?_
  show Steps p.tables e below (T0.setTop (mkF m 3 #[s0, .val (.ref o1), .val (.int i2), .val (.int i3), .val (.int i2), s5, .unset, .unset, s8, s9, s10, s11] [])) _
  refine XS.iload X0.here hx rfl (hb hby d13_3) rfl ?_
  show Steps p.tables e below (T0.setTop (mkF m 5 #[s0, .val (.ref o1), .val (.int i2), .val (.int i3), .val (.int i2), s5, .unset, .unset, s8, s9, s10, s11] [(.int i2)])) _
  refine XS.iloadN X0.here hx rfl (hb hby d13_5) rfl ?_
  show Steps p.tables e below (T0.setTop (mkF m 6 #[s0, .val (.ref o1), .val (.int i2), .val (.int i3), .val (.int i2), s5, .unset, .unset, s8, s9, s10, s11] [(.int i3), (.int i2)])) _
  refine XS.icmpNo X0.here hx rfl (hb hby d13_6) rfl (tlt hc6).2.1 ?_
  show Steps p.tables e below (T0.setTop (mkF m 9 #[s0, .val (.ref o1), .val (.int i2), .val (.int i3), .val (.int i2), s5, .unset, .unset, s8, s9, s10, s11] [])) _
  refine XS.aloadN X0.here hx rfl (hb hby d13_9) rfl rfl ?_
  show Steps p.tables e below (T0.setTop (mkF m 10 #[s0, .val (.ref o1), .val (.int i2), .val (.int i3), .val (.int i2), s5, .unset, .unset, s8, s9, s10, s11] [(.ref o1)])) _
  refine XS.iload X0.here hx rfl (hb hby d13_10) rfl ?_
  show Steps p.tables e below (T0.setTop (mkF m 12 #[s0, .val (.ref o1), .val (.int i2), .val (.int i3), .val (.int i2), s5, .unset, .unset, s8, s9, s10, s11] [(.int i2), (.ref o1)])) _
  refine st5.trans ?_
  show Steps p.tables e below (T5.setTop (mkF m 15 #[s0, .val (.ref o1), .val (.int i2), .val (.int i3), .val (.int i2), s5, .unset, .unset, s8, s9, s10, s11] [(.int (cs.getD ii 0))])) _
  refine XS.bipush X5.here hx rfl (hb hby d13_15) ?_
  show Steps p.tables e below (T5.setTop (mkF m 17 #[s0, .val (.ref o1), .val (.int i2), .val (.int i3), .val (.int i2), s5, .unset, .unset, s8, s9, s10, s11] [(.int (45 : Int32)), (.int (cs.getD ii 0))])) _
  refine XS.icmpNo X5.here hx rfl (hb hby d13_17) rfl (teq (hk0 : (cs.getD ii 0) = (45 : Int32))).2 ?_
  show Steps p.tables e below (T5.setTop (mkF m 20 #[s0, .val (.ref o1), .val (.int i2), .val (.int i3), .val (.int i2), s5, .unset, .unset, s8, s9, s10, s11] [])) _
  refine XS.iconst X5.here hx rfl (hb hby d13_20) ?_
  show Steps p.tables e below (T5.setTop (mkF m 21 #[s0, .val (.ref o1), .val (.int i2), .val (.int i3), .val (.int i2), s5, .unset, .unset, s8, s9, s10, s11] [(.int (1 : Int32))])) _
  refine XS.goto X5.here hx rfl (pc0 := 21) (pc' := 25) rfl (hb hby d13_21) (by decide) (by decide) ?_
  show Steps p.tables e below (T5.setTop (mkF m 25 #[s0, .val (.ref o1), .val (.int i2), .val (.int i3), .val (.int i2), s5, .unset, .unset, s8, s9, s10, s11] [(.int (1 : Int32))])) _
  refine XS.istore X5.here hx rfl (hb hby d13_25) rfl (l' := #[s0, .val (.ref o1), .val (.int i2), .val (.int i3), .val (.int i2), .val (.int (1 : Int32)), .unset, .unset, s8, s9, s10, s11]) (os13_25_b1 hs5) ?_
  show Steps p.tables e below (T5.setTop (mkF m 27 #[s0, .val (.ref o1), .val (.int i2), .val (.int i3), .val (.int i2), .val (.int (1 : Int32)), .unset, .unset, s8, s9, s10, s11] [])) _
  refine XS.iload X5.here hx rfl (hb hby d13_27) rfl ?_
  show Steps p.tables e below (T5.setTop (mkF m 29 #[s0, .val (.ref o1), .val (.int i2), .val (.int i3), .val (.int i2), .val (.int (1 : Int32)), .unset, .unset, s8, s9, s10, s11] [(.int (1 : Int32))])) _
  refine XS.ifYes X5.here hx rfl (pc0 := 29) (pc' := 49) rfl (hb hby d13_29) rfl ((if0 _ _).trans (feq hc29).2) (by decide) (by decide) ?_
  show Steps p.tables e below (T5.setTop (mkF m 49 #[s0, .val (.ref o1), .val (.int i2), .val (.int i3), .val (.int i2), .val (.int (1 : Int32)), .unset, .unset, s8, s9, s10, s11] [])) _
  refine XS.iinc X5.here hx rfl (hb hby d13_49) rfl (l' := #[s0, .val (.ref o1), .val (.int i2), .val (.int i3), .val (.int (i2 + (1 : Int32))), .val (.int (1 : Int32)), .unset, .unset, s8, s9, s10, s11]) rfl ?_
  show Steps p.tables e below (T5.setTop (mkF m 52 #[s0, .val (.ref o1), .val (.int i2), .val (.int i3), .val (.int (i2 + (1 : Int32))), .val (.int (1 : Int32)), .unset, .unset, s8, s9, s10, s11] [])) _
  refine XS.lconst X5.here hx rfl (hb hby d13_52) ?_
  show Steps p.tables e below (T5.setTop (mkF m 53 #[s0, .val (.ref o1), .val (.int i2), .val (.int i3), .val (.int (i2 + (1 : Int32))), .val (.int (1 : Int32)), .unset, .unset, s8, s9, s10, s11] [(.long (0 : Int64))])) _
  refine XS.lstore X5.here hx rfl (hb hby d13_53) rfl (l' := #[s0, .val (.ref o1), .val (.int i2), .val (.int i3), .val (.int (i2 + (1 : Int32))), .val (.int (1 : Int32)), .val (.long (0 : Int64)), .second, s8, s9, s10, s11]) rfl ?_
  show Steps p.tables e below (T5.setTop (mkF m 55 #[s0, .val (.ref o1), .val (.int i2), .val (.int i3), .val (.int (i2 + (1 : Int32))), .val (.int (1 : Int32)), .val (.long (0 : Int64)), .second, s8, s9, s10, s11] [])) _
  refine XS.iconst X5.here hx rfl (hb hby d13_55) ?_
  show Steps p.tables e below (T5.setTop (mkF m 56 #[s0, .val (.ref o1), .val (.int i2), .val (.int i3), .val (.int (i2 + (1 : Int32))), .val (.int (1 : Int32)), .val (.long (0 : Int64)), .second, s8, s9, s10, s11] [(.int (0 : Int32))])) _
  refine XS.istore X5.here hx rfl (hb hby d13_56) rfl (l' := #[s0, .val (.ref o1), .val (.int i2), .val (.int i3), .val (.int (i2 + (1 : Int32))), .val (.int (1 : Int32)), .val (.long (0 : Int64)), .second, .val (.int (0 : Int32)), s9, s10, s11]) (os13_56_b1 hs8) ?_
  show Steps p.tables e below (T5.setTop (mkF m 58 #[s0, .val (.ref o1), .val (.int i2), .val (.int i3), .val (.int (i2 + (1 : Int32))), .val (.int (1 : Int32)), .val (.long (0 : Int64)), .second, .val (.int (0 : Int32)), s9, s10, s11] [])) _
  refine XS.iconst X5.here hx rfl (hb hby d13_58) ?_
  show Steps p.tables e below (T5.setTop (mkF m 59 #[s0, .val (.ref o1), .val (.int i2), .val (.int i3), .val (.int (i2 + (1 : Int32))), .val (.int (1 : Int32)), .val (.long (0 : Int64)), .second, .val (.int (0 : Int32)), s9, s10, s11] [(.int (0 : Int32))])) _
  refine XS.istore X5.here hx rfl (hb hby d13_59) rfl (l' := #[s0, .val (.ref o1), .val (.int i2), .val (.int i3), .val (.int (i2 + (1 : Int32))), .val (.int (1 : Int32)), .val (.long (0 : Int64)), .second, .val (.int (0 : Int32)), .val (.int (0 : Int32)), s10, s11]) (os13_59_b1 hs9) ?_
  show Steps p.tables e below (T5.setTop (mkF m 61 #[s0, .val (.ref o1), .val (.int i2), .val (.int i3), .val (.int (i2 + (1 : Int32))), .val (.int (1 : Int32)), .val (.long (0 : Int64)), .second, .val (.int (0 : Int32)), .val (.int (0 : Int32)), s10, s11] [])) _
  refine XS.iconst X5.here hx rfl (hb hby d13_61) ?_
  show Steps p.tables e below (T5.setTop (mkF m 62 #[s0, .val (.ref o1), .val (.int i2), .val (.int i3), .val (.int (i2 + (1 : Int32))), .val (.int (1 : Int32)), .val (.long (0 : Int64)), .second, .val (.int (0 : Int32)), .val (.int (0 : Int32)), s10, s11] [(.int (0 : Int32))])) _
  refine XS.istore X5.here hx rfl (hb hby d13_62) rfl (l' := #[s0, .val (.ref o1), .val (.int i2), .val (.int i3), .val (.int (i2 + (1 : Int32))), .val (.int (1 : Int32)), .val (.long (0 : Int64)), .second, .val (.int (0 : Int32)), .val (.int (0 : Int32)), .val (.int (0 : Int32)), s11]) (os13_62_b1 hs10) ?_
  exact kt
theorem d13_38 : decode prog_8_method_2_code 38 = .ok (.aload_n 1, 1) := by decide +kernel
theorem d13_39 : decode prog_8_method_2_code 39 = .ok (.iload 4, 2) := by decide +kernel
theorem d13_41 : decode prog_8_method_2_code 41 = .ok (.invokevirtual 7, 3) := by decide +kernel
theorem d13_44 : decode prog_8_method_2_code 44 = .ok (.bipush 43, 2) := by decide +kernel
theorem d13_46 : decode prog_8_method_2_code 46 = .ok (.if_icmp .ne 6, 3) := by decide +kernel
theorem os13_1_b2 {s0 : Slot} {z1 : Value} {z2 : Value} {z3 : Value} {s4 : Slot} {s5 : Slot} {s6 : Slot} {s7 : Slot} {s8 : Slot} {s9 : Slot} {s10 : Slot} {s11 : Slot} {v : Int32} (h : One s4) : storeLocals #[s0, .val z1, .val z2, .val z3, s4, s5, s6, s7, s8, s9, s10, s11] 4 (.int v) = some #[s0, .val z1, .val z2, .val z3, .val (.int v), s5, s6, s7, s8, s9, s10, s11] := by
  rcases h with rfl | ⟨w, rfl, hw⟩
  · rfl
  · cases w <;> first | rfl | (simp [Value.category] at hw)
theorem os13_25_b2 {s0 : Slot} {z1 : Value} {z2 : Value} {z3 : Value} {z4 : Value} {s5 : Slot} {s6 : Slot} {s7 : Slot} {s8 : Slot} {s9 : Slot} {s10 : Slot} {s11 : Slot} {v : Int32} (h : One s5) : storeLocals #[s0, .val z1, .val z2, .val z3, .val z4, s5, s6, s7, s8, s9, s10, s11] 5 (.int v) = some #[s0, .val z1, .val z2, .val z3, .val z4, .val (.int v), s6, s7, s8, s9, s10, s11] := by
  rcases h with rfl | ⟨w, rfl, hw⟩
  · rfl
  · cases w <;> first | rfl | (simp [Value.category] at hw)
theorem os13_56_b2 {s0 : Slot} {z1 : Value} {z2 : Value} {z3 : Value} {z4 : Value} {z5 : Value} {z6 : Value} {s8 : Slot} {s9 : Slot} {s10 : Slot} {s11 : Slot} {v : Int32} (h : One s8) : storeLocals #[s0, .val z1, .val z2, .val z3, .val z4, .val z5, .val z6, .second, s8, s9, s10, s11] 8 (.int v) = some #[s0, .val z1, .val z2, .val z3, .val z4, .val z5, .val z6, .second, .val (.int v), s9, s10, s11] := by
  rcases h with rfl | ⟨w, rfl, hw⟩
  · rfl
  · cases w <;> first | rfl | (simp [Value.category] at hw)
theorem os13_59_b2 {s0 : Slot} {z1 : Value} {z2 : Value} {z3 : Value} {z4 : Value} {z5 : Value} {z6 : Value} {z8 : Value} {s9 : Slot} {s10 : Slot} {s11 : Slot} {v : Int32} (h : One s9) : storeLocals #[s0, .val z1, .val z2, .val z3, .val z4, .val z5, .val z6, .second, .val z8, s9, s10, s11] 9 (.int v) = some #[s0, .val z1, .val z2, .val z3, .val z4, .val z5, .val z6, .second, .val z8, .val (.int v), s10, s11] := by
  rcases h with rfl | ⟨w, rfl, hw⟩
  · rfl
  · cases w <;> first | rfl | (simp [Value.category] at hw)
theorem os13_62_b2 {s0 : Slot} {z1 : Value} {z2 : Value} {z3 : Value} {z4 : Value} {z5 : Value} {z6 : Value} {z8 : Value} {z9 : Value} {s10 : Slot} {s11 : Slot} {v : Int32} (h : One s10) : storeLocals #[s0, .val z1, .val z2, .val z3, .val z4, .val z5, .val z6, .second, .val z8, .val z9, s10, s11] 10 (.int v) = some #[s0, .val z1, .val z2, .val z3, .val z4, .val z5, .val z6, .second, .val z8, .val z9, .val (.int v), s11] := by
  rcases h with rfl | ⟨w, rfl, hw⟩
  · rfl
  · cases w <;> first | rfl | (simp [Value.category] at hw)
set_option maxRecDepth 65536 in
set_option maxHeartbeats 40000000 in
theorem b2 {p : Program} {l : Launch} {e : Env} {s : State} {m : MethodId} {args : Array Value} {below : List Frame} {meth : Method} {c : Code} {T0 : State} {locs : List Loc} {cells slots : Nat} {Z : State} {a0 : Array Value} {h0 : Heap} (s0 : Slot) (o1 : Addr) (i2 : Int32) (i3 : Int32) (s4 : Slot) (s5 : Slot) (s8 : Slot) (s9 : Slot) (s10 : Slot) (s11 : Slot) (cs : List Int32) (ii : Nat) (n0 : Nat)
    (X0 : Stand p l e own_R13 s m args below meth c T0 locs cells slots) (hx : p.tables.exec = Jvm.exec) (hZ : Z.Warmed39 s.vm) (hw : ∀ d ∈ tables_1, d.before a0 Z = true) (hby : c.code = prog_8_method_2_code) (hml : c.maxLocals = 12) (hown : s.vm.findClass "com/example/bandmark/bandmark/PlainDecimal" = some m.cls) (e0 : T0.heap = h0) (TX : own_Tx Z h0 o1 cs) (hi : ii < cs.length) (hj : i2 = Int32.ofNat ii) (Z0 : n0 ≤ h0.size) (N0 : Fr n0 locs) (hcl : cells ≤ own_R13.cells) (hsl : slots ≤ own_R13.slots) (hs4 : One s4) (hs5 : One s5) (hs8 : One s8) (hs9 : One s9) (hs10 : One s10) (hc6 : i2 < i3) (hc35 : i2 < i3) (hk0 : ¬ ((cs.getD ii 0) = (45 : Int32))) (hk1 : (cs.getD ii 0) = (43 : Int32)) :
    ∃ (T' : State) (locs' : List Loc), Stand p l e own_R13 s m args below meth c T' locs' cells slots ∧ Fr n0 locs' ∧ T'.heap = h0 ∧
      ∀ target, Steps p.tables e below (T'.setTop (mkF m 64 #[s0, .val (.ref o1), .val (.int i2), .val (.int i3), .val (.int (i2 + (1 : Int32))), .val (.int (0 : Int32)), .val (.long (0 : Int64)), .second, .val (.int (0 : Int32)), .val (.int (0 : Int32)), .val (.int (0 : Int32)), s11] [])) target → Steps p.tables e below (T0.setTop (mkF m 0 #[s0, .val (.ref o1), .val (.int i2), .val (.int i3), s4, s5, .unset, .unset, s8, s9, s10, s11] [])) target := by
  obtain ⟨cq5, kq5, q5a, q5b, q5c⟩ := isOf hZ e0 TX.exa
  obtain ⟨_, _, ⟨T5, L5, k5, n5⟩, -, X5, ⟨Lc5, hQ5, l5, y5, z5⟩, st5⟩ := X0.virtualBack hx (y := (⟨"java/lang/String", "charAt", "(I)C"⟩ : MethodName)) (z := (⟨"java/lang/String", "charAt", "(I)C"⟩ : MethodName)) hown (mvT hZ (hw _ (List.mem_of_getElem? (i := 70) rfl))) (mvT hZ (hw _ (List.mem_of_getElem? (i := 71) rfl))) (notFace_of_selects (args := #[]) (mvT hZ (hw _ (List.mem_of_getElem? (i := 73) rfl)))) (mvT hZ (hw _ (List.mem_of_getElem? (i := 73) rfl))) (mvT hZ (hw _ (List.mem_of_getElem? (i := 72) rfl))) (by decide) (own_ch (W := 0) hZ hw TX (i := ii) (j := i2) hi hj n0 (by decide) (by decide)) q5a q5c (g := (mkF m 12 #[s0, .val (.ref o1), .val (.int i2), .val (.int i3), .val (.int i2), s5, .unset, .unset, s8, s9, s10, s11] [(.int i2), (.ref o1)])) rfl (by rw [hml]; rfl) (Steps.refl _) (argsL := [(.int i2)]) (rest := []) (lenOf pd_13_13 rfl) rfl (by show 2 * 0 + _ ≤ _; exact Nat.le_of_eq rfl) (hb hby d13_12) (fun _ _ => ⟨rfl, e0, hcl, hsl⟩)
  dsimp only [Pt.U, Pt.locs, Pt.cells, Pt.slots] at X5 l5 y5 z5 st5 hQ5
  subst l5 y5 z5
  obtain ⟨rfl, N5q, e5⟩ := hQ5
  have N5 := Fr.app N0 N5q
  obtain ⟨cq6, kq6, q6a, q6b, q6c⟩ := isOf hZ e5 TX.exa
  obtain ⟨_, _, ⟨T6, L6, k6, n6⟩, -, X6, ⟨Lc6, hQ6, l6, y6, z6⟩, st6⟩ := X5.virtualBack hx (y := (⟨"java/lang/String", "charAt", "(I)C"⟩ : MethodName)) (z := (⟨"java/lang/String", "charAt", "(I)C"⟩ : MethodName)) hown (mvT hZ (hw _ (List.mem_of_getElem? (i := 70) rfl))) (mvT hZ (hw _ (List.mem_of_getElem? (i := 71) rfl))) (notFace_of_selects (args := #[]) (mvT hZ (hw _ (List.mem_of_getElem? (i := 73) rfl)))) (mvT hZ (hw _ (List.mem_of_getElem? (i := 73) rfl))) (mvT hZ (hw _ (List.mem_of_getElem? (i := 72) rfl))) (by decide) (own_ch (W := 0) hZ hw TX (i := ii) (j := i2) hi hj n0 (by decide) (by decide)) q6a q6c (g := (mkF m 41 #[s0, .val (.ref o1), .val (.int i2), .val (.int i3), .val (.int i2), .val (.int (0 : Int32)), .unset, .unset, s8, s9, s10, s11] [(.int i2), (.ref o1)])) rfl (by rw [hml]; rfl) (Steps.refl _) (argsL := [(.int i2)]) (rest := []) (lenOf pd_13_13 rfl) rfl (by show 2 * 0 + _ ≤ _; exact Nat.le_of_eq rfl) (hb hby d13_41) (fun _ _ => ⟨rfl, e5, hcl, hsl⟩)
  dsimp only [Pt.U, Pt.locs, Pt.cells, Pt.slots] at X6 l6 y6 z6 st6 hQ6
  subst l6 y6 z6
  obtain ⟨rfl, N6q, e6⟩ := hQ6
  have N6 := Fr.app N5 N6q
  refine ⟨T6, _, X6, N6, e6, fun target kt => ?_⟩
  show Steps p.tables e below (T0.setTop (mkF m 0 #[s0, .val (.ref o1), .val (.int i2), .val (.int i3), s4, s5, .unset, .unset, s8, s9, s10, s11] [])) _
  refine XS.iloadN X0.here hx rfl (hb hby d13_0) rfl ?_
  show Steps p.tables e below (T0.setTop (mkF m 1 #[s0, .val (.ref o1), .val (.int i2), .val (.int i3), s4, s5, .unset, .unset, s8, s9, s10, s11] [(.int i2)])) _
  refine XS.istore X0.here hx rfl (hb hby d13_1) rfl (l' := #[s0, .val (.ref o1), .val (.int i2), .val (.int i3), .val (.int i2), s5, .unset, .unset, s8, s9, s10, s11]) (os13_1_b2 hs4) ?_
  show Steps p.tables e below (T0.setTop (mkF m 3 #[s0, .val (.ref o1), .val (.int i2), .val (.int i3), .val (.int i2), s5, .unset, .unset, s8, s9, s10, s11] [])) _
  refine XS.iload X0.here hx rfl (hb hby d13_3) rfl ?_
  show Steps p.tables e below (T0.setTop (mkF m 5 #[s0, .val (.ref o1), .val (.int i2), .val (.int i3), .val (.int i2), s5, .unset, .unset, s8, s9, s10, s11] [(.int i2)])) _
  refine XS.iloadN X0.here hx rfl (hb hby d13_5) rfl ?_
  show Steps p.tables e below (T0.setTop (mkF m 6 #[s0, .val (.ref o1), .val (.int i2), .val (.int i3), .val (.int i2), s5, .unset, .unset, s8, s9, s10, s11] [(.int i3), (.int i2)])) _
  refine XS.icmpNo X0.here hx rfl (hb hby d13_6) rfl (tlt hc6).2.1 ?_
  show Steps p.tables e below (T0.setTop (mkF m 9 #[s0, .val (.ref o1), .val (.int i2), .val (.int i3), .val (.int i2), s5, .unset, .unset, s8, s9, s10, s11] [])) _
  refine XS.aloadN X0.here hx rfl (hb hby d13_9) rfl rfl ?_
  show Steps p.tables e below (T0.setTop (mkF m 10 #[s0, .val (.ref o1), .val (.int i2), .val (.int i3), .val (.int i2), s5, .unset, .unset, s8, s9, s10, s11] [(.ref o1)])) _
  refine XS.iload X0.here hx rfl (hb hby d13_10) rfl ?_
  show Steps p.tables e below (T0.setTop (mkF m 12 #[s0, .val (.ref o1), .val (.int i2), .val (.int i3), .val (.int i2), s5, .unset, .unset, s8, s9, s10, s11] [(.int i2), (.ref o1)])) _
  refine st5.trans ?_
  show Steps p.tables e below (T5.setTop (mkF m 15 #[s0, .val (.ref o1), .val (.int i2), .val (.int i3), .val (.int i2), s5, .unset, .unset, s8, s9, s10, s11] [(.int (cs.getD ii 0))])) _
  refine XS.bipush X5.here hx rfl (hb hby d13_15) ?_
  show Steps p.tables e below (T5.setTop (mkF m 17 #[s0, .val (.ref o1), .val (.int i2), .val (.int i3), .val (.int i2), s5, .unset, .unset, s8, s9, s10, s11] [(.int (45 : Int32)), (.int (cs.getD ii 0))])) _
  refine XS.icmpYes X5.here hx rfl (pc0 := 17) (pc' := 24) rfl (hb hby d13_17) rfl (feq (hk0 : ¬ ((cs.getD ii 0) = (45 : Int32)))).2 (by decide) (by decide) ?_
  show Steps p.tables e below (T5.setTop (mkF m 24 #[s0, .val (.ref o1), .val (.int i2), .val (.int i3), .val (.int i2), s5, .unset, .unset, s8, s9, s10, s11] [])) _
  refine XS.iconst X5.here hx rfl (hb hby d13_24) ?_
  show Steps p.tables e below (T5.setTop (mkF m 25 #[s0, .val (.ref o1), .val (.int i2), .val (.int i3), .val (.int i2), s5, .unset, .unset, s8, s9, s10, s11] [(.int (0 : Int32))])) _
  refine XS.istore X5.here hx rfl (hb hby d13_25) rfl (l' := #[s0, .val (.ref o1), .val (.int i2), .val (.int i3), .val (.int i2), .val (.int (0 : Int32)), .unset, .unset, s8, s9, s10, s11]) (os13_25_b2 hs5) ?_
  show Steps p.tables e below (T5.setTop (mkF m 27 #[s0, .val (.ref o1), .val (.int i2), .val (.int i3), .val (.int i2), .val (.int (0 : Int32)), .unset, .unset, s8, s9, s10, s11] [])) _
  refine XS.iload X5.here hx rfl (hb hby d13_27) rfl ?_
  show Steps p.tables e below (T5.setTop (mkF m 29 #[s0, .val (.ref o1), .val (.int i2), .val (.int i3), .val (.int i2), .val (.int (0 : Int32)), .unset, .unset, s8, s9, s10, s11] [(.int (0 : Int32))])) _
  refine XS.ifNo X5.here hx rfl (hb hby d13_29) rfl ((if0 _ _).trans (teq (rfl : (0 : Int32) = (0 : Int32))).2) ?_
  show Steps p.tables e below (T5.setTop (mkF m 32 #[s0, .val (.ref o1), .val (.int i2), .val (.int i3), .val (.int i2), .val (.int (0 : Int32)), .unset, .unset, s8, s9, s10, s11] [])) _
  refine XS.iload X5.here hx rfl (hb hby d13_32) rfl ?_
  show Steps p.tables e below (T5.setTop (mkF m 34 #[s0, .val (.ref o1), .val (.int i2), .val (.int i3), .val (.int i2), .val (.int (0 : Int32)), .unset, .unset, s8, s9, s10, s11] [(.int i2)])) _
  refine XS.iloadN X5.here hx rfl (hb hby d13_34) rfl ?_
  show Steps p.tables e below (T5.setTop (mkF m 35 #[s0, .val (.ref o1), .val (.int i2), .val (.int i3), .val (.int i2), .val (.int (0 : Int32)), .unset, .unset, s8, s9, s10, s11] [(.int i3), (.int i2)])) _
  refine XS.icmpNo X5.here hx rfl (hb hby d13_35) rfl (tlt hc35).2.1 ?_
  show Steps p.tables e below (T5.setTop (mkF m 38 #[s0, .val (.ref o1), .val (.int i2), .val (.int i3), .val (.int i2), .val (.int (0 : Int32)), .unset, .unset, s8, s9, s10, s11] [])) _
  refine XS.aloadN X5.here hx rfl (hb hby d13_38) rfl rfl ?_
  show Steps p.tables e below (T5.setTop (mkF m 39 #[s0, .val (.ref o1), .val (.int i2), .val (.int i3), .val (.int i2), .val (.int (0 : Int32)), .unset, .unset, s8, s9, s10, s11] [(.ref o1)])) _
  refine XS.iload X5.here hx rfl (hb hby d13_39) rfl ?_
  show Steps p.tables e below (T5.setTop (mkF m 41 #[s0, .val (.ref o1), .val (.int i2), .val (.int i3), .val (.int i2), .val (.int (0 : Int32)), .unset, .unset, s8, s9, s10, s11] [(.int i2), (.ref o1)])) _
  refine st6.trans ?_
  show Steps p.tables e below (T6.setTop (mkF m 44 #[s0, .val (.ref o1), .val (.int i2), .val (.int i3), .val (.int i2), .val (.int (0 : Int32)), .unset, .unset, s8, s9, s10, s11] [(.int (cs.getD ii 0))])) _
  refine XS.bipush X6.here hx rfl (hb hby d13_44) ?_
  show Steps p.tables e below (T6.setTop (mkF m 46 #[s0, .val (.ref o1), .val (.int i2), .val (.int i3), .val (.int i2), .val (.int (0 : Int32)), .unset, .unset, s8, s9, s10, s11] [(.int (43 : Int32)), (.int (cs.getD ii 0))])) _
  refine XS.icmpNo X6.here hx rfl (hb hby d13_46) rfl (teq (hk1 : (cs.getD ii 0) = (43 : Int32))).2 ?_
  show Steps p.tables e below (T6.setTop (mkF m 49 #[s0, .val (.ref o1), .val (.int i2), .val (.int i3), .val (.int i2), .val (.int (0 : Int32)), .unset, .unset, s8, s9, s10, s11] [])) _
  refine XS.iinc X6.here hx rfl (hb hby d13_49) rfl (l' := #[s0, .val (.ref o1), .val (.int i2), .val (.int i3), .val (.int (i2 + (1 : Int32))), .val (.int (0 : Int32)), .unset, .unset, s8, s9, s10, s11]) rfl ?_
  show Steps p.tables e below (T6.setTop (mkF m 52 #[s0, .val (.ref o1), .val (.int i2), .val (.int i3), .val (.int (i2 + (1 : Int32))), .val (.int (0 : Int32)), .unset, .unset, s8, s9, s10, s11] [])) _
  refine XS.lconst X6.here hx rfl (hb hby d13_52) ?_
  show Steps p.tables e below (T6.setTop (mkF m 53 #[s0, .val (.ref o1), .val (.int i2), .val (.int i3), .val (.int (i2 + (1 : Int32))), .val (.int (0 : Int32)), .unset, .unset, s8, s9, s10, s11] [(.long (0 : Int64))])) _
  refine XS.lstore X6.here hx rfl (hb hby d13_53) rfl (l' := #[s0, .val (.ref o1), .val (.int i2), .val (.int i3), .val (.int (i2 + (1 : Int32))), .val (.int (0 : Int32)), .val (.long (0 : Int64)), .second, s8, s9, s10, s11]) rfl ?_
  show Steps p.tables e below (T6.setTop (mkF m 55 #[s0, .val (.ref o1), .val (.int i2), .val (.int i3), .val (.int (i2 + (1 : Int32))), .val (.int (0 : Int32)), .val (.long (0 : Int64)), .second, s8, s9, s10, s11] [])) _
  refine XS.iconst X6.here hx rfl (hb hby d13_55) ?_
  show Steps p.tables e below (T6.setTop (mkF m 56 #[s0, .val (.ref o1), .val (.int i2), .val (.int i3), .val (.int (i2 + (1 : Int32))), .val (.int (0 : Int32)), .val (.long (0 : Int64)), .second, s8, s9, s10, s11] [(.int (0 : Int32))])) _
  refine XS.istore X6.here hx rfl (hb hby d13_56) rfl (l' := #[s0, .val (.ref o1), .val (.int i2), .val (.int i3), .val (.int (i2 + (1 : Int32))), .val (.int (0 : Int32)), .val (.long (0 : Int64)), .second, .val (.int (0 : Int32)), s9, s10, s11]) (os13_56_b2 hs8) ?_
  show Steps p.tables e below (T6.setTop (mkF m 58 #[s0, .val (.ref o1), .val (.int i2), .val (.int i3), .val (.int (i2 + (1 : Int32))), .val (.int (0 : Int32)), .val (.long (0 : Int64)), .second, .val (.int (0 : Int32)), s9, s10, s11] [])) _
  refine XS.iconst X6.here hx rfl (hb hby d13_58) ?_
  show Steps p.tables e below (T6.setTop (mkF m 59 #[s0, .val (.ref o1), .val (.int i2), .val (.int i3), .val (.int (i2 + (1 : Int32))), .val (.int (0 : Int32)), .val (.long (0 : Int64)), .second, .val (.int (0 : Int32)), s9, s10, s11] [(.int (0 : Int32))])) _
  refine XS.istore X6.here hx rfl (hb hby d13_59) rfl (l' := #[s0, .val (.ref o1), .val (.int i2), .val (.int i3), .val (.int (i2 + (1 : Int32))), .val (.int (0 : Int32)), .val (.long (0 : Int64)), .second, .val (.int (0 : Int32)), .val (.int (0 : Int32)), s10, s11]) (os13_59_b2 hs9) ?_
  show Steps p.tables e below (T6.setTop (mkF m 61 #[s0, .val (.ref o1), .val (.int i2), .val (.int i3), .val (.int (i2 + (1 : Int32))), .val (.int (0 : Int32)), .val (.long (0 : Int64)), .second, .val (.int (0 : Int32)), .val (.int (0 : Int32)), s10, s11] [])) _
  refine XS.iconst X6.here hx rfl (hb hby d13_61) ?_
  show Steps p.tables e below (T6.setTop (mkF m 62 #[s0, .val (.ref o1), .val (.int i2), .val (.int i3), .val (.int (i2 + (1 : Int32))), .val (.int (0 : Int32)), .val (.long (0 : Int64)), .second, .val (.int (0 : Int32)), .val (.int (0 : Int32)), s10, s11] [(.int (0 : Int32))])) _
  refine XS.istore X6.here hx rfl (hb hby d13_62) rfl (l' := #[s0, .val (.ref o1), .val (.int i2), .val (.int i3), .val (.int (i2 + (1 : Int32))), .val (.int (0 : Int32)), .val (.long (0 : Int64)), .second, .val (.int (0 : Int32)), .val (.int (0 : Int32)), .val (.int (0 : Int32)), s11]) (os13_62_b2 hs10) ?_
  exact kt
theorem os13_1_b3 {s0 : Slot} {z1 : Value} {z2 : Value} {z3 : Value} {s4 : Slot} {s5 : Slot} {s6 : Slot} {s7 : Slot} {s8 : Slot} {s9 : Slot} {s10 : Slot} {s11 : Slot} {v : Int32} (h : One s4) : storeLocals #[s0, .val z1, .val z2, .val z3, s4, s5, s6, s7, s8, s9, s10, s11] 4 (.int v) = some #[s0, .val z1, .val z2, .val z3, .val (.int v), s5, s6, s7, s8, s9, s10, s11] := by
  rcases h with rfl | ⟨w, rfl, hw⟩
  · rfl
  · cases w <;> first | rfl | (simp [Value.category] at hw)
theorem os13_25_b3 {s0 : Slot} {z1 : Value} {z2 : Value} {z3 : Value} {z4 : Value} {s5 : Slot} {s6 : Slot} {s7 : Slot} {s8 : Slot} {s9 : Slot} {s10 : Slot} {s11 : Slot} {v : Int32} (h : One s5) : storeLocals #[s0, .val z1, .val z2, .val z3, .val z4, s5, s6, s7, s8, s9, s10, s11] 5 (.int v) = some #[s0, .val z1, .val z2, .val z3, .val z4, .val (.int v), s6, s7, s8, s9, s10, s11] := by
  rcases h with rfl | ⟨w, rfl, hw⟩
  · rfl
  · cases w <;> first | rfl | (simp [Value.category] at hw)
theorem os13_56_b3 {s0 : Slot} {z1 : Value} {z2 : Value} {z3 : Value} {z4 : Value} {z5 : Value} {z6 : Value} {s8 : Slot} {s9 : Slot} {s10 : Slot} {s11 : Slot} {v : Int32} (h : One s8) : storeLocals #[s0, .val z1, .val z2, .val z3, .val z4, .val z5, .val z6, .second, s8, s9, s10, s11] 8 (.int v) = some #[s0, .val z1, .val z2, .val z3, .val z4, .val z5, .val z6, .second, .val (.int v), s9, s10, s11] := by
  rcases h with rfl | ⟨w, rfl, hw⟩
  · rfl
  · cases w <;> first | rfl | (simp [Value.category] at hw)
theorem os13_59_b3 {s0 : Slot} {z1 : Value} {z2 : Value} {z3 : Value} {z4 : Value} {z5 : Value} {z6 : Value} {z8 : Value} {s9 : Slot} {s10 : Slot} {s11 : Slot} {v : Int32} (h : One s9) : storeLocals #[s0, .val z1, .val z2, .val z3, .val z4, .val z5, .val z6, .second, .val z8, s9, s10, s11] 9 (.int v) = some #[s0, .val z1, .val z2, .val z3, .val z4, .val z5, .val z6, .second, .val z8, .val (.int v), s10, s11] := by
  rcases h with rfl | ⟨w, rfl, hw⟩
  · rfl
  · cases w <;> first | rfl | (simp [Value.category] at hw)
theorem os13_62_b3 {s0 : Slot} {z1 : Value} {z2 : Value} {z3 : Value} {z4 : Value} {z5 : Value} {z6 : Value} {z8 : Value} {z9 : Value} {s10 : Slot} {s11 : Slot} {v : Int32} (h : One s10) : storeLocals #[s0, .val z1, .val z2, .val z3, .val z4, .val z5, .val z6, .second, .val z8, .val z9, s10, s11] 10 (.int v) = some #[s0, .val z1, .val z2, .val z3, .val z4, .val z5, .val z6, .second, .val z8, .val z9, .val (.int v), s11] := by
  rcases h with rfl | ⟨w, rfl, hw⟩
  · rfl
  · cases w <;> first | rfl | (simp [Value.category] at hw)
set_option maxRecDepth 65536 in
set_option maxHeartbeats 40000000 in
theorem b3 {p : Program} {l : Launch} {e : Env} {s : State} {m : MethodId} {args : Array Value} {below : List Frame} {meth : Method} {c : Code} {T0 : State} {locs : List Loc} {cells slots : Nat} {Z : State} {a0 : Array Value} {h0 : Heap} (s0 : Slot) (o1 : Addr) (i2 : Int32) (i3 : Int32) (s4 : Slot) (s5 : Slot) (s8 : Slot) (s9 : Slot) (s10 : Slot) (s11 : Slot) (cs : List Int32) (ii : Nat) (n0 : Nat)
    (X0 : Stand p l e own_R13 s m args below meth c T0 locs cells slots) (hx : p.tables.exec = Jvm.exec) (hZ : Z.Warmed39 s.vm) (hw : ∀ d ∈ tables_1, d.before a0 Z = true) (hby : c.code = prog_8_method_2_code) (hml : c.maxLocals = 12) (hown : s.vm.findClass "com/example/bandmark/bandmark/PlainDecimal" = some m.cls) (e0 : T0.heap = h0) (TX : own_Tx Z h0 o1 cs) (hi : ii < cs.length) (hj : i2 = Int32.ofNat ii) (Z0 : n0 ≤ h0.size) (N0 : Fr n0 locs) (hcl : cells ≤ own_R13.cells) (hsl : slots ≤ own_R13.slots) (hs4 : One s4) (hs5 : One s5) (hs8 : One s8) (hs9 : One s9) (hs10 : One s10) (hc6 : i2 < i3) (hc35 : i2 < i3) (hk0 : ¬ ((cs.getD ii 0) = (45 : Int32))) (hk1 : ¬ ((cs.getD ii 0) = (43 : Int32))) :
    ∃ (T' : State) (locs' : List Loc), Stand p l e own_R13 s m args below meth c T' locs' cells slots ∧ Fr n0 locs' ∧ T'.heap = h0 ∧
      ∀ target, Steps p.tables e below (T'.setTop (mkF m 64 #[s0, .val (.ref o1), .val (.int i2), .val (.int i3), .val (.int i2), .val (.int (0 : Int32)), .val (.long (0 : Int64)), .second, .val (.int (0 : Int32)), .val (.int (0 : Int32)), .val (.int (0 : Int32)), s11] [])) target → Steps p.tables e below (T0.setTop (mkF m 0 #[s0, .val (.ref o1), .val (.int i2), .val (.int i3), s4, s5, .unset, .unset, s8, s9, s10, s11] [])) target := by
  obtain ⟨cq5, kq5, q5a, q5b, q5c⟩ := isOf hZ e0 TX.exa
  obtain ⟨_, _, ⟨T5, L5, k5, n5⟩, -, X5, ⟨Lc5, hQ5, l5, y5, z5⟩, st5⟩ := X0.virtualBack hx (y := (⟨"java/lang/String", "charAt", "(I)C"⟩ : MethodName)) (z := (⟨"java/lang/String", "charAt", "(I)C"⟩ : MethodName)) hown (mvT hZ (hw _ (List.mem_of_getElem? (i := 70) rfl))) (mvT hZ (hw _ (List.mem_of_getElem? (i := 71) rfl))) (notFace_of_selects (args := #[]) (mvT hZ (hw _ (List.mem_of_getElem? (i := 73) rfl)))) (mvT hZ (hw _ (List.mem_of_getElem? (i := 73) rfl))) (mvT hZ (hw _ (List.mem_of_getElem? (i := 72) rfl))) (by decide) (own_ch (W := 0) hZ hw TX (i := ii) (j := i2) hi hj n0 (by decide) (by decide)) q5a q5c (g := (mkF m 12 #[s0, .val (.ref o1), .val (.int i2), .val (.int i3), .val (.int i2), s5, .unset, .unset, s8, s9, s10, s11] [(.int i2), (.ref o1)])) rfl (by rw [hml]; rfl) (Steps.refl _) (argsL := [(.int i2)]) (rest := []) (lenOf pd_13_13 rfl) rfl (by show 2 * 0 + _ ≤ _; exact Nat.le_of_eq rfl) (hb hby d13_12) (fun _ _ => ⟨rfl, e0, hcl, hsl⟩)
  dsimp only [Pt.U, Pt.locs, Pt.cells, Pt.slots] at X5 l5 y5 z5 st5 hQ5
  subst l5 y5 z5
  obtain ⟨rfl, N5q, e5⟩ := hQ5
  have N5 := Fr.app N0 N5q
  obtain ⟨cq6, kq6, q6a, q6b, q6c⟩ := isOf hZ e5 TX.exa
  obtain ⟨_, _, ⟨T6, L6, k6, n6⟩, -, X6, ⟨Lc6, hQ6, l6, y6, z6⟩, st6⟩ := X5.virtualBack hx (y := (⟨"java/lang/String", "charAt", "(I)C"⟩ : MethodName)) (z := (⟨"java/lang/String", "charAt", "(I)C"⟩ : MethodName)) hown (mvT hZ (hw _ (List.mem_of_getElem? (i := 70) rfl))) (mvT hZ (hw _ (List.mem_of_getElem? (i := 71) rfl))) (notFace_of_selects (args := #[]) (mvT hZ (hw _ (List.mem_of_getElem? (i := 73) rfl)))) (mvT hZ (hw _ (List.mem_of_getElem? (i := 73) rfl))) (mvT hZ (hw _ (List.mem_of_getElem? (i := 72) rfl))) (by decide) (own_ch (W := 0) hZ hw TX (i := ii) (j := i2) hi hj n0 (by decide) (by decide)) q6a q6c (g := (mkF m 41 #[s0, .val (.ref o1), .val (.int i2), .val (.int i3), .val (.int i2), .val (.int (0 : Int32)), .unset, .unset, s8, s9, s10, s11] [(.int i2), (.ref o1)])) rfl (by rw [hml]; rfl) (Steps.refl _) (argsL := [(.int i2)]) (rest := []) (lenOf pd_13_13 rfl) rfl (by show 2 * 0 + _ ≤ _; exact Nat.le_of_eq rfl) (hb hby d13_41) (fun _ _ => ⟨rfl, e5, hcl, hsl⟩)
  dsimp only [Pt.U, Pt.locs, Pt.cells, Pt.slots] at X6 l6 y6 z6 st6 hQ6
  subst l6 y6 z6
  obtain ⟨rfl, N6q, e6⟩ := hQ6
  have N6 := Fr.app N5 N6q
  refine ⟨T6, _, X6, N6, e6, fun target kt => ?_⟩
  show Steps p.tables e below (T0.setTop (mkF m 0 #[s0, .val (.ref o1), .val (.int i2), .val (.int i3), s4, s5, .unset, .unset, s8, s9, s10, s11] [])) _
  refine XS.iloadN X0.here hx rfl (hb hby d13_0) rfl ?_
  show Steps p.tables e below (T0.setTop (mkF m 1 #[s0, .val (.ref o1), .val (.int i2), .val (.int i3), s4, s5, .unset, .unset, s8, s9, s10, s11] [(.int i2)])) _
  refine XS.istore X0.here hx rfl (hb hby d13_1) rfl (l' := #[s0, .val (.ref o1), .val (.int i2), .val (.int i3), .val (.int i2), s5, .unset, .unset, s8, s9, s10, s11]) (os13_1_b3 hs4) ?_
  show Steps p.tables e below (T0.setTop (mkF m 3 #[s0, .val (.ref o1), .val (.int i2), .val (.int i3), .val (.int i2), s5, .unset, .unset, s8, s9, s10, s11] [])) _
  refine XS.iload X0.here hx rfl (hb hby d13_3) rfl ?_
  show Steps p.tables e below (T0.setTop (mkF m 5 #[s0, .val (.ref o1), .val (.int i2), .val (.int i3), .val (.int i2), s5, .unset, .unset, s8, s9, s10, s11] [(.int i2)])) _
  refine XS.iloadN X0.here hx rfl (hb hby d13_5) rfl ?_
  show Steps p.tables e below (T0.setTop (mkF m 6 #[s0, .val (.ref o1), .val (.int i2), .val (.int i3), .val (.int i2), s5, .unset, .unset, s8, s9, s10, s11] [(.int i3), (.int i2)])) _
  refine XS.icmpNo X0.here hx rfl (hb hby d13_6) rfl (tlt hc6).2.1 ?_
  show Steps p.tables e below (T0.setTop (mkF m 9 #[s0, .val (.ref o1), .val (.int i2), .val (.int i3), .val (.int i2), s5, .unset, .unset, s8, s9, s10, s11] [])) _
  refine XS.aloadN X0.here hx rfl (hb hby d13_9) rfl rfl ?_
  show Steps p.tables e below (T0.setTop (mkF m 10 #[s0, .val (.ref o1), .val (.int i2), .val (.int i3), .val (.int i2), s5, .unset, .unset, s8, s9, s10, s11] [(.ref o1)])) _
  refine XS.iload X0.here hx rfl (hb hby d13_10) rfl ?_
  show Steps p.tables e below (T0.setTop (mkF m 12 #[s0, .val (.ref o1), .val (.int i2), .val (.int i3), .val (.int i2), s5, .unset, .unset, s8, s9, s10, s11] [(.int i2), (.ref o1)])) _
  refine st5.trans ?_
  show Steps p.tables e below (T5.setTop (mkF m 15 #[s0, .val (.ref o1), .val (.int i2), .val (.int i3), .val (.int i2), s5, .unset, .unset, s8, s9, s10, s11] [(.int (cs.getD ii 0))])) _
  refine XS.bipush X5.here hx rfl (hb hby d13_15) ?_
  show Steps p.tables e below (T5.setTop (mkF m 17 #[s0, .val (.ref o1), .val (.int i2), .val (.int i3), .val (.int i2), s5, .unset, .unset, s8, s9, s10, s11] [(.int (45 : Int32)), (.int (cs.getD ii 0))])) _
  refine XS.icmpYes X5.here hx rfl (pc0 := 17) (pc' := 24) rfl (hb hby d13_17) rfl (feq (hk0 : ¬ ((cs.getD ii 0) = (45 : Int32)))).2 (by decide) (by decide) ?_
  show Steps p.tables e below (T5.setTop (mkF m 24 #[s0, .val (.ref o1), .val (.int i2), .val (.int i3), .val (.int i2), s5, .unset, .unset, s8, s9, s10, s11] [])) _
  refine XS.iconst X5.here hx rfl (hb hby d13_24) ?_
  show Steps p.tables e below (T5.setTop (mkF m 25 #[s0, .val (.ref o1), .val (.int i2), .val (.int i3), .val (.int i2), s5, .unset, .unset, s8, s9, s10, s11] [(.int (0 : Int32))])) _
  refine XS.istore X5.here hx rfl (hb hby d13_25) rfl (l' := #[s0, .val (.ref o1), .val (.int i2), .val (.int i3), .val (.int i2), .val (.int (0 : Int32)), .unset, .unset, s8, s9, s10, s11]) (os13_25_b3 hs5) ?_
  show Steps p.tables e below (T5.setTop (mkF m 27 #[s0, .val (.ref o1), .val (.int i2), .val (.int i3), .val (.int i2), .val (.int (0 : Int32)), .unset, .unset, s8, s9, s10, s11] [])) _
  refine XS.iload X5.here hx rfl (hb hby d13_27) rfl ?_
  show Steps p.tables e below (T5.setTop (mkF m 29 #[s0, .val (.ref o1), .val (.int i2), .val (.int i3), .val (.int i2), .val (.int (0 : Int32)), .unset, .unset, s8, s9, s10, s11] [(.int (0 : Int32))])) _
  refine XS.ifNo X5.here hx rfl (hb hby d13_29) rfl ((if0 _ _).trans (teq (rfl : (0 : Int32) = (0 : Int32))).2) ?_
  show Steps p.tables e below (T5.setTop (mkF m 32 #[s0, .val (.ref o1), .val (.int i2), .val (.int i3), .val (.int i2), .val (.int (0 : Int32)), .unset, .unset, s8, s9, s10, s11] [])) _
  refine XS.iload X5.here hx rfl (hb hby d13_32) rfl ?_
  show Steps p.tables e below (T5.setTop (mkF m 34 #[s0, .val (.ref o1), .val (.int i2), .val (.int i3), .val (.int i2), .val (.int (0 : Int32)), .unset, .unset, s8, s9, s10, s11] [(.int i2)])) _
  refine XS.iloadN X5.here hx rfl (hb hby d13_34) rfl ?_
  show Steps p.tables e below (T5.setTop (mkF m 35 #[s0, .val (.ref o1), .val (.int i2), .val (.int i3), .val (.int i2), .val (.int (0 : Int32)), .unset, .unset, s8, s9, s10, s11] [(.int i3), (.int i2)])) _
  refine XS.icmpNo X5.here hx rfl (hb hby d13_35) rfl (tlt hc35).2.1 ?_
  show Steps p.tables e below (T5.setTop (mkF m 38 #[s0, .val (.ref o1), .val (.int i2), .val (.int i3), .val (.int i2), .val (.int (0 : Int32)), .unset, .unset, s8, s9, s10, s11] [])) _
  refine XS.aloadN X5.here hx rfl (hb hby d13_38) rfl rfl ?_
  show Steps p.tables e below (T5.setTop (mkF m 39 #[s0, .val (.ref o1), .val (.int i2), .val (.int i3), .val (.int i2), .val (.int (0 : Int32)), .unset, .unset, s8, s9, s10, s11] [(.ref o1)])) _
  refine XS.iload X5.here hx rfl (hb hby d13_39) rfl ?_
  show Steps p.tables e below (T5.setTop (mkF m 41 #[s0, .val (.ref o1), .val (.int i2), .val (.int i3), .val (.int i2), .val (.int (0 : Int32)), .unset, .unset, s8, s9, s10, s11] [(.int i2), (.ref o1)])) _
  refine st6.trans ?_
  show Steps p.tables e below (T6.setTop (mkF m 44 #[s0, .val (.ref o1), .val (.int i2), .val (.int i3), .val (.int i2), .val (.int (0 : Int32)), .unset, .unset, s8, s9, s10, s11] [(.int (cs.getD ii 0))])) _
  refine XS.bipush X6.here hx rfl (hb hby d13_44) ?_
  show Steps p.tables e below (T6.setTop (mkF m 46 #[s0, .val (.ref o1), .val (.int i2), .val (.int i3), .val (.int i2), .val (.int (0 : Int32)), .unset, .unset, s8, s9, s10, s11] [(.int (43 : Int32)), (.int (cs.getD ii 0))])) _
  refine XS.icmpYes X6.here hx rfl (pc0 := 46) (pc' := 52) rfl (hb hby d13_46) rfl (feq (hk1 : ¬ ((cs.getD ii 0) = (43 : Int32)))).2 (by decide) (by decide) ?_
  show Steps p.tables e below (T6.setTop (mkF m 52 #[s0, .val (.ref o1), .val (.int i2), .val (.int i3), .val (.int i2), .val (.int (0 : Int32)), .unset, .unset, s8, s9, s10, s11] [])) _
  refine XS.lconst X6.here hx rfl (hb hby d13_52) ?_
  show Steps p.tables e below (T6.setTop (mkF m 53 #[s0, .val (.ref o1), .val (.int i2), .val (.int i3), .val (.int i2), .val (.int (0 : Int32)), .unset, .unset, s8, s9, s10, s11] [(.long (0 : Int64))])) _
  refine XS.lstore X6.here hx rfl (hb hby d13_53) rfl (l' := #[s0, .val (.ref o1), .val (.int i2), .val (.int i3), .val (.int i2), .val (.int (0 : Int32)), .val (.long (0 : Int64)), .second, s8, s9, s10, s11]) rfl ?_
  show Steps p.tables e below (T6.setTop (mkF m 55 #[s0, .val (.ref o1), .val (.int i2), .val (.int i3), .val (.int i2), .val (.int (0 : Int32)), .val (.long (0 : Int64)), .second, s8, s9, s10, s11] [])) _
  refine XS.iconst X6.here hx rfl (hb hby d13_55) ?_
  show Steps p.tables e below (T6.setTop (mkF m 56 #[s0, .val (.ref o1), .val (.int i2), .val (.int i3), .val (.int i2), .val (.int (0 : Int32)), .val (.long (0 : Int64)), .second, s8, s9, s10, s11] [(.int (0 : Int32))])) _
  refine XS.istore X6.here hx rfl (hb hby d13_56) rfl (l' := #[s0, .val (.ref o1), .val (.int i2), .val (.int i3), .val (.int i2), .val (.int (0 : Int32)), .val (.long (0 : Int64)), .second, .val (.int (0 : Int32)), s9, s10, s11]) (os13_56_b3 hs8) ?_
  show Steps p.tables e below (T6.setTop (mkF m 58 #[s0, .val (.ref o1), .val (.int i2), .val (.int i3), .val (.int i2), .val (.int (0 : Int32)), .val (.long (0 : Int64)), .second, .val (.int (0 : Int32)), s9, s10, s11] [])) _
  refine XS.iconst X6.here hx rfl (hb hby d13_58) ?_
  show Steps p.tables e below (T6.setTop (mkF m 59 #[s0, .val (.ref o1), .val (.int i2), .val (.int i3), .val (.int i2), .val (.int (0 : Int32)), .val (.long (0 : Int64)), .second, .val (.int (0 : Int32)), s9, s10, s11] [(.int (0 : Int32))])) _
  refine XS.istore X6.here hx rfl (hb hby d13_59) rfl (l' := #[s0, .val (.ref o1), .val (.int i2), .val (.int i3), .val (.int i2), .val (.int (0 : Int32)), .val (.long (0 : Int64)), .second, .val (.int (0 : Int32)), .val (.int (0 : Int32)), s10, s11]) (os13_59_b3 hs9) ?_
  show Steps p.tables e below (T6.setTop (mkF m 61 #[s0, .val (.ref o1), .val (.int i2), .val (.int i3), .val (.int i2), .val (.int (0 : Int32)), .val (.long (0 : Int64)), .second, .val (.int (0 : Int32)), .val (.int (0 : Int32)), s10, s11] [])) _
  refine XS.iconst X6.here hx rfl (hb hby d13_61) ?_
  show Steps p.tables e below (T6.setTop (mkF m 62 #[s0, .val (.ref o1), .val (.int i2), .val (.int i3), .val (.int i2), .val (.int (0 : Int32)), .val (.long (0 : Int64)), .second, .val (.int (0 : Int32)), .val (.int (0 : Int32)), s10, s11] [(.int (0 : Int32))])) _
  refine XS.istore X6.here hx rfl (hb hby d13_62) rfl (l' := #[s0, .val (.ref o1), .val (.int i2), .val (.int i3), .val (.int i2), .val (.int (0 : Int32)), .val (.long (0 : Int64)), .second, .val (.int (0 : Int32)), .val (.int (0 : Int32)), .val (.int (0 : Int32)), s11]) (os13_62_b3 hs10) ?_
  exact kt
theorem d13_64 : decode prog_8_method_2_code 64 = .ok (.iload 4, 2) := by decide +kernel
theorem d13_66 : decode prog_8_method_2_code 66 = .ok (.iload_n 3, 1) := by decide +kernel
theorem d13_67 : decode prog_8_method_2_code 67 = .ok (.if_icmp .ge 80, 3) := by decide +kernel
theorem d13_70 : decode prog_8_method_2_code 70 = .ok (.aload_n 1, 1) := by decide +kernel
theorem d13_71 : decode prog_8_method_2_code 71 = .ok (.iload 4, 2) := by decide +kernel
theorem d13_73 : decode prog_8_method_2_code 73 = .ok (.invokevirtual 7, 3) := by decide +kernel
theorem d13_76 : decode prog_8_method_2_code 76 = .ok (.istore 11, 2) := by decide +kernel
theorem d13_78 : decode prog_8_method_2_code 78 = .ok (.iload 11, 2) := by decide +kernel
theorem d13_80 : decode prog_8_method_2_code 80 = .ok (.bipush 48, 2) := by decide +kernel
theorem d13_82 : decode prog_8_method_2_code 82 = .ok (.if_icmp .lt 39, 3) := by decide +kernel
theorem d13_85 : decode prog_8_method_2_code 85 = .ok (.iload 11, 2) := by decide +kernel
theorem d13_87 : decode prog_8_method_2_code 87 = .ok (.bipush 57, 2) := by decide +kernel
theorem d13_89 : decode prog_8_method_2_code 89 = .ok (.if_icmp .gt 32, 3) := by decide +kernel
theorem d13_92 : decode prog_8_method_2_code 92 = .ok (.lload 6, 2) := by decide +kernel
theorem d13_94 : decode prog_8_method_2_code 94 = .ok (.ldc2_w 13, 3) := by decide +kernel
theorem d13_97 : decode prog_8_method_2_code 97 = .ok (.lmul, 1) := by decide +kernel
theorem d13_98 : decode prog_8_method_2_code 98 = .ok (.iload 11, 2) := by decide +kernel
theorem d13_100 : decode prog_8_method_2_code 100 = .ok (.bipush 48, 2) := by decide +kernel
theorem d13_102 : decode prog_8_method_2_code 102 = .ok (.isub, 1) := by decide +kernel
theorem d13_103 : decode prog_8_method_2_code 103 = .ok (.i2l, 1) := by decide +kernel
theorem d13_104 : decode prog_8_method_2_code 104 = .ok (.ladd, 1) := by decide +kernel
theorem d13_105 : decode prog_8_method_2_code 105 = .ok (.lstore 6, 2) := by decide +kernel
theorem d13_107 : decode prog_8_method_2_code 107 = .ok (.iinc 8 1, 3) := by decide +kernel
theorem d13_110 : decode prog_8_method_2_code 110 = .ok (.iload 10, 2) := by decide +kernel
theorem d13_112 : decode prog_8_method_2_code 112 = .ok (.ifCond .eq 29, 3) := by decide +kernel
theorem d13_141 : decode prog_8_method_2_code 141 = .ok (.iinc 4 1, 3) := by decide +kernel
theorem d13_144 : decode prog_8_method_2_code 144 = .ok (.goto (-80), 3) := by decide +kernel
theorem os13_76_t1 {s0 : Slot} {z1 : Value} {s2 : Slot} {z3 : Value} {z4 : Value} {s5 : Slot} {z6 : Value} {z8 : Value} {s9 : Slot} {z10 : Value} {s11 : Slot} {v : Int32} (h : One s11) : storeLocals #[s0, .val z1, s2, .val z3, .val z4, s5, .val z6, .second, .val z8, s9, .val z10, s11] 11 (.int v) = some #[s0, .val z1, s2, .val z3, .val z4, s5, .val z6, .second, .val z8, s9, .val z10, .val (.int v)] := by
  rcases h with rfl | ⟨w, rfl, hw⟩
  · rfl
  · cases w <;> first | rfl | (simp [Value.category] at hw)
set_option maxRecDepth 65536 in
set_option maxHeartbeats 40000000 in
theorem t1 {p : Program} {l : Launch} {e : Env} {s : State} {m : MethodId} {args : Array Value} {below : List Frame} {meth : Method} {c : Code} {T0 : State} {locs : List Loc} {cells slots : Nat} {Z : State} {a0 : Array Value} {h0 : Heap} (s0 : Slot) (o1 : Addr) (s2 : Slot) (i3 : Int32) (i4 : Int32) (s5 : Slot) (j6 : Int64) (i8 : Int32) (s9 : Slot) (i10 : Int32) (s11 : Slot) (cs : List Int32) (ii : Nat) (n0 : Nat)
    (X0 : Stand p l e own_R13 s m args below meth c T0 locs cells slots) (hx : p.tables.exec = Jvm.exec) (hZ : Z.Warmed39 s.vm) (hw : ∀ d ∈ tables_1, d.before a0 Z = true) (hby : c.code = prog_8_method_2_code) (hml : c.maxLocals = 12) (hown : s.vm.findClass "com/example/bandmark/bandmark/PlainDecimal" = some m.cls) (e0 : T0.heap = h0) (TX : own_Tx Z h0 o1 cs) (hi : ii < cs.length) (hj : i4 = Int32.ofNat ii) (Z0 : n0 ≤ h0.size) (N0 : Fr n0 locs) (hcl : cells ≤ own_R13.cells) (hsl : slots ≤ own_R13.slots) (hs11 : One s11) (hc67 : i4 < i3) (hc112 : i10 = (0 : Int32)) (hk0 : ¬ ((cs.getD ii 0) < (48 : Int32))) (hk1 : ¬ ((57 : Int32) < (cs.getD ii 0))) :
    ∃ (T' : State) (locs' : List Loc), Stand p l e own_R13 s m args below meth c T' locs' cells slots ∧ Fr n0 locs' ∧ T'.heap = h0 ∧
      ∀ target, Steps p.tables e below (T'.setTop (mkF m 64 #[s0, .val (.ref o1), s2, .val (.int i3), .val (.int (i4 + (1 : Int32))), s5, .val (.long ((j6 * (10 : Int64)) + (((cs.getD ii 0) - (48 : Int32)).toInt64))), .second, .val (.int (i8 + (1 : Int32))), s9, .val (.int i10), .val (.int (cs.getD ii 0))] [])) target → Steps p.tables e below (T0.setTop (mkF m 64 #[s0, .val (.ref o1), s2, .val (.int i3), .val (.int i4), s5, .val (.long j6), .second, .val (.int i8), s9, .val (.int i10), s11] [])) target := by
  obtain ⟨cq5, kq5, q5a, q5b, q5c⟩ := isOf hZ e0 TX.exa
  obtain ⟨_, _, ⟨T5, L5, k5, n5⟩, -, X5, ⟨Lc5, hQ5, l5, y5, z5⟩, st5⟩ := X0.virtualBack hx (y := (⟨"java/lang/String", "charAt", "(I)C"⟩ : MethodName)) (z := (⟨"java/lang/String", "charAt", "(I)C"⟩ : MethodName)) hown (mvT hZ (hw _ (List.mem_of_getElem? (i := 70) rfl))) (mvT hZ (hw _ (List.mem_of_getElem? (i := 71) rfl))) (notFace_of_selects (args := #[]) (mvT hZ (hw _ (List.mem_of_getElem? (i := 73) rfl)))) (mvT hZ (hw _ (List.mem_of_getElem? (i := 73) rfl))) (mvT hZ (hw _ (List.mem_of_getElem? (i := 72) rfl))) (by decide) (own_ch (W := 0) hZ hw TX (i := ii) (j := i4) hi hj n0 (by decide) (by decide)) q5a q5c (g := (mkF m 73 #[s0, .val (.ref o1), s2, .val (.int i3), .val (.int i4), s5, .val (.long j6), .second, .val (.int i8), s9, .val (.int i10), s11] [(.int i4), (.ref o1)])) rfl (by rw [hml]; rfl) (Steps.refl _) (argsL := [(.int i4)]) (rest := []) (lenOf pd_13_13 rfl) rfl (by show 2 * 0 + _ ≤ _; exact Nat.le_of_eq rfl) (hb hby d13_73) (fun _ _ => ⟨rfl, e0, hcl, hsl⟩)
  dsimp only [Pt.U, Pt.locs, Pt.cells, Pt.slots] at X5 l5 y5 z5 st5 hQ5
  subst l5 y5 z5
  obtain ⟨rfl, N5q, e5⟩ := hQ5
  have N5 := Fr.app N0 N5q
  refine ⟨T5, _, X5, N5, e5, fun target kt => ?_⟩
  show Steps p.tables e below (T0.setTop (mkF m 64 #[s0, .val (.ref o1), s2, .val (.int i3), .val (.int i4), s5, .val (.long j6), .second, .val (.int i8), s9, .val (.int i10), s11] [])) _
  refine XS.iload X0.here hx rfl (hb hby d13_64) rfl ?_
  show Steps p.tables e below (T0.setTop (mkF m 66 #[s0, .val (.ref o1), s2, .val (.int i3), .val (.int i4), s5, .val (.long j6), .second, .val (.int i8), s9, .val (.int i10), s11] [(.int i4)])) _
  refine XS.iloadN X0.here hx rfl (hb hby d13_66) rfl ?_
  show Steps p.tables e below (T0.setTop (mkF m 67 #[s0, .val (.ref o1), s2, .val (.int i3), .val (.int i4), s5, .val (.long j6), .second, .val (.int i8), s9, .val (.int i10), s11] [(.int i3), (.int i4)])) _
  refine XS.icmpNo X0.here hx rfl (hb hby d13_67) rfl (tlt hc67).2.1 ?_
  show Steps p.tables e below (T0.setTop (mkF m 70 #[s0, .val (.ref o1), s2, .val (.int i3), .val (.int i4), s5, .val (.long j6), .second, .val (.int i8), s9, .val (.int i10), s11] [])) _
  refine XS.aloadN X0.here hx rfl (hb hby d13_70) rfl rfl ?_
  show Steps p.tables e below (T0.setTop (mkF m 71 #[s0, .val (.ref o1), s2, .val (.int i3), .val (.int i4), s5, .val (.long j6), .second, .val (.int i8), s9, .val (.int i10), s11] [(.ref o1)])) _
  refine XS.iload X0.here hx rfl (hb hby d13_71) rfl ?_
  show Steps p.tables e below (T0.setTop (mkF m 73 #[s0, .val (.ref o1), s2, .val (.int i3), .val (.int i4), s5, .val (.long j6), .second, .val (.int i8), s9, .val (.int i10), s11] [(.int i4), (.ref o1)])) _
  refine st5.trans ?_
  show Steps p.tables e below (T5.setTop (mkF m 76 #[s0, .val (.ref o1), s2, .val (.int i3), .val (.int i4), s5, .val (.long j6), .second, .val (.int i8), s9, .val (.int i10), s11] [(.int (cs.getD ii 0))])) _
  refine XS.istore X5.here hx rfl (hb hby d13_76) rfl (l' := #[s0, .val (.ref o1), s2, .val (.int i3), .val (.int i4), s5, .val (.long j6), .second, .val (.int i8), s9, .val (.int i10), .val (.int (cs.getD ii 0))]) (os13_76_t1 hs11) ?_
  show Steps p.tables e below (T5.setTop (mkF m 78 #[s0, .val (.ref o1), s2, .val (.int i3), .val (.int i4), s5, .val (.long j6), .second, .val (.int i8), s9, .val (.int i10), .val (.int (cs.getD ii 0))] [])) _
  refine XS.iload X5.here hx rfl (hb hby d13_78) rfl ?_
  show Steps p.tables e below (T5.setTop (mkF m 80 #[s0, .val (.ref o1), s2, .val (.int i3), .val (.int i4), s5, .val (.long j6), .second, .val (.int i8), s9, .val (.int i10), .val (.int (cs.getD ii 0))] [(.int (cs.getD ii 0))])) _
  refine XS.bipush X5.here hx rfl (hb hby d13_80) ?_
  show Steps p.tables e below (T5.setTop (mkF m 82 #[s0, .val (.ref o1), s2, .val (.int i3), .val (.int i4), s5, .val (.long j6), .second, .val (.int i8), s9, .val (.int i10), .val (.int (cs.getD ii 0))] [(.int (48 : Int32)), (.int (cs.getD ii 0))])) _
  refine XS.icmpNo X5.here hx rfl (hb hby d13_82) rfl (flt (hk0 : ¬ ((cs.getD ii 0) < (48 : Int32)))).1 ?_
  show Steps p.tables e below (T5.setTop (mkF m 85 #[s0, .val (.ref o1), s2, .val (.int i3), .val (.int i4), s5, .val (.long j6), .second, .val (.int i8), s9, .val (.int i10), .val (.int (cs.getD ii 0))] [])) _
  refine XS.iload X5.here hx rfl (hb hby d13_85) rfl ?_
  show Steps p.tables e below (T5.setTop (mkF m 87 #[s0, .val (.ref o1), s2, .val (.int i3), .val (.int i4), s5, .val (.long j6), .second, .val (.int i8), s9, .val (.int i10), .val (.int (cs.getD ii 0))] [(.int (cs.getD ii 0))])) _
  refine XS.bipush X5.here hx rfl (hb hby d13_87) ?_
  show Steps p.tables e below (T5.setTop (mkF m 89 #[s0, .val (.ref o1), s2, .val (.int i3), .val (.int i4), s5, .val (.long j6), .second, .val (.int i8), s9, .val (.int i10), .val (.int (cs.getD ii 0))] [(.int (57 : Int32)), (.int (cs.getD ii 0))])) _
  refine XS.icmpNo X5.here hx rfl (hb hby d13_89) rfl (flt (hk1 : ¬ ((57 : Int32) < (cs.getD ii 0)))).2.2.1 ?_
  show Steps p.tables e below (T5.setTop (mkF m 92 #[s0, .val (.ref o1), s2, .val (.int i3), .val (.int i4), s5, .val (.long j6), .second, .val (.int i8), s9, .val (.int i10), .val (.int (cs.getD ii 0))] [])) _
  refine XS.lload X5.here hx rfl (hb hby d13_92) rfl ?_
  show Steps p.tables e below (T5.setTop (mkF m 94 #[s0, .val (.ref o1), s2, .val (.int i3), .val (.int i4), s5, .val (.long j6), .second, .val (.int i8), s9, .val (.int i10), .val (.int (cs.getD ii 0))] [(.long j6)])) _
  refine X5.ldc2Long hx hown (mvT hZ (hw _ (List.mem_of_getElem? (i := 91) rfl))) (g := (mkF m 94 #[s0, .val (.ref o1), s2, .val (.int i3), .val (.int i4), s5, .val (.long j6), .second, .val (.int i8), s9, .val (.int i10), .val (.int (cs.getD ii 0))] [(.long j6)])) rfl (hb hby d13_94) _ ?_
  show Steps p.tables e below (T5.setTop (mkF m 97 #[s0, .val (.ref o1), s2, .val (.int i3), .val (.int i4), s5, .val (.long j6), .second, .val (.int i8), s9, .val (.int i10), .val (.int (cs.getD ii 0))] [(.long (10 : Int64)), (.long j6)])) _
  refine XS.lmul X5.here hx rfl (hb hby d13_97) rfl ?_
  show Steps p.tables e below (T5.setTop (mkF m 98 #[s0, .val (.ref o1), s2, .val (.int i3), .val (.int i4), s5, .val (.long j6), .second, .val (.int i8), s9, .val (.int i10), .val (.int (cs.getD ii 0))] [(.long (j6 * (10 : Int64)))])) _
  refine XS.iload X5.here hx rfl (hb hby d13_98) rfl ?_
  show Steps p.tables e below (T5.setTop (mkF m 100 #[s0, .val (.ref o1), s2, .val (.int i3), .val (.int i4), s5, .val (.long j6), .second, .val (.int i8), s9, .val (.int i10), .val (.int (cs.getD ii 0))] [(.int (cs.getD ii 0)), (.long (j6 * (10 : Int64)))])) _
  refine XS.bipush X5.here hx rfl (hb hby d13_100) ?_
  show Steps p.tables e below (T5.setTop (mkF m 102 #[s0, .val (.ref o1), s2, .val (.int i3), .val (.int i4), s5, .val (.long j6), .second, .val (.int i8), s9, .val (.int i10), .val (.int (cs.getD ii 0))] [(.int (48 : Int32)), (.int (cs.getD ii 0)), (.long (j6 * (10 : Int64)))])) _
  refine XS.isub X5.here hx rfl (hb hby d13_102) rfl ?_
  show Steps p.tables e below (T5.setTop (mkF m 103 #[s0, .val (.ref o1), s2, .val (.int i3), .val (.int i4), s5, .val (.long j6), .second, .val (.int i8), s9, .val (.int i10), .val (.int (cs.getD ii 0))] [(.int ((cs.getD ii 0) - (48 : Int32))), (.long (j6 * (10 : Int64)))])) _
  refine XS.i2l X5.here hx rfl (hb hby d13_103) rfl ?_
  show Steps p.tables e below (T5.setTop (mkF m 104 #[s0, .val (.ref o1), s2, .val (.int i3), .val (.int i4), s5, .val (.long j6), .second, .val (.int i8), s9, .val (.int i10), .val (.int (cs.getD ii 0))] [(.long (((cs.getD ii 0) - (48 : Int32)).toInt64)), (.long (j6 * (10 : Int64)))])) _
  refine XS.ladd X5.here hx rfl (hb hby d13_104) rfl ?_
  show Steps p.tables e below (T5.setTop (mkF m 105 #[s0, .val (.ref o1), s2, .val (.int i3), .val (.int i4), s5, .val (.long j6), .second, .val (.int i8), s9, .val (.int i10), .val (.int (cs.getD ii 0))] [(.long ((j6 * (10 : Int64)) + (((cs.getD ii 0) - (48 : Int32)).toInt64)))])) _
  refine XS.lstore X5.here hx rfl (hb hby d13_105) rfl (l' := #[s0, .val (.ref o1), s2, .val (.int i3), .val (.int i4), s5, .val (.long ((j6 * (10 : Int64)) + (((cs.getD ii 0) - (48 : Int32)).toInt64))), .second, .val (.int i8), s9, .val (.int i10), .val (.int (cs.getD ii 0))]) rfl ?_
  show Steps p.tables e below (T5.setTop (mkF m 107 #[s0, .val (.ref o1), s2, .val (.int i3), .val (.int i4), s5, .val (.long ((j6 * (10 : Int64)) + (((cs.getD ii 0) - (48 : Int32)).toInt64))), .second, .val (.int i8), s9, .val (.int i10), .val (.int (cs.getD ii 0))] [])) _
  refine XS.iinc X5.here hx rfl (hb hby d13_107) rfl (l' := #[s0, .val (.ref o1), s2, .val (.int i3), .val (.int i4), s5, .val (.long ((j6 * (10 : Int64)) + (((cs.getD ii 0) - (48 : Int32)).toInt64))), .second, .val (.int (i8 + (1 : Int32))), s9, .val (.int i10), .val (.int (cs.getD ii 0))]) rfl ?_
  show Steps p.tables e below (T5.setTop (mkF m 110 #[s0, .val (.ref o1), s2, .val (.int i3), .val (.int i4), s5, .val (.long ((j6 * (10 : Int64)) + (((cs.getD ii 0) - (48 : Int32)).toInt64))), .second, .val (.int (i8 + (1 : Int32))), s9, .val (.int i10), .val (.int (cs.getD ii 0))] [])) _
  refine XS.iload X5.here hx rfl (hb hby d13_110) rfl ?_
  show Steps p.tables e below (T5.setTop (mkF m 112 #[s0, .val (.ref o1), s2, .val (.int i3), .val (.int i4), s5, .val (.long ((j6 * (10 : Int64)) + (((cs.getD ii 0) - (48 : Int32)).toInt64))), .second, .val (.int (i8 + (1 : Int32))), s9, .val (.int i10), .val (.int (cs.getD ii 0))] [(.int i10)])) _
  refine XS.ifYes X5.here hx rfl (pc0 := 112) (pc' := 141) rfl (hb hby d13_112) rfl ((if0 _ _).trans (teq hc112).1) (by decide) (by decide) ?_
  show Steps p.tables e below (T5.setTop (mkF m 141 #[s0, .val (.ref o1), s2, .val (.int i3), .val (.int i4), s5, .val (.long ((j6 * (10 : Int64)) + (((cs.getD ii 0) - (48 : Int32)).toInt64))), .second, .val (.int (i8 + (1 : Int32))), s9, .val (.int i10), .val (.int (cs.getD ii 0))] [])) _
  refine XS.iinc X5.here hx rfl (hb hby d13_141) rfl (l' := #[s0, .val (.ref o1), s2, .val (.int i3), .val (.int (i4 + (1 : Int32))), s5, .val (.long ((j6 * (10 : Int64)) + (((cs.getD ii 0) - (48 : Int32)).toInt64))), .second, .val (.int (i8 + (1 : Int32))), s9, .val (.int i10), .val (.int (cs.getD ii 0))]) rfl ?_
  show Steps p.tables e below (T5.setTop (mkF m 144 #[s0, .val (.ref o1), s2, .val (.int i3), .val (.int (i4 + (1 : Int32))), s5, .val (.long ((j6 * (10 : Int64)) + (((cs.getD ii 0) - (48 : Int32)).toInt64))), .second, .val (.int (i8 + (1 : Int32))), s9, .val (.int i10), .val (.int (cs.getD ii 0))] [])) _
  refine XS.goto X5.here hx rfl (pc0 := 144) (pc' := 64) rfl (hb hby d13_144) (by decide) (by decide) ?_
  exact kt
theorem d13_115 : decode prog_8_method_2_code 115 = .ok (.iinc 9 1, 3) := by decide +kernel
theorem d13_118 : decode prog_8_method_2_code 118 = .ok (.goto 23, 3) := by decide +kernel
theorem os13_76_t2 {s0 : Slot} {z1 : Value} {s2 : Slot} {z3 : Value} {z4 : Value} {s5 : Slot} {z6 : Value} {z8 : Value} {z9 : Value} {z10 : Value} {s11 : Slot} {v : Int32} (h : One s11) : storeLocals #[s0, .val z1, s2, .val z3, .val z4, s5, .val z6, .second, .val z8, .val z9, .val z10, s11] 11 (.int v) = some #[s0, .val z1, s2, .val z3, .val z4, s5, .val z6, .second, .val z8, .val z9, .val z10, .val (.int v)] := by
  rcases h with rfl | ⟨w, rfl, hw⟩
  · rfl
  · cases w <;> first | rfl | (simp [Value.category] at hw)
set_option maxRecDepth 65536 in
set_option maxHeartbeats 40000000 in
theorem t2 {p : Program} {l : Launch} {e : Env} {s : State} {m : MethodId} {args : Array Value} {below : List Frame} {meth : Method} {c : Code} {T0 : State} {locs : List Loc} {cells slots : Nat} {Z : State} {a0 : Array Value} {h0 : Heap} (s0 : Slot) (o1 : Addr) (s2 : Slot) (i3 : Int32) (i4 : Int32) (s5 : Slot) (j6 : Int64) (i8 : Int32) (i9 : Int32) (i10 : Int32) (s11 : Slot) (cs : List Int32) (ii : Nat) (n0 : Nat)
    (X0 : Stand p l e own_R13 s m args below meth c T0 locs cells slots) (hx : p.tables.exec = Jvm.exec) (hZ : Z.Warmed39 s.vm) (hw : ∀ d ∈ tables_1, d.before a0 Z = true) (hby : c.code = prog_8_method_2_code) (hml : c.maxLocals = 12) (hown : s.vm.findClass "com/example/bandmark/bandmark/PlainDecimal" = some m.cls) (e0 : T0.heap = h0) (TX : own_Tx Z h0 o1 cs) (hi : ii < cs.length) (hj : i4 = Int32.ofNat ii) (Z0 : n0 ≤ h0.size) (N0 : Fr n0 locs) (hcl : cells ≤ own_R13.cells) (hsl : slots ≤ own_R13.slots) (hs11 : One s11) (hc67 : i4 < i3) (hc112 : ¬ (i10 = (0 : Int32))) (hk0 : ¬ ((cs.getD ii 0) < (48 : Int32))) (hk1 : ¬ ((57 : Int32) < (cs.getD ii 0))) :
    ∃ (T' : State) (locs' : List Loc), Stand p l e own_R13 s m args below meth c T' locs' cells slots ∧ Fr n0 locs' ∧ T'.heap = h0 ∧
      ∀ target, Steps p.tables e below (T'.setTop (mkF m 64 #[s0, .val (.ref o1), s2, .val (.int i3), .val (.int (i4 + (1 : Int32))), s5, .val (.long ((j6 * (10 : Int64)) + (((cs.getD ii 0) - (48 : Int32)).toInt64))), .second, .val (.int (i8 + (1 : Int32))), .val (.int (i9 + (1 : Int32))), .val (.int i10), .val (.int (cs.getD ii 0))] [])) target → Steps p.tables e below (T0.setTop (mkF m 64 #[s0, .val (.ref o1), s2, .val (.int i3), .val (.int i4), s5, .val (.long j6), .second, .val (.int i8), .val (.int i9), .val (.int i10), s11] [])) target := by
  obtain ⟨cq5, kq5, q5a, q5b, q5c⟩ := isOf hZ e0 TX.exa
  obtain ⟨_, _, ⟨T5, L5, k5, n5⟩, -, X5, ⟨Lc5, hQ5, l5, y5, z5⟩, st5⟩ := X0.virtualBack hx (y := (⟨"java/lang/String", "charAt", "(I)C"⟩ : MethodName)) (z := (⟨"java/lang/String", "charAt", "(I)C"⟩ : MethodName)) hown (mvT hZ (hw _ (List.mem_of_getElem? (i := 70) rfl))) (mvT hZ (hw _ (List.mem_of_getElem? (i := 71) rfl))) (notFace_of_selects (args := #[]) (mvT hZ (hw _ (List.mem_of_getElem? (i := 73) rfl)))) (mvT hZ (hw _ (List.mem_of_getElem? (i := 73) rfl))) (mvT hZ (hw _ (List.mem_of_getElem? (i := 72) rfl))) (by decide) (own_ch (W := 0) hZ hw TX (i := ii) (j := i4) hi hj n0 (by decide) (by decide)) q5a q5c (g := (mkF m 73 #[s0, .val (.ref o1), s2, .val (.int i3), .val (.int i4), s5, .val (.long j6), .second, .val (.int i8), .val (.int i9), .val (.int i10), s11] [(.int i4), (.ref o1)])) rfl (by rw [hml]; rfl) (Steps.refl _) (argsL := [(.int i4)]) (rest := []) (lenOf pd_13_13 rfl) rfl (by show 2 * 0 + _ ≤ _; exact Nat.le_of_eq rfl) (hb hby d13_73) (fun _ _ => ⟨rfl, e0, hcl, hsl⟩)
  dsimp only [Pt.U, Pt.locs, Pt.cells, Pt.slots] at X5 l5 y5 z5 st5 hQ5
  subst l5 y5 z5
  obtain ⟨rfl, N5q, e5⟩ := hQ5
  have N5 := Fr.app N0 N5q
  refine ⟨T5, _, X5, N5, e5, fun target kt => ?_⟩
  show Steps p.tables e below (T0.setTop (mkF m 64 #[s0, .val (.ref o1), s2, .val (.int i3), .val (.int i4), s5, .val (.long j6), .second, .val (.int i8), .val (.int i9), .val (.int i10), s11] [])) _
  refine XS.iload X0.here hx rfl (hb hby d13_64) rfl ?_
  show Steps p.tables e below (T0.setTop (mkF m 66 #[s0, .val (.ref o1), s2, .val (.int i3), .val (.int i4), s5, .val (.long j6), .second, .val (.int i8), .val (.int i9), .val (.int i10), s11] [(.int i4)])) _
  refine XS.iloadN X0.here hx rfl (hb hby d13_66) rfl ?_
  show Steps p.tables e below (T0.setTop (mkF m 67 #[s0, .val (.ref o1), s2, .val (.int i3), .val (.int i4), s5, .val (.long j6), .second, .val (.int i8), .val (.int i9), .val (.int i10), s11] [(.int i3), (.int i4)])) _
  refine XS.icmpNo X0.here hx rfl (hb hby d13_67) rfl (tlt hc67).2.1 ?_
  show Steps p.tables e below (T0.setTop (mkF m 70 #[s0, .val (.ref o1), s2, .val (.int i3), .val (.int i4), s5, .val (.long j6), .second, .val (.int i8), .val (.int i9), .val (.int i10), s11] [])) _
  refine XS.aloadN X0.here hx rfl (hb hby d13_70) rfl rfl ?_
  show Steps p.tables e below (T0.setTop (mkF m 71 #[s0, .val (.ref o1), s2, .val (.int i3), .val (.int i4), s5, .val (.long j6), .second, .val (.int i8), .val (.int i9), .val (.int i10), s11] [(.ref o1)])) _
  refine XS.iload X0.here hx rfl (hb hby d13_71) rfl ?_
  show Steps p.tables e below (T0.setTop (mkF m 73 #[s0, .val (.ref o1), s2, .val (.int i3), .val (.int i4), s5, .val (.long j6), .second, .val (.int i8), .val (.int i9), .val (.int i10), s11] [(.int i4), (.ref o1)])) _
  refine st5.trans ?_
  show Steps p.tables e below (T5.setTop (mkF m 76 #[s0, .val (.ref o1), s2, .val (.int i3), .val (.int i4), s5, .val (.long j6), .second, .val (.int i8), .val (.int i9), .val (.int i10), s11] [(.int (cs.getD ii 0))])) _
  refine XS.istore X5.here hx rfl (hb hby d13_76) rfl (l' := #[s0, .val (.ref o1), s2, .val (.int i3), .val (.int i4), s5, .val (.long j6), .second, .val (.int i8), .val (.int i9), .val (.int i10), .val (.int (cs.getD ii 0))]) (os13_76_t2 hs11) ?_
  show Steps p.tables e below (T5.setTop (mkF m 78 #[s0, .val (.ref o1), s2, .val (.int i3), .val (.int i4), s5, .val (.long j6), .second, .val (.int i8), .val (.int i9), .val (.int i10), .val (.int (cs.getD ii 0))] [])) _
  refine XS.iload X5.here hx rfl (hb hby d13_78) rfl ?_
  show Steps p.tables e below (T5.setTop (mkF m 80 #[s0, .val (.ref o1), s2, .val (.int i3), .val (.int i4), s5, .val (.long j6), .second, .val (.int i8), .val (.int i9), .val (.int i10), .val (.int (cs.getD ii 0))] [(.int (cs.getD ii 0))])) _
  refine XS.bipush X5.here hx rfl (hb hby d13_80) ?_
  show Steps p.tables e below (T5.setTop (mkF m 82 #[s0, .val (.ref o1), s2, .val (.int i3), .val (.int i4), s5, .val (.long j6), .second, .val (.int i8), .val (.int i9), .val (.int i10), .val (.int (cs.getD ii 0))] [(.int (48 : Int32)), (.int (cs.getD ii 0))])) _
  refine XS.icmpNo X5.here hx rfl (hb hby d13_82) rfl (flt (hk0 : ¬ ((cs.getD ii 0) < (48 : Int32)))).1 ?_
  show Steps p.tables e below (T5.setTop (mkF m 85 #[s0, .val (.ref o1), s2, .val (.int i3), .val (.int i4), s5, .val (.long j6), .second, .val (.int i8), .val (.int i9), .val (.int i10), .val (.int (cs.getD ii 0))] [])) _
  refine XS.iload X5.here hx rfl (hb hby d13_85) rfl ?_
  show Steps p.tables e below (T5.setTop (mkF m 87 #[s0, .val (.ref o1), s2, .val (.int i3), .val (.int i4), s5, .val (.long j6), .second, .val (.int i8), .val (.int i9), .val (.int i10), .val (.int (cs.getD ii 0))] [(.int (cs.getD ii 0))])) _
  refine XS.bipush X5.here hx rfl (hb hby d13_87) ?_
  show Steps p.tables e below (T5.setTop (mkF m 89 #[s0, .val (.ref o1), s2, .val (.int i3), .val (.int i4), s5, .val (.long j6), .second, .val (.int i8), .val (.int i9), .val (.int i10), .val (.int (cs.getD ii 0))] [(.int (57 : Int32)), (.int (cs.getD ii 0))])) _
  refine XS.icmpNo X5.here hx rfl (hb hby d13_89) rfl (flt (hk1 : ¬ ((57 : Int32) < (cs.getD ii 0)))).2.2.1 ?_
  show Steps p.tables e below (T5.setTop (mkF m 92 #[s0, .val (.ref o1), s2, .val (.int i3), .val (.int i4), s5, .val (.long j6), .second, .val (.int i8), .val (.int i9), .val (.int i10), .val (.int (cs.getD ii 0))] [])) _
  refine XS.lload X5.here hx rfl (hb hby d13_92) rfl ?_
  show Steps p.tables e below (T5.setTop (mkF m 94 #[s0, .val (.ref o1), s2, .val (.int i3), .val (.int i4), s5, .val (.long j6), .second, .val (.int i8), .val (.int i9), .val (.int i10), .val (.int (cs.getD ii 0))] [(.long j6)])) _
  refine X5.ldc2Long hx hown (mvT hZ (hw _ (List.mem_of_getElem? (i := 91) rfl))) (g := (mkF m 94 #[s0, .val (.ref o1), s2, .val (.int i3), .val (.int i4), s5, .val (.long j6), .second, .val (.int i8), .val (.int i9), .val (.int i10), .val (.int (cs.getD ii 0))] [(.long j6)])) rfl (hb hby d13_94) _ ?_
  show Steps p.tables e below (T5.setTop (mkF m 97 #[s0, .val (.ref o1), s2, .val (.int i3), .val (.int i4), s5, .val (.long j6), .second, .val (.int i8), .val (.int i9), .val (.int i10), .val (.int (cs.getD ii 0))] [(.long (10 : Int64)), (.long j6)])) _
  refine XS.lmul X5.here hx rfl (hb hby d13_97) rfl ?_
  show Steps p.tables e below (T5.setTop (mkF m 98 #[s0, .val (.ref o1), s2, .val (.int i3), .val (.int i4), s5, .val (.long j6), .second, .val (.int i8), .val (.int i9), .val (.int i10), .val (.int (cs.getD ii 0))] [(.long (j6 * (10 : Int64)))])) _
  refine XS.iload X5.here hx rfl (hb hby d13_98) rfl ?_
  show Steps p.tables e below (T5.setTop (mkF m 100 #[s0, .val (.ref o1), s2, .val (.int i3), .val (.int i4), s5, .val (.long j6), .second, .val (.int i8), .val (.int i9), .val (.int i10), .val (.int (cs.getD ii 0))] [(.int (cs.getD ii 0)), (.long (j6 * (10 : Int64)))])) _
  refine XS.bipush X5.here hx rfl (hb hby d13_100) ?_
  show Steps p.tables e below (T5.setTop (mkF m 102 #[s0, .val (.ref o1), s2, .val (.int i3), .val (.int i4), s5, .val (.long j6), .second, .val (.int i8), .val (.int i9), .val (.int i10), .val (.int (cs.getD ii 0))] [(.int (48 : Int32)), (.int (cs.getD ii 0)), (.long (j6 * (10 : Int64)))])) _
  refine XS.isub X5.here hx rfl (hb hby d13_102) rfl ?_
  show Steps p.tables e below (T5.setTop (mkF m 103 #[s0, .val (.ref o1), s2, .val (.int i3), .val (.int i4), s5, .val (.long j6), .second, .val (.int i8), .val (.int i9), .val (.int i10), .val (.int (cs.getD ii 0))] [(.int ((cs.getD ii 0) - (48 : Int32))), (.long (j6 * (10 : Int64)))])) _
  refine XS.i2l X5.here hx rfl (hb hby d13_103) rfl ?_
  show Steps p.tables e below (T5.setTop (mkF m 104 #[s0, .val (.ref o1), s2, .val (.int i3), .val (.int i4), s5, .val (.long j6), .second, .val (.int i8), .val (.int i9), .val (.int i10), .val (.int (cs.getD ii 0))] [(.long (((cs.getD ii 0) - (48 : Int32)).toInt64)), (.long (j6 * (10 : Int64)))])) _
  refine XS.ladd X5.here hx rfl (hb hby d13_104) rfl ?_
  show Steps p.tables e below (T5.setTop (mkF m 105 #[s0, .val (.ref o1), s2, .val (.int i3), .val (.int i4), s5, .val (.long j6), .second, .val (.int i8), .val (.int i9), .val (.int i10), .val (.int (cs.getD ii 0))] [(.long ((j6 * (10 : Int64)) + (((cs.getD ii 0) - (48 : Int32)).toInt64)))])) _
  refine XS.lstore X5.here hx rfl (hb hby d13_105) rfl (l' := #[s0, .val (.ref o1), s2, .val (.int i3), .val (.int i4), s5, .val (.long ((j6 * (10 : Int64)) + (((cs.getD ii 0) - (48 : Int32)).toInt64))), .second, .val (.int i8), .val (.int i9), .val (.int i10), .val (.int (cs.getD ii 0))]) rfl ?_
  show Steps p.tables e below (T5.setTop (mkF m 107 #[s0, .val (.ref o1), s2, .val (.int i3), .val (.int i4), s5, .val (.long ((j6 * (10 : Int64)) + (((cs.getD ii 0) - (48 : Int32)).toInt64))), .second, .val (.int i8), .val (.int i9), .val (.int i10), .val (.int (cs.getD ii 0))] [])) _
  refine XS.iinc X5.here hx rfl (hb hby d13_107) rfl (l' := #[s0, .val (.ref o1), s2, .val (.int i3), .val (.int i4), s5, .val (.long ((j6 * (10 : Int64)) + (((cs.getD ii 0) - (48 : Int32)).toInt64))), .second, .val (.int (i8 + (1 : Int32))), .val (.int i9), .val (.int i10), .val (.int (cs.getD ii 0))]) rfl ?_
  show Steps p.tables e below (T5.setTop (mkF m 110 #[s0, .val (.ref o1), s2, .val (.int i3), .val (.int i4), s5, .val (.long ((j6 * (10 : Int64)) + (((cs.getD ii 0) - (48 : Int32)).toInt64))), .second, .val (.int (i8 + (1 : Int32))), .val (.int i9), .val (.int i10), .val (.int (cs.getD ii 0))] [])) _
  refine XS.iload X5.here hx rfl (hb hby d13_110) rfl ?_
  show Steps p.tables e below (T5.setTop (mkF m 112 #[s0, .val (.ref o1), s2, .val (.int i3), .val (.int i4), s5, .val (.long ((j6 * (10 : Int64)) + (((cs.getD ii 0) - (48 : Int32)).toInt64))), .second, .val (.int (i8 + (1 : Int32))), .val (.int i9), .val (.int i10), .val (.int (cs.getD ii 0))] [(.int i10)])) _
  refine XS.ifNo X5.here hx rfl (hb hby d13_112) rfl ((if0 _ _).trans (feq hc112).1) ?_
  show Steps p.tables e below (T5.setTop (mkF m 115 #[s0, .val (.ref o1), s2, .val (.int i3), .val (.int i4), s5, .val (.long ((j6 * (10 : Int64)) + (((cs.getD ii 0) - (48 : Int32)).toInt64))), .second, .val (.int (i8 + (1 : Int32))), .val (.int i9), .val (.int i10), .val (.int (cs.getD ii 0))] [])) _
  refine XS.iinc X5.here hx rfl (hb hby d13_115) rfl (l' := #[s0, .val (.ref o1), s2, .val (.int i3), .val (.int i4), s5, .val (.long ((j6 * (10 : Int64)) + (((cs.getD ii 0) - (48 : Int32)).toInt64))), .second, .val (.int (i8 + (1 : Int32))), .val (.int (i9 + (1 : Int32))), .val (.int i10), .val (.int (cs.getD ii 0))]) rfl ?_
  show Steps p.tables e below (T5.setTop (mkF m 118 #[s0, .val (.ref o1), s2, .val (.int i3), .val (.int i4), s5, .val (.long ((j6 * (10 : Int64)) + (((cs.getD ii 0) - (48 : Int32)).toInt64))), .second, .val (.int (i8 + (1 : Int32))), .val (.int (i9 + (1 : Int32))), .val (.int i10), .val (.int (cs.getD ii 0))] [])) _
  refine XS.goto X5.here hx rfl (pc0 := 118) (pc' := 141) rfl (hb hby d13_118) (by decide) (by decide) ?_
  show Steps p.tables e below (T5.setTop (mkF m 141 #[s0, .val (.ref o1), s2, .val (.int i3), .val (.int i4), s5, .val (.long ((j6 * (10 : Int64)) + (((cs.getD ii 0) - (48 : Int32)).toInt64))), .second, .val (.int (i8 + (1 : Int32))), .val (.int (i9 + (1 : Int32))), .val (.int i10), .val (.int (cs.getD ii 0))] [])) _
  refine XS.iinc X5.here hx rfl (hb hby d13_141) rfl (l' := #[s0, .val (.ref o1), s2, .val (.int i3), .val (.int (i4 + (1 : Int32))), s5, .val (.long ((j6 * (10 : Int64)) + (((cs.getD ii 0) - (48 : Int32)).toInt64))), .second, .val (.int (i8 + (1 : Int32))), .val (.int (i9 + (1 : Int32))), .val (.int i10), .val (.int (cs.getD ii 0))]) rfl ?_
  show Steps p.tables e below (T5.setTop (mkF m 144 #[s0, .val (.ref o1), s2, .val (.int i3), .val (.int (i4 + (1 : Int32))), s5, .val (.long ((j6 * (10 : Int64)) + (((cs.getD ii 0) - (48 : Int32)).toInt64))), .second, .val (.int (i8 + (1 : Int32))), .val (.int (i9 + (1 : Int32))), .val (.int i10), .val (.int (cs.getD ii 0))] [])) _
  refine XS.goto X5.here hx rfl (pc0 := 144) (pc' := 64) rfl (hb hby d13_144) (by decide) (by decide) ?_
  exact kt
theorem d13_121 : decode prog_8_method_2_code 121 = .ok (.iload 11, 2) := by decide +kernel
theorem d13_123 : decode prog_8_method_2_code 123 = .ok (.bipush 46, 2) := by decide +kernel
theorem d13_125 : decode prog_8_method_2_code 125 = .ok (.if_icmp .ne 14, 3) := by decide +kernel
theorem d13_128 : decode prog_8_method_2_code 128 = .ok (.iload 10, 2) := by decide +kernel
theorem d13_130 : decode prog_8_method_2_code 130 = .ok (.ifCond .ne 9, 3) := by decide +kernel
theorem d13_133 : decode prog_8_method_2_code 133 = .ok (.iconst 1, 1) := by decide +kernel
theorem d13_134 : decode prog_8_method_2_code 134 = .ok (.istore 10, 2) := by decide +kernel
theorem d13_136 : decode prog_8_method_2_code 136 = .ok (.goto 5, 3) := by decide +kernel
theorem os13_76_t3 {s0 : Slot} {z1 : Value} {s2 : Slot} {z3 : Value} {z4 : Value} {s5 : Slot} {s6 : Slot} {s7 : Slot} {s8 : Slot} {s9 : Slot} {z10 : Value} {s11 : Slot} {v : Int32} (h : One s11) : storeLocals #[s0, .val z1, s2, .val z3, .val z4, s5, s6, s7, s8, s9, .val z10, s11] 11 (.int v) = some #[s0, .val z1, s2, .val z3, .val z4, s5, s6, s7, s8, s9, .val z10, .val (.int v)] := by
  rcases h with rfl | ⟨w, rfl, hw⟩
  · rfl
  · cases w <;> first | rfl | (simp [Value.category] at hw)
set_option maxRecDepth 65536 in
set_option maxHeartbeats 40000000 in
theorem t3 {p : Program} {l : Launch} {e : Env} {s : State} {m : MethodId} {args : Array Value} {below : List Frame} {meth : Method} {c : Code} {T0 : State} {locs : List Loc} {cells slots : Nat} {Z : State} {a0 : Array Value} {h0 : Heap} (s0 : Slot) (o1 : Addr) (s2 : Slot) (i3 : Int32) (i4 : Int32) (s5 : Slot) (s6 : Slot) (s7 : Slot) (s8 : Slot) (s9 : Slot) (i10 : Int32) (s11 : Slot) (cs : List Int32) (ii : Nat) (n0 : Nat)
    (X0 : Stand p l e own_R13 s m args below meth c T0 locs cells slots) (hx : p.tables.exec = Jvm.exec) (hZ : Z.Warmed39 s.vm) (hw : ∀ d ∈ tables_1, d.before a0 Z = true) (hby : c.code = prog_8_method_2_code) (hml : c.maxLocals = 12) (hown : s.vm.findClass "com/example/bandmark/bandmark/PlainDecimal" = some m.cls) (e0 : T0.heap = h0) (TX : own_Tx Z h0 o1 cs) (hi : ii < cs.length) (hj : i4 = Int32.ofNat ii) (Z0 : n0 ≤ h0.size) (N0 : Fr n0 locs) (hcl : cells ≤ own_R13.cells) (hsl : slots ≤ own_R13.slots) (hs11 : One s11) (hc67 : i4 < i3) (hc130 : i10 = (0 : Int32)) (hk0 : (cs.getD ii 0) < (48 : Int32)) (hk1 : (cs.getD ii 0) = (46 : Int32)) :
    ∃ (T' : State) (locs' : List Loc), Stand p l e own_R13 s m args below meth c T' locs' cells slots ∧ Fr n0 locs' ∧ T'.heap = h0 ∧
      ∀ target, Steps p.tables e below (T'.setTop (mkF m 64 #[s0, .val (.ref o1), s2, .val (.int i3), .val (.int (i4 + (1 : Int32))), s5, s6, s7, s8, s9, .val (.int (1 : Int32)), .val (.int (cs.getD ii 0))] [])) target → Steps p.tables e below (T0.setTop (mkF m 64 #[s0, .val (.ref o1), s2, .val (.int i3), .val (.int i4), s5, s6, s7, s8, s9, .val (.int i10), s11] [])) target := by
  obtain ⟨cq5, kq5, q5a, q5b, q5c⟩ := isOf hZ e0 TX.exa
  obtain ⟨_, _, ⟨T5, L5, k5, n5⟩, -, X5, ⟨Lc5, hQ5, l5, y5, z5⟩, st5⟩ := X0.virtualBack hx (y := (⟨"java/lang/String", "charAt", "(I)C"⟩ : MethodName)) (z := (⟨"java/lang/String", "charAt", "(I)C"⟩ : MethodName)) hown (mvT hZ (hw _ (List.mem_of_getElem? (i := 70) rfl))) (mvT hZ (hw _ (List.mem_of_getElem? (i := 71) rfl))) (notFace_of_selects (args := #[]) (mvT hZ (hw _ (List.mem_of_getElem? (i := 73) rfl)))) (mvT hZ (hw _ (List.mem_of_getElem? (i := 73) rfl))) (mvT hZ (hw _ (List.mem_of_getElem? (i := 72) rfl))) (by decide) (own_ch (W := 0) hZ hw TX (i := ii) (j := i4) hi hj n0 (by decide) (by decide)) q5a q5c (g := (mkF m 73 #[s0, .val (.ref o1), s2, .val (.int i3), .val (.int i4), s5, s6, s7, s8, s9, .val (.int i10), s11] [(.int i4), (.ref o1)])) rfl (by rw [hml]; rfl) (Steps.refl _) (argsL := [(.int i4)]) (rest := []) (lenOf pd_13_13 rfl) rfl (by show 2 * 0 + _ ≤ _; exact Nat.le_of_eq rfl) (hb hby d13_73) (fun _ _ => ⟨rfl, e0, hcl, hsl⟩)
  dsimp only [Pt.U, Pt.locs, Pt.cells, Pt.slots] at X5 l5 y5 z5 st5 hQ5
  subst l5 y5 z5
  obtain ⟨rfl, N5q, e5⟩ := hQ5
  have N5 := Fr.app N0 N5q
  refine ⟨T5, _, X5, N5, e5, fun target kt => ?_⟩
  show Steps p.tables e below (T0.setTop (mkF m 64 #[s0, .val (.ref o1), s2, .val (.int i3), .val (.int i4), s5, s6, s7, s8, s9, .val (.int i10), s11] [])) _
  refine XS.iload X0.here hx rfl (hb hby d13_64) rfl ?_
  show Steps p.tables e below (T0.setTop (mkF m 66 #[s0, .val (.ref o1), s2, .val (.int i3), .val (.int i4), s5, s6, s7, s8, s9, .val (.int i10), s11] [(.int i4)])) _
  refine XS.iloadN X0.here hx rfl (hb hby d13_66) rfl ?_
  show Steps p.tables e below (T0.setTop (mkF m 67 #[s0, .val (.ref o1), s2, .val (.int i3), .val (.int i4), s5, s6, s7, s8, s9, .val (.int i10), s11] [(.int i3), (.int i4)])) _
  refine XS.icmpNo X0.here hx rfl (hb hby d13_67) rfl (tlt hc67).2.1 ?_
  show Steps p.tables e below (T0.setTop (mkF m 70 #[s0, .val (.ref o1), s2, .val (.int i3), .val (.int i4), s5, s6, s7, s8, s9, .val (.int i10), s11] [])) _
  refine XS.aloadN X0.here hx rfl (hb hby d13_70) rfl rfl ?_
  show Steps p.tables e below (T0.setTop (mkF m 71 #[s0, .val (.ref o1), s2, .val (.int i3), .val (.int i4), s5, s6, s7, s8, s9, .val (.int i10), s11] [(.ref o1)])) _
  refine XS.iload X0.here hx rfl (hb hby d13_71) rfl ?_
  show Steps p.tables e below (T0.setTop (mkF m 73 #[s0, .val (.ref o1), s2, .val (.int i3), .val (.int i4), s5, s6, s7, s8, s9, .val (.int i10), s11] [(.int i4), (.ref o1)])) _
  refine st5.trans ?_
  show Steps p.tables e below (T5.setTop (mkF m 76 #[s0, .val (.ref o1), s2, .val (.int i3), .val (.int i4), s5, s6, s7, s8, s9, .val (.int i10), s11] [(.int (cs.getD ii 0))])) _
  refine XS.istore X5.here hx rfl (hb hby d13_76) rfl (l' := #[s0, .val (.ref o1), s2, .val (.int i3), .val (.int i4), s5, s6, s7, s8, s9, .val (.int i10), .val (.int (cs.getD ii 0))]) (os13_76_t3 hs11) ?_
  show Steps p.tables e below (T5.setTop (mkF m 78 #[s0, .val (.ref o1), s2, .val (.int i3), .val (.int i4), s5, s6, s7, s8, s9, .val (.int i10), .val (.int (cs.getD ii 0))] [])) _
  refine XS.iload X5.here hx rfl (hb hby d13_78) rfl ?_
  show Steps p.tables e below (T5.setTop (mkF m 80 #[s0, .val (.ref o1), s2, .val (.int i3), .val (.int i4), s5, s6, s7, s8, s9, .val (.int i10), .val (.int (cs.getD ii 0))] [(.int (cs.getD ii 0))])) _
  refine XS.bipush X5.here hx rfl (hb hby d13_80) ?_
  show Steps p.tables e below (T5.setTop (mkF m 82 #[s0, .val (.ref o1), s2, .val (.int i3), .val (.int i4), s5, s6, s7, s8, s9, .val (.int i10), .val (.int (cs.getD ii 0))] [(.int (48 : Int32)), (.int (cs.getD ii 0))])) _
  refine XS.icmpYes X5.here hx rfl (pc0 := 82) (pc' := 121) rfl (hb hby d13_82) rfl (tlt (hk0 : (cs.getD ii 0) < (48 : Int32))).1 (by decide) (by decide) ?_
  show Steps p.tables e below (T5.setTop (mkF m 121 #[s0, .val (.ref o1), s2, .val (.int i3), .val (.int i4), s5, s6, s7, s8, s9, .val (.int i10), .val (.int (cs.getD ii 0))] [])) _
  refine XS.iload X5.here hx rfl (hb hby d13_121) rfl ?_
  show Steps p.tables e below (T5.setTop (mkF m 123 #[s0, .val (.ref o1), s2, .val (.int i3), .val (.int i4), s5, s6, s7, s8, s9, .val (.int i10), .val (.int (cs.getD ii 0))] [(.int (cs.getD ii 0))])) _
  refine XS.bipush X5.here hx rfl (hb hby d13_123) ?_
  show Steps p.tables e below (T5.setTop (mkF m 125 #[s0, .val (.ref o1), s2, .val (.int i3), .val (.int i4), s5, s6, s7, s8, s9, .val (.int i10), .val (.int (cs.getD ii 0))] [(.int (46 : Int32)), (.int (cs.getD ii 0))])) _
  refine XS.icmpNo X5.here hx rfl (hb hby d13_125) rfl (teq (hk1 : (cs.getD ii 0) = (46 : Int32))).2 ?_
  show Steps p.tables e below (T5.setTop (mkF m 128 #[s0, .val (.ref o1), s2, .val (.int i3), .val (.int i4), s5, s6, s7, s8, s9, .val (.int i10), .val (.int (cs.getD ii 0))] [])) _
  refine XS.iload X5.here hx rfl (hb hby d13_128) rfl ?_
  show Steps p.tables e below (T5.setTop (mkF m 130 #[s0, .val (.ref o1), s2, .val (.int i3), .val (.int i4), s5, s6, s7, s8, s9, .val (.int i10), .val (.int (cs.getD ii 0))] [(.int i10)])) _
  refine XS.ifNo X5.here hx rfl (hb hby d13_130) rfl ((if0 _ _).trans (teq hc130).2) ?_
  show Steps p.tables e below (T5.setTop (mkF m 133 #[s0, .val (.ref o1), s2, .val (.int i3), .val (.int i4), s5, s6, s7, s8, s9, .val (.int i10), .val (.int (cs.getD ii 0))] [])) _
  refine XS.iconst X5.here hx rfl (hb hby d13_133) ?_
  show Steps p.tables e below (T5.setTop (mkF m 134 #[s0, .val (.ref o1), s2, .val (.int i3), .val (.int i4), s5, s6, s7, s8, s9, .val (.int i10), .val (.int (cs.getD ii 0))] [(.int (1 : Int32))])) _
  refine XS.istore X5.here hx rfl (hb hby d13_134) rfl (l' := #[s0, .val (.ref o1), s2, .val (.int i3), .val (.int i4), s5, s6, s7, s8, s9, .val (.int (1 : Int32)), .val (.int (cs.getD ii 0))]) rfl ?_
  show Steps p.tables e below (T5.setTop (mkF m 136 #[s0, .val (.ref o1), s2, .val (.int i3), .val (.int i4), s5, s6, s7, s8, s9, .val (.int (1 : Int32)), .val (.int (cs.getD ii 0))] [])) _
  refine XS.goto X5.here hx rfl (pc0 := 136) (pc' := 141) rfl (hb hby d13_136) (by decide) (by decide) ?_
  show Steps p.tables e below (T5.setTop (mkF m 141 #[s0, .val (.ref o1), s2, .val (.int i3), .val (.int i4), s5, s6, s7, s8, s9, .val (.int (1 : Int32)), .val (.int (cs.getD ii 0))] [])) _
  refine XS.iinc X5.here hx rfl (hb hby d13_141) rfl (l' := #[s0, .val (.ref o1), s2, .val (.int i3), .val (.int (i4 + (1 : Int32))), s5, s6, s7, s8, s9, .val (.int (1 : Int32)), .val (.int (cs.getD ii 0))]) rfl ?_
  show Steps p.tables e below (T5.setTop (mkF m 144 #[s0, .val (.ref o1), s2, .val (.int i3), .val (.int (i4 + (1 : Int32))), s5, s6, s7, s8, s9, .val (.int (1 : Int32)), .val (.int (cs.getD ii 0))] [])) _
  refine XS.goto X5.here hx rfl (pc0 := 144) (pc' := 64) rfl (hb hby d13_144) (by decide) (by decide) ?_
  exact kt
theorem os13_76_x1 {s0 : Slot} {z1 : Value} {s2 : Slot} {z3 : Value} {z4 : Value} {s5 : Slot} {s6 : Slot} {s7 : Slot} {s8 : Slot} {s9 : Slot} {s10 : Slot} {s11 : Slot} {v : Int32} (h : One s11) : storeLocals #[s0, .val z1, s2, .val z3, .val z4, s5, s6, s7, s8, s9, s10, s11] 11 (.int v) = some #[s0, .val z1, s2, .val z3, .val z4, s5, s6, s7, s8, s9, s10, .val (.int v)] := by
  rcases h with rfl | ⟨w, rfl, hw⟩
  · rfl
  · cases w <;> first | rfl | (simp [Value.category] at hw)
set_option maxRecDepth 65536 in
set_option maxHeartbeats 40000000 in
theorem x1 {p : Program} {l : Launch} {e : Env} {s : State} {m : MethodId} {args : Array Value} {below : List Frame} {meth : Method} {c : Code} {T0 : State} {locs : List Loc} {cells slots : Nat} {Z : State} {a0 : Array Value} {h0 : Heap} (s0 : Slot) (o1 : Addr) (s2 : Slot) (i3 : Int32) (i4 : Int32) (s5 : Slot) (s6 : Slot) (s7 : Slot) (s8 : Slot) (s9 : Slot) (s10 : Slot) (s11 : Slot) (cs : List Int32) (ii : Nat) (n0 : Nat)
    (X0 : Stand p l e own_R13 s m args below meth c T0 locs cells slots) (hx : p.tables.exec = Jvm.exec) (hZ : Z.Warmed39 s.vm) (hw : ∀ d ∈ tables_1, d.before a0 Z = true) (hby : c.code = prog_8_method_2_code) (hml : c.maxLocals = 12) (hown : s.vm.findClass "com/example/bandmark/bandmark/PlainDecimal" = some m.cls) (e0 : T0.heap = h0) (TX : own_Tx Z h0 o1 cs) (hi : ii < cs.length) (hj : i4 = Int32.ofNat ii) (Z0 : n0 ≤ h0.size) (N0 : Fr n0 locs) (hcl : cells ≤ own_R13.cells) (hsl : slots ≤ own_R13.slots) (hs11 : One s11) (hc67 : i4 < i3) (hk0 : (cs.getD ii 0) < (48 : Int32)) (hk1 : ¬ ((cs.getD ii 0) = (46 : Int32))) :
    ∃ (T' : State) (locs' : List Loc), Stand p l e own_R13 s m args below meth c T' locs' cells slots ∧ Fr n0 locs' ∧ T'.heap = h0 ∧
      ∀ target, Steps p.tables e below (T'.setTop (mkF m 139 #[s0, .val (.ref o1), s2, .val (.int i3), .val (.int i4), s5, s6, s7, s8, s9, s10, .val (.int (cs.getD ii 0))] [])) target → Steps p.tables e below (T0.setTop (mkF m 64 #[s0, .val (.ref o1), s2, .val (.int i3), .val (.int i4), s5, s6, s7, s8, s9, s10, s11] [])) target := by
  obtain ⟨cq5, kq5, q5a, q5b, q5c⟩ := isOf hZ e0 TX.exa
  obtain ⟨_, _, ⟨T5, L5, k5, n5⟩, -, X5, ⟨Lc5, hQ5, l5, y5, z5⟩, st5⟩ := X0.virtualBack hx (y := (⟨"java/lang/String", "charAt", "(I)C"⟩ : MethodName)) (z := (⟨"java/lang/String", "charAt", "(I)C"⟩ : MethodName)) hown (mvT hZ (hw _ (List.mem_of_getElem? (i := 70) rfl))) (mvT hZ (hw _ (List.mem_of_getElem? (i := 71) rfl))) (notFace_of_selects (args := #[]) (mvT hZ (hw _ (List.mem_of_getElem? (i := 73) rfl)))) (mvT hZ (hw _ (List.mem_of_getElem? (i := 73) rfl))) (mvT hZ (hw _ (List.mem_of_getElem? (i := 72) rfl))) (by decide) (own_ch (W := 0) hZ hw TX (i := ii) (j := i4) hi hj n0 (by decide) (by decide)) q5a q5c (g := (mkF m 73 #[s0, .val (.ref o1), s2, .val (.int i3), .val (.int i4), s5, s6, s7, s8, s9, s10, s11] [(.int i4), (.ref o1)])) rfl (by rw [hml]; rfl) (Steps.refl _) (argsL := [(.int i4)]) (rest := []) (lenOf pd_13_13 rfl) rfl (by show 2 * 0 + _ ≤ _; exact Nat.le_of_eq rfl) (hb hby d13_73) (fun _ _ => ⟨rfl, e0, hcl, hsl⟩)
  dsimp only [Pt.U, Pt.locs, Pt.cells, Pt.slots] at X5 l5 y5 z5 st5 hQ5
  subst l5 y5 z5
  obtain ⟨rfl, N5q, e5⟩ := hQ5
  have N5 := Fr.app N0 N5q
  refine ⟨T5, _, X5, N5, e5, fun target kt => ?_⟩
  show Steps p.tables e below (T0.setTop (mkF m 64 #[s0, .val (.ref o1), s2, .val (.int i3), .val (.int i4), s5, s6, s7, s8, s9, s10, s11] [])) _
  refine XS.iload X0.here hx rfl (hb hby d13_64) rfl ?_
  show Steps p.tables e below (T0.setTop (mkF m 66 #[s0, .val (.ref o1), s2, .val (.int i3), .val (.int i4), s5, s6, s7, s8, s9, s10, s11] [(.int i4)])) _
  refine XS.iloadN X0.here hx rfl (hb hby d13_66) rfl ?_
  show Steps p.tables e below (T0.setTop (mkF m 67 #[s0, .val (.ref o1), s2, .val (.int i3), .val (.int i4), s5, s6, s7, s8, s9, s10, s11] [(.int i3), (.int i4)])) _
  refine XS.icmpNo X0.here hx rfl (hb hby d13_67) rfl (tlt hc67).2.1 ?_
  show Steps p.tables e below (T0.setTop (mkF m 70 #[s0, .val (.ref o1), s2, .val (.int i3), .val (.int i4), s5, s6, s7, s8, s9, s10, s11] [])) _
  refine XS.aloadN X0.here hx rfl (hb hby d13_70) rfl rfl ?_
  show Steps p.tables e below (T0.setTop (mkF m 71 #[s0, .val (.ref o1), s2, .val (.int i3), .val (.int i4), s5, s6, s7, s8, s9, s10, s11] [(.ref o1)])) _
  refine XS.iload X0.here hx rfl (hb hby d13_71) rfl ?_
  show Steps p.tables e below (T0.setTop (mkF m 73 #[s0, .val (.ref o1), s2, .val (.int i3), .val (.int i4), s5, s6, s7, s8, s9, s10, s11] [(.int i4), (.ref o1)])) _
  refine st5.trans ?_
  show Steps p.tables e below (T5.setTop (mkF m 76 #[s0, .val (.ref o1), s2, .val (.int i3), .val (.int i4), s5, s6, s7, s8, s9, s10, s11] [(.int (cs.getD ii 0))])) _
  refine XS.istore X5.here hx rfl (hb hby d13_76) rfl (l' := #[s0, .val (.ref o1), s2, .val (.int i3), .val (.int i4), s5, s6, s7, s8, s9, s10, .val (.int (cs.getD ii 0))]) (os13_76_x1 hs11) ?_
  show Steps p.tables e below (T5.setTop (mkF m 78 #[s0, .val (.ref o1), s2, .val (.int i3), .val (.int i4), s5, s6, s7, s8, s9, s10, .val (.int (cs.getD ii 0))] [])) _
  refine XS.iload X5.here hx rfl (hb hby d13_78) rfl ?_
  show Steps p.tables e below (T5.setTop (mkF m 80 #[s0, .val (.ref o1), s2, .val (.int i3), .val (.int i4), s5, s6, s7, s8, s9, s10, .val (.int (cs.getD ii 0))] [(.int (cs.getD ii 0))])) _
  refine XS.bipush X5.here hx rfl (hb hby d13_80) ?_
  show Steps p.tables e below (T5.setTop (mkF m 82 #[s0, .val (.ref o1), s2, .val (.int i3), .val (.int i4), s5, s6, s7, s8, s9, s10, .val (.int (cs.getD ii 0))] [(.int (48 : Int32)), (.int (cs.getD ii 0))])) _
  refine XS.icmpYes X5.here hx rfl (pc0 := 82) (pc' := 121) rfl (hb hby d13_82) rfl (tlt (hk0 : (cs.getD ii 0) < (48 : Int32))).1 (by decide) (by decide) ?_
  show Steps p.tables e below (T5.setTop (mkF m 121 #[s0, .val (.ref o1), s2, .val (.int i3), .val (.int i4), s5, s6, s7, s8, s9, s10, .val (.int (cs.getD ii 0))] [])) _
  refine XS.iload X5.here hx rfl (hb hby d13_121) rfl ?_
  show Steps p.tables e below (T5.setTop (mkF m 123 #[s0, .val (.ref o1), s2, .val (.int i3), .val (.int i4), s5, s6, s7, s8, s9, s10, .val (.int (cs.getD ii 0))] [(.int (cs.getD ii 0))])) _
  refine XS.bipush X5.here hx rfl (hb hby d13_123) ?_
  show Steps p.tables e below (T5.setTop (mkF m 125 #[s0, .val (.ref o1), s2, .val (.int i3), .val (.int i4), s5, s6, s7, s8, s9, s10, .val (.int (cs.getD ii 0))] [(.int (46 : Int32)), (.int (cs.getD ii 0))])) _
  refine XS.icmpYes X5.here hx rfl (pc0 := 125) (pc' := 139) rfl (hb hby d13_125) rfl (feq (hk1 : ¬ ((cs.getD ii 0) = (46 : Int32)))).2 (by decide) (by decide) ?_
  exact kt
theorem os13_76_x2 {s0 : Slot} {z1 : Value} {s2 : Slot} {z3 : Value} {z4 : Value} {s5 : Slot} {s6 : Slot} {s7 : Slot} {s8 : Slot} {s9 : Slot} {s10 : Slot} {s11 : Slot} {v : Int32} (h : One s11) : storeLocals #[s0, .val z1, s2, .val z3, .val z4, s5, s6, s7, s8, s9, s10, s11] 11 (.int v) = some #[s0, .val z1, s2, .val z3, .val z4, s5, s6, s7, s8, s9, s10, .val (.int v)] := by
  rcases h with rfl | ⟨w, rfl, hw⟩
  · rfl
  · cases w <;> first | rfl | (simp [Value.category] at hw)
set_option maxRecDepth 65536 in
set_option maxHeartbeats 40000000 in
theorem x2 {p : Program} {l : Launch} {e : Env} {s : State} {m : MethodId} {args : Array Value} {below : List Frame} {meth : Method} {c : Code} {T0 : State} {locs : List Loc} {cells slots : Nat} {Z : State} {a0 : Array Value} {h0 : Heap} (s0 : Slot) (o1 : Addr) (s2 : Slot) (i3 : Int32) (i4 : Int32) (s5 : Slot) (s6 : Slot) (s7 : Slot) (s8 : Slot) (s9 : Slot) (s10 : Slot) (s11 : Slot) (cs : List Int32) (ii : Nat) (n0 : Nat)
    (X0 : Stand p l e own_R13 s m args below meth c T0 locs cells slots) (hx : p.tables.exec = Jvm.exec) (hZ : Z.Warmed39 s.vm) (hw : ∀ d ∈ tables_1, d.before a0 Z = true) (hby : c.code = prog_8_method_2_code) (hml : c.maxLocals = 12) (hown : s.vm.findClass "com/example/bandmark/bandmark/PlainDecimal" = some m.cls) (e0 : T0.heap = h0) (TX : own_Tx Z h0 o1 cs) (hi : ii < cs.length) (hj : i4 = Int32.ofNat ii) (Z0 : n0 ≤ h0.size) (N0 : Fr n0 locs) (hcl : cells ≤ own_R13.cells) (hsl : slots ≤ own_R13.slots) (hs11 : One s11) (hc67 : i4 < i3) (hk0 : ¬ ((cs.getD ii 0) < (48 : Int32))) (hk1 : (57 : Int32) < (cs.getD ii 0)) (hk2 : ¬ ((cs.getD ii 0) = (46 : Int32))) :
    ∃ (T' : State) (locs' : List Loc), Stand p l e own_R13 s m args below meth c T' locs' cells slots ∧ Fr n0 locs' ∧ T'.heap = h0 ∧
      ∀ target, Steps p.tables e below (T'.setTop (mkF m 139 #[s0, .val (.ref o1), s2, .val (.int i3), .val (.int i4), s5, s6, s7, s8, s9, s10, .val (.int (cs.getD ii 0))] [])) target → Steps p.tables e below (T0.setTop (mkF m 64 #[s0, .val (.ref o1), s2, .val (.int i3), .val (.int i4), s5, s6, s7, s8, s9, s10, s11] [])) target := by
  obtain ⟨cq5, kq5, q5a, q5b, q5c⟩ := isOf hZ e0 TX.exa
  obtain ⟨_, _, ⟨T5, L5, k5, n5⟩, -, X5, ⟨Lc5, hQ5, l5, y5, z5⟩, st5⟩ := X0.virtualBack hx (y := (⟨"java/lang/String", "charAt", "(I)C"⟩ : MethodName)) (z := (⟨"java/lang/String", "charAt", "(I)C"⟩ : MethodName)) hown (mvT hZ (hw _ (List.mem_of_getElem? (i := 70) rfl))) (mvT hZ (hw _ (List.mem_of_getElem? (i := 71) rfl))) (notFace_of_selects (args := #[]) (mvT hZ (hw _ (List.mem_of_getElem? (i := 73) rfl)))) (mvT hZ (hw _ (List.mem_of_getElem? (i := 73) rfl))) (mvT hZ (hw _ (List.mem_of_getElem? (i := 72) rfl))) (by decide) (own_ch (W := 0) hZ hw TX (i := ii) (j := i4) hi hj n0 (by decide) (by decide)) q5a q5c (g := (mkF m 73 #[s0, .val (.ref o1), s2, .val (.int i3), .val (.int i4), s5, s6, s7, s8, s9, s10, s11] [(.int i4), (.ref o1)])) rfl (by rw [hml]; rfl) (Steps.refl _) (argsL := [(.int i4)]) (rest := []) (lenOf pd_13_13 rfl) rfl (by show 2 * 0 + _ ≤ _; exact Nat.le_of_eq rfl) (hb hby d13_73) (fun _ _ => ⟨rfl, e0, hcl, hsl⟩)
  dsimp only [Pt.U, Pt.locs, Pt.cells, Pt.slots] at X5 l5 y5 z5 st5 hQ5
  subst l5 y5 z5
  obtain ⟨rfl, N5q, e5⟩ := hQ5
  have N5 := Fr.app N0 N5q
  refine ⟨T5, _, X5, N5, e5, fun target kt => ?_⟩
  show Steps p.tables e below (T0.setTop (mkF m 64 #[s0, .val (.ref o1), s2, .val (.int i3), .val (.int i4), s5, s6, s7, s8, s9, s10, s11] [])) _
  refine XS.iload X0.here hx rfl (hb hby d13_64) rfl ?_
  show Steps p.tables e below (T0.setTop (mkF m 66 #[s0, .val (.ref o1), s2, .val (.int i3), .val (.int i4), s5, s6, s7, s8, s9, s10, s11] [(.int i4)])) _
  refine XS.iloadN X0.here hx rfl (hb hby d13_66) rfl ?_
  show Steps p.tables e below (T0.setTop (mkF m 67 #[s0, .val (.ref o1), s2, .val (.int i3), .val (.int i4), s5, s6, s7, s8, s9, s10, s11] [(.int i3), (.int i4)])) _
  refine XS.icmpNo X0.here hx rfl (hb hby d13_67) rfl (tlt hc67).2.1 ?_
  show Steps p.tables e below (T0.setTop (mkF m 70 #[s0, .val (.ref o1), s2, .val (.int i3), .val (.int i4), s5, s6, s7, s8, s9, s10, s11] [])) _
  refine XS.aloadN X0.here hx rfl (hb hby d13_70) rfl rfl ?_
  show Steps p.tables e below (T0.setTop (mkF m 71 #[s0, .val (.ref o1), s2, .val (.int i3), .val (.int i4), s5, s6, s7, s8, s9, s10, s11] [(.ref o1)])) _
  refine XS.iload X0.here hx rfl (hb hby d13_71) rfl ?_
  show Steps p.tables e below (T0.setTop (mkF m 73 #[s0, .val (.ref o1), s2, .val (.int i3), .val (.int i4), s5, s6, s7, s8, s9, s10, s11] [(.int i4), (.ref o1)])) _
  refine st5.trans ?_
  show Steps p.tables e below (T5.setTop (mkF m 76 #[s0, .val (.ref o1), s2, .val (.int i3), .val (.int i4), s5, s6, s7, s8, s9, s10, s11] [(.int (cs.getD ii 0))])) _
  refine XS.istore X5.here hx rfl (hb hby d13_76) rfl (l' := #[s0, .val (.ref o1), s2, .val (.int i3), .val (.int i4), s5, s6, s7, s8, s9, s10, .val (.int (cs.getD ii 0))]) (os13_76_x2 hs11) ?_
  show Steps p.tables e below (T5.setTop (mkF m 78 #[s0, .val (.ref o1), s2, .val (.int i3), .val (.int i4), s5, s6, s7, s8, s9, s10, .val (.int (cs.getD ii 0))] [])) _
  refine XS.iload X5.here hx rfl (hb hby d13_78) rfl ?_
  show Steps p.tables e below (T5.setTop (mkF m 80 #[s0, .val (.ref o1), s2, .val (.int i3), .val (.int i4), s5, s6, s7, s8, s9, s10, .val (.int (cs.getD ii 0))] [(.int (cs.getD ii 0))])) _
  refine XS.bipush X5.here hx rfl (hb hby d13_80) ?_
  show Steps p.tables e below (T5.setTop (mkF m 82 #[s0, .val (.ref o1), s2, .val (.int i3), .val (.int i4), s5, s6, s7, s8, s9, s10, .val (.int (cs.getD ii 0))] [(.int (48 : Int32)), (.int (cs.getD ii 0))])) _
  refine XS.icmpNo X5.here hx rfl (hb hby d13_82) rfl (flt (hk0 : ¬ ((cs.getD ii 0) < (48 : Int32)))).1 ?_
  show Steps p.tables e below (T5.setTop (mkF m 85 #[s0, .val (.ref o1), s2, .val (.int i3), .val (.int i4), s5, s6, s7, s8, s9, s10, .val (.int (cs.getD ii 0))] [])) _
  refine XS.iload X5.here hx rfl (hb hby d13_85) rfl ?_
  show Steps p.tables e below (T5.setTop (mkF m 87 #[s0, .val (.ref o1), s2, .val (.int i3), .val (.int i4), s5, s6, s7, s8, s9, s10, .val (.int (cs.getD ii 0))] [(.int (cs.getD ii 0))])) _
  refine XS.bipush X5.here hx rfl (hb hby d13_87) ?_
  show Steps p.tables e below (T5.setTop (mkF m 89 #[s0, .val (.ref o1), s2, .val (.int i3), .val (.int i4), s5, s6, s7, s8, s9, s10, .val (.int (cs.getD ii 0))] [(.int (57 : Int32)), (.int (cs.getD ii 0))])) _
  refine XS.icmpYes X5.here hx rfl (pc0 := 89) (pc' := 121) rfl (hb hby d13_89) rfl (tlt (hk1 : (57 : Int32) < (cs.getD ii 0))).2.2.1 (by decide) (by decide) ?_
  show Steps p.tables e below (T5.setTop (mkF m 121 #[s0, .val (.ref o1), s2, .val (.int i3), .val (.int i4), s5, s6, s7, s8, s9, s10, .val (.int (cs.getD ii 0))] [])) _
  refine XS.iload X5.here hx rfl (hb hby d13_121) rfl ?_
  show Steps p.tables e below (T5.setTop (mkF m 123 #[s0, .val (.ref o1), s2, .val (.int i3), .val (.int i4), s5, s6, s7, s8, s9, s10, .val (.int (cs.getD ii 0))] [(.int (cs.getD ii 0))])) _
  refine XS.bipush X5.here hx rfl (hb hby d13_123) ?_
  show Steps p.tables e below (T5.setTop (mkF m 125 #[s0, .val (.ref o1), s2, .val (.int i3), .val (.int i4), s5, s6, s7, s8, s9, s10, .val (.int (cs.getD ii 0))] [(.int (46 : Int32)), (.int (cs.getD ii 0))])) _
  refine XS.icmpYes X5.here hx rfl (pc0 := 125) (pc' := 139) rfl (hb hby d13_125) rfl (feq (hk2 : ¬ ((cs.getD ii 0) = (46 : Int32)))).2 (by decide) (by decide) ?_
  exact kt
theorem os13_76_x3 {s0 : Slot} {z1 : Value} {s2 : Slot} {z3 : Value} {z4 : Value} {s5 : Slot} {s6 : Slot} {s7 : Slot} {s8 : Slot} {s9 : Slot} {z10 : Value} {s11 : Slot} {v : Int32} (h : One s11) : storeLocals #[s0, .val z1, s2, .val z3, .val z4, s5, s6, s7, s8, s9, .val z10, s11] 11 (.int v) = some #[s0, .val z1, s2, .val z3, .val z4, s5, s6, s7, s8, s9, .val z10, .val (.int v)] := by
  rcases h with rfl | ⟨w, rfl, hw⟩
  · rfl
  · cases w <;> first | rfl | (simp [Value.category] at hw)
set_option maxRecDepth 65536 in
set_option maxHeartbeats 40000000 in
theorem x3 {p : Program} {l : Launch} {e : Env} {s : State} {m : MethodId} {args : Array Value} {below : List Frame} {meth : Method} {c : Code} {T0 : State} {locs : List Loc} {cells slots : Nat} {Z : State} {a0 : Array Value} {h0 : Heap} (s0 : Slot) (o1 : Addr) (s2 : Slot) (i3 : Int32) (i4 : Int32) (s5 : Slot) (s6 : Slot) (s7 : Slot) (s8 : Slot) (s9 : Slot) (i10 : Int32) (s11 : Slot) (cs : List Int32) (ii : Nat) (n0 : Nat)
    (X0 : Stand p l e own_R13 s m args below meth c T0 locs cells slots) (hx : p.tables.exec = Jvm.exec) (hZ : Z.Warmed39 s.vm) (hw : ∀ d ∈ tables_1, d.before a0 Z = true) (hby : c.code = prog_8_method_2_code) (hml : c.maxLocals = 12) (hown : s.vm.findClass "com/example/bandmark/bandmark/PlainDecimal" = some m.cls) (e0 : T0.heap = h0) (TX : own_Tx Z h0 o1 cs) (hi : ii < cs.length) (hj : i4 = Int32.ofNat ii) (Z0 : n0 ≤ h0.size) (N0 : Fr n0 locs) (hcl : cells ≤ own_R13.cells) (hsl : slots ≤ own_R13.slots) (hs11 : One s11) (hc67 : i4 < i3) (hc130 : ¬ (i10 = (0 : Int32))) (hk0 : (cs.getD ii 0) < (48 : Int32)) (hk1 : (cs.getD ii 0) = (46 : Int32)) :
    ∃ (T' : State) (locs' : List Loc), Stand p l e own_R13 s m args below meth c T' locs' cells slots ∧ Fr n0 locs' ∧ T'.heap = h0 ∧
      ∀ target, Steps p.tables e below (T'.setTop (mkF m 139 #[s0, .val (.ref o1), s2, .val (.int i3), .val (.int i4), s5, s6, s7, s8, s9, .val (.int i10), .val (.int (cs.getD ii 0))] [])) target → Steps p.tables e below (T0.setTop (mkF m 64 #[s0, .val (.ref o1), s2, .val (.int i3), .val (.int i4), s5, s6, s7, s8, s9, .val (.int i10), s11] [])) target := by
  obtain ⟨cq5, kq5, q5a, q5b, q5c⟩ := isOf hZ e0 TX.exa
  obtain ⟨_, _, ⟨T5, L5, k5, n5⟩, -, X5, ⟨Lc5, hQ5, l5, y5, z5⟩, st5⟩ := X0.virtualBack hx (y := (⟨"java/lang/String", "charAt", "(I)C"⟩ : MethodName)) (z := (⟨"java/lang/String", "charAt", "(I)C"⟩ : MethodName)) hown (mvT hZ (hw _ (List.mem_of_getElem? (i := 70) rfl))) (mvT hZ (hw _ (List.mem_of_getElem? (i := 71) rfl))) (notFace_of_selects (args := #[]) (mvT hZ (hw _ (List.mem_of_getElem? (i := 73) rfl)))) (mvT hZ (hw _ (List.mem_of_getElem? (i := 73) rfl))) (mvT hZ (hw _ (List.mem_of_getElem? (i := 72) rfl))) (by decide) (own_ch (W := 0) hZ hw TX (i := ii) (j := i4) hi hj n0 (by decide) (by decide)) q5a q5c (g := (mkF m 73 #[s0, .val (.ref o1), s2, .val (.int i3), .val (.int i4), s5, s6, s7, s8, s9, .val (.int i10), s11] [(.int i4), (.ref o1)])) rfl (by rw [hml]; rfl) (Steps.refl _) (argsL := [(.int i4)]) (rest := []) (lenOf pd_13_13 rfl) rfl (by show 2 * 0 + _ ≤ _; exact Nat.le_of_eq rfl) (hb hby d13_73) (fun _ _ => ⟨rfl, e0, hcl, hsl⟩)
  dsimp only [Pt.U, Pt.locs, Pt.cells, Pt.slots] at X5 l5 y5 z5 st5 hQ5
  subst l5 y5 z5
  obtain ⟨rfl, N5q, e5⟩ := hQ5
  have N5 := Fr.app N0 N5q
  refine ⟨T5, _, X5, N5, e5, fun target kt => ?_⟩
  show Steps p.tables e below (T0.setTop (mkF m 64 #[s0, .val (.ref o1), s2, .val (.int i3), .val (.int i4), s5, s6, s7, s8, s9, .val (.int i10), s11] [])) _
  refine XS.iload X0.here hx rfl (hb hby d13_64) rfl ?_
  show Steps p.tables e below (T0.setTop (mkF m 66 #[s0, .val (.ref o1), s2, .val (.int i3), .val (.int i4), s5, s6, s7, s8, s9, .val (.int i10), s11] [(.int i4)])) _
  refine XS.iloadN X0.here hx rfl (hb hby d13_66) rfl ?_
  show Steps p.tables e below (T0.setTop (mkF m 67 #[s0, .val (.ref o1), s2, .val (.int i3), .val (.int i4), s5, s6, s7, s8, s9, .val (.int i10), s11] [(.int i3), (.int i4)])) _
  refine XS.icmpNo X0.here hx rfl (hb hby d13_67) rfl (tlt hc67).2.1 ?_
  show Steps p.tables e below (T0.setTop (mkF m 70 #[s0, .val (.ref o1), s2, .val (.int i3), .val (.int i4), s5, s6, s7, s8, s9, .val (.int i10), s11] [])) _
  refine XS.aloadN X0.here hx rfl (hb hby d13_70) rfl rfl ?_
  show Steps p.tables e below (T0.setTop (mkF m 71 #[s0, .val (.ref o1), s2, .val (.int i3), .val (.int i4), s5, s6, s7, s8, s9, .val (.int i10), s11] [(.ref o1)])) _
  refine XS.iload X0.here hx rfl (hb hby d13_71) rfl ?_
  show Steps p.tables e below (T0.setTop (mkF m 73 #[s0, .val (.ref o1), s2, .val (.int i3), .val (.int i4), s5, s6, s7, s8, s9, .val (.int i10), s11] [(.int i4), (.ref o1)])) _
  refine st5.trans ?_
  show Steps p.tables e below (T5.setTop (mkF m 76 #[s0, .val (.ref o1), s2, .val (.int i3), .val (.int i4), s5, s6, s7, s8, s9, .val (.int i10), s11] [(.int (cs.getD ii 0))])) _
  refine XS.istore X5.here hx rfl (hb hby d13_76) rfl (l' := #[s0, .val (.ref o1), s2, .val (.int i3), .val (.int i4), s5, s6, s7, s8, s9, .val (.int i10), .val (.int (cs.getD ii 0))]) (os13_76_x3 hs11) ?_
  show Steps p.tables e below (T5.setTop (mkF m 78 #[s0, .val (.ref o1), s2, .val (.int i3), .val (.int i4), s5, s6, s7, s8, s9, .val (.int i10), .val (.int (cs.getD ii 0))] [])) _
  refine XS.iload X5.here hx rfl (hb hby d13_78) rfl ?_
  show Steps p.tables e below (T5.setTop (mkF m 80 #[s0, .val (.ref o1), s2, .val (.int i3), .val (.int i4), s5, s6, s7, s8, s9, .val (.int i10), .val (.int (cs.getD ii 0))] [(.int (cs.getD ii 0))])) _
  refine XS.bipush X5.here hx rfl (hb hby d13_80) ?_
  show Steps p.tables e below (T5.setTop (mkF m 82 #[s0, .val (.ref o1), s2, .val (.int i3), .val (.int i4), s5, s6, s7, s8, s9, .val (.int i10), .val (.int (cs.getD ii 0))] [(.int (48 : Int32)), (.int (cs.getD ii 0))])) _
  refine XS.icmpYes X5.here hx rfl (pc0 := 82) (pc' := 121) rfl (hb hby d13_82) rfl (tlt (hk0 : (cs.getD ii 0) < (48 : Int32))).1 (by decide) (by decide) ?_
  show Steps p.tables e below (T5.setTop (mkF m 121 #[s0, .val (.ref o1), s2, .val (.int i3), .val (.int i4), s5, s6, s7, s8, s9, .val (.int i10), .val (.int (cs.getD ii 0))] [])) _
  refine XS.iload X5.here hx rfl (hb hby d13_121) rfl ?_
  show Steps p.tables e below (T5.setTop (mkF m 123 #[s0, .val (.ref o1), s2, .val (.int i3), .val (.int i4), s5, s6, s7, s8, s9, .val (.int i10), .val (.int (cs.getD ii 0))] [(.int (cs.getD ii 0))])) _
  refine XS.bipush X5.here hx rfl (hb hby d13_123) ?_
  show Steps p.tables e below (T5.setTop (mkF m 125 #[s0, .val (.ref o1), s2, .val (.int i3), .val (.int i4), s5, s6, s7, s8, s9, .val (.int i10), .val (.int (cs.getD ii 0))] [(.int (46 : Int32)), (.int (cs.getD ii 0))])) _
  refine XS.icmpNo X5.here hx rfl (hb hby d13_125) rfl (teq (hk1 : (cs.getD ii 0) = (46 : Int32))).2 ?_
  show Steps p.tables e below (T5.setTop (mkF m 128 #[s0, .val (.ref o1), s2, .val (.int i3), .val (.int i4), s5, s6, s7, s8, s9, .val (.int i10), .val (.int (cs.getD ii 0))] [])) _
  refine XS.iload X5.here hx rfl (hb hby d13_128) rfl ?_
  show Steps p.tables e below (T5.setTop (mkF m 130 #[s0, .val (.ref o1), s2, .val (.int i3), .val (.int i4), s5, s6, s7, s8, s9, .val (.int i10), .val (.int (cs.getD ii 0))] [(.int i10)])) _
  refine XS.ifYes X5.here hx rfl (pc0 := 130) (pc' := 139) rfl (hb hby d13_130) rfl ((if0 _ _).trans (feq hc130).2) (by decide) (by decide) ?_
  exact kt
set_option maxRecDepth 65536 in
set_option maxHeartbeats 40000000 in
theorem z0 {p : Program} {l : Launch} {e : Env} {s : State} {m : MethodId} {args : Array Value} {below : List Frame} {meth : Method} {c : Code} {T0 : State} {locs : List Loc} {cells slots : Nat} {Z : State} {a0 : Array Value} {h0 : Heap} (s0 : Slot) (s1 : Slot) (s2 : Slot) (i3 : Int32) (i4 : Int32) (s5 : Slot) (s6 : Slot) (s7 : Slot) (s8 : Slot) (s9 : Slot) (s10 : Slot) (s11 : Slot)
    (X0 : Stand p l e own_R13 s m args below meth c T0 locs cells slots) (hx : p.tables.exec = Jvm.exec) (hZ : Z.Warmed39 s.vm) (hw : ∀ d ∈ tables_1, d.before a0 Z = true) (hby : c.code = prog_8_method_2_code) (hml : c.maxLocals = 12) (hown : s.vm.findClass "com/example/bandmark/bandmark/PlainDecimal" = some m.cls) (e0 : T0.heap = h0) (hc67 : ¬ (i4 < i3)) :
    ∃ (T' : State), Stand p l e own_R13 s m args below meth c T' locs cells slots ∧ T'.heap = h0 ∧
      ∀ target, Steps p.tables e below (T'.setTop (mkF m 147 #[s0, s1, s2, .val (.int i3), .val (.int i4), s5, s6, s7, s8, s9, s10, s11] [])) target → Steps p.tables e below (T0.setTop (mkF m 64 #[s0, s1, s2, .val (.int i3), .val (.int i4), s5, s6, s7, s8, s9, s10, s11] [])) target := by
  refine ⟨T0, X0, e0, fun target kt => ?_⟩
  show Steps p.tables e below (T0.setTop (mkF m 64 #[s0, s1, s2, .val (.int i3), .val (.int i4), s5, s6, s7, s8, s9, s10, s11] [])) _
  refine XS.iload X0.here hx rfl (hb hby d13_64) rfl ?_
  show Steps p.tables e below (T0.setTop (mkF m 66 #[s0, s1, s2, .val (.int i3), .val (.int i4), s5, s6, s7, s8, s9, s10, s11] [(.int i4)])) _
  refine XS.iloadN X0.here hx rfl (hb hby d13_66) rfl ?_
  show Steps p.tables e below (T0.setTop (mkF m 67 #[s0, s1, s2, .val (.int i3), .val (.int i4), s5, s6, s7, s8, s9, s10, s11] [(.int i3), (.int i4)])) _
  refine XS.icmpYes X0.here hx rfl (pc0 := 67) (pc' := 147) rfl (hb hby d13_67) rfl (flt hc67).2.1 (by decide) (by decide) ?_
  exact kt
def own_b (pt : Bool) : Int32 := if pt then 1 else 0
theorem own_scan_s (f : Nat → Int32) (k i c : Nat) (pt : Bool) : own_scan f (k + 1) i c pt = if ¬ f i < 48 ∧ ¬ 57 < f i then own_scan f k (i + 1) (c + 1) pt else if f i = 46 ∧ pt = false then own_scan f k (i + 1) c true else none := rfl
theorem own_loop {p : Program} {l : Launch} {e : Env} {s : State} {m : MethodId} {args : Array Value} {below : List Frame} {meth : Method} {c : Code} {cells slots : Nat} {Z : State} {a0 : Array Value} {h0 : Heap} (s0 : Slot) (o1 : Addr) (s2 s5 : Slot) (cs : List Int32) (b n0 : Nat) (hb : b ≤ cs.length) (h22 : cs.length ≤ 22) (hx : p.tables.exec = Jvm.exec) (hZ : Z.Warmed39 s.vm) (hw : ∀ d ∈ tables_1, d.before a0 Z = true) (hby : c.code = prog_8_method_2_code) (hml : c.maxLocals = 12) (hown : s.vm.findClass "com/example/bandmark/bandmark/PlainDecimal" = some m.cls) (TX : own_Tx Z h0 o1 cs) (Z0 : n0 ≤ h0.size) (hcl : cells ≤ own_R13.cells) (hsl : slots ≤ own_R13.slots) :
    ∀ (k i c8 : Nat) (pt : Bool) (j6 : Int64) (i9 : Int32) (s11 : Slot) (T0 : State) (locs : List Loc), i + k = b → c8 ≤ i → One s11 → Stand p l e own_R13 s m args below meth c T0 locs cells slots → T0.heap = h0 → Fr n0 locs →
      ∃ (T' : State) (locs' : List Loc), Stand p l e own_R13 s m args below meth c T' locs' cells slots ∧ Fr n0 locs' ∧ T'.heap = h0 ∧
        ((own_scan (fun j => cs.getD j 0) k i c8 pt = none ∧ ∃ La : Array Slot, ∀ target, Steps p.tables e below (T'.setTop (mkF m 139 La [])) target → Steps p.tables e below (T0.setTop (mkF m 64 #[s0, .val (.ref o1), s2, .val (.int (Int32.ofNat b)), .val (.int (Int32.ofNat i)), s5, .val (.long j6), .second, .val (.int (Int32.ofNat c8)), .val (.int i9), .val (.int (own_b pt)), s11] [])) target) ∨
         (∃ (r : Nat) (sa : Slot) (ja : Int64) (ia : Int32) (sb sc : Slot), own_scan (fun j => cs.getD j 0) k i c8 pt = some r ∧ r ≤ b ∧ ∀ target, Steps p.tables e below (T'.setTop (mkF m 147 #[s0, .val (.ref o1), s2, .val (.int (Int32.ofNat b)), sa, s5, .val (.long ja), .second, .val (.int (Int32.ofNat r)), .val (.int ia), sb, sc] [])) target → Steps p.tables e below (T0.setTop (mkF m 64 #[s0, .val (.ref o1), s2, .val (.int (Int32.ofNat b)), .val (.int (Int32.ofNat i)), s5, .val (.long j6), .second, .val (.int (Int32.ofNat c8)), .val (.int i9), .val (.int (own_b pt)), s11] [])) target)) := by
  intro k
  induction k with
  | zero =>
    intro i c8 pt j6 i9 s11 T0 locs hik hci h11 X0 e0 N0
    obtain ⟨T1, X1, e1, st1⟩ := z0 s0 (.val (.ref o1)) s2 (Int32.ofNat b) (Int32.ofNat i) s5 (.val (.long j6)) .second (.val (.int (Int32.ofNat c8))) (.val (.int i9)) (.val (.int (own_b pt))) s11 X0 hx hZ hw hby hml hown e0 (fun q => by have := (own_lt i b (by omega) (by omega)).mp q; omega)
    exact ⟨T1, locs, X1, N0, e1, Or.inr ⟨c8, _, j6, i9, _, s11, rfl, by omega, st1⟩⟩
  | succ k ih =>
    intro i c8 pt j6 i9 s11 T0 locs hik hci h11 X0 e0 N0
    have hlt : Int32.ofNat i < Int32.ofNat b := (own_lt i b (by omega) (by omega)).mpr (by omega)
    by_cases hd : ¬ cs.getD i 0 < 48 ∧ ¬ 57 < cs.getD i 0
    · have es : own_scan (fun j => cs.getD j 0) (k + 1) i c8 pt = own_scan (fun j => cs.getD j 0) k (i + 1) (c8 + 1) pt := (own_scan_s _ _ _ _ _).trans (if_pos hd)
      cases pt with
      | false =>
        obtain ⟨T1, L1, X1, N1, e1, st1⟩ := t1 s0 o1 s2 (Int32.ofNat b) (Int32.ofNat i) s5 j6 (Int32.ofNat c8) (.val (.int i9)) (0 : Int32) s11 cs i n0 X0 hx hZ hw hby hml hown e0 TX (by omega) rfl Z0 N0 hcl hsl h11 hlt rfl hd.1 hd.2
        rw [own_succ i (by omega), own_succ c8 (by omega)] at st1
        obtain ⟨T2, L2, X2, N2, e2, h2⟩ := ih (i + 1) (c8 + 1) false ((j6 * (10 : Int64)) + (((cs.getD i 0) - (48 : Int32)).toInt64)) i9 (.val (.int (cs.getD i 0))) T1 L1 (by omega) (by omega) (One.val rfl) X1 e1 N1
        rcases h2 with ⟨hn, La, st2⟩ | ⟨r, sa, ja, ia, sb, sc, hn, hr, st2⟩
        · exact ⟨T2, L2, X2, N2, e2, Or.inl ⟨es.trans hn, La, fun t q => st1 _ (st2 _ q)⟩⟩
        · exact ⟨T2, L2, X2, N2, e2, Or.inr ⟨r, sa, ja, ia, sb, sc, es.trans hn, hr, fun t q => st1 _ (st2 _ q)⟩⟩
      | true =>
        obtain ⟨T1, L1, X1, N1, e1, st1⟩ := t2 s0 o1 s2 (Int32.ofNat b) (Int32.ofNat i) s5 j6 (Int32.ofNat c8) i9 (1 : Int32) s11 cs i n0 X0 hx hZ hw hby hml hown e0 TX (by omega) rfl Z0 N0 hcl hsl h11 hlt (by decide) hd.1 hd.2
        rw [own_succ i (by omega), own_succ c8 (by omega)] at st1
        obtain ⟨T2, L2, X2, N2, e2, h2⟩ := ih (i + 1) (c8 + 1) true ((j6 * (10 : Int64)) + (((cs.getD i 0) - (48 : Int32)).toInt64)) (i9 + (1 : Int32)) (.val (.int (cs.getD i 0))) T1 L1 (by omega) (by omega) (One.val rfl) X1 e1 N1
        rcases h2 with ⟨hn, La, st2⟩ | ⟨r, sa, ja, ia, sb, sc, hn, hr, st2⟩
        · exact ⟨T2, L2, X2, N2, e2, Or.inl ⟨es.trans hn, La, fun t q => st1 _ (st2 _ q)⟩⟩
        · exact ⟨T2, L2, X2, N2, e2, Or.inr ⟨r, sa, ja, ia, sb, sc, es.trans hn, hr, fun t q => st1 _ (st2 _ q)⟩⟩
    · by_cases h46 : cs.getD i 0 = 46
      · have h48 : cs.getD i 0 < 48 := by rw [h46]; decide
        cases pt with
        | false =>
          have es : own_scan (fun j => cs.getD j 0) (k + 1) i c8 false = own_scan (fun j => cs.getD j 0) k (i + 1) c8 true := (own_scan_s _ _ _ _ _).trans ((if_neg hd).trans (if_pos ⟨h46, rfl⟩))
          obtain ⟨T1, L1, X1, N1, e1, st1⟩ := t3 s0 o1 s2 (Int32.ofNat b) (Int32.ofNat i) s5 (.val (.long j6)) .second (.val (.int (Int32.ofNat c8))) (.val (.int i9)) (0 : Int32) s11 cs i n0 X0 hx hZ hw hby hml hown e0 TX (by omega) rfl Z0 N0 hcl hsl h11 hlt rfl h48 h46
          rw [own_succ i (by omega)] at st1
          obtain ⟨T2, L2, X2, N2, e2, h2⟩ := ih (i + 1) c8 true j6 i9 (.val (.int (cs.getD i 0))) T1 L1 (by omega) (by omega) (One.val rfl) X1 e1 N1
          rcases h2 with ⟨hn, La, st2⟩ | ⟨r, sa, ja, ia, sb, sc, hn, hr, st2⟩
          · exact ⟨T2, L2, X2, N2, e2, Or.inl ⟨es.trans hn, La, fun t q => st1 _ (st2 _ q)⟩⟩
          · exact ⟨T2, L2, X2, N2, e2, Or.inr ⟨r, sa, ja, ia, sb, sc, es.trans hn, hr, fun t q => st1 _ (st2 _ q)⟩⟩
        | true =>
          have es : own_scan (fun j => cs.getD j 0) (k + 1) i c8 true = none := (own_scan_s _ _ _ _ _).trans ((if_neg hd).trans (if_neg (fun q => by cases q.2)))
          obtain ⟨T1, L1, X1, N1, e1, st1⟩ := x3 s0 o1 s2 (Int32.ofNat b) (Int32.ofNat i) s5 (.val (.long j6)) .second (.val (.int (Int32.ofNat c8))) (.val (.int i9)) (1 : Int32) s11 cs i n0 X0 hx hZ hw hby hml hown e0 TX (by omega) rfl Z0 N0 hcl hsl h11 hlt (by decide) h48 h46
          exact ⟨T1, L1, X1, N1, e1, Or.inl ⟨es, _, st1⟩⟩
      · have es : own_scan (fun j => cs.getD j 0) (k + 1) i c8 pt = none := (own_scan_s _ _ _ _ _).trans ((if_neg hd).trans (if_neg (fun q => h46 q.1)))
        by_cases h48 : cs.getD i 0 < 48
        · obtain ⟨T1, L1, X1, N1, e1, st1⟩ := x1 s0 o1 s2 (Int32.ofNat b) (Int32.ofNat i) s5 (.val (.long j6)) .second (.val (.int (Int32.ofNat c8))) (.val (.int i9)) (.val (.int (own_b pt))) s11 cs i n0 X0 hx hZ hw hby hml hown e0 TX (by omega) rfl Z0 N0 hcl hsl h11 hlt h48 h46
          exact ⟨T1, L1, X1, N1, e1, Or.inl ⟨es, _, st1⟩⟩
        · have h57 : 57 < cs.getD i 0 := Classical.byContradiction fun q => hd ⟨h48, q⟩
          obtain ⟨T1, L1, X1, N1, e1, st1⟩ := x2 s0 o1 s2 (Int32.ofNat b) (Int32.ofNat i) s5 (.val (.long j6)) .second (.val (.int (Int32.ofNat c8))) (.val (.int i9)) (.val (.int (own_b pt))) s11 cs i n0 X0 hx hZ hw hby hml hown e0 TX (by omega) rfl Z0 N0 hcl hsl h11 hlt h48 h57 h46
          exact ⟨T1, L1, X1, N1, e1, Or.inl ⟨es, _, st1⟩⟩
theorem own_begin {p : Program} {l : Launch} {e : Env} {s : State} {m : MethodId} {args : Array Value} {below : List Frame} {meth : Method} {c : Code} {cells slots : Nat} {Z : State} {a0 : Array Value} {h0 : Heap} {T0 : State} {locs : List Loc} (s0 : Slot) (o1 : Addr) (cs : List Int32) (a b n0 : Nat) (hab : a ≤ b) (hb : b ≤ cs.length) (h22 : cs.length ≤ 22) (hx : p.tables.exec = Jvm.exec) (hZ : Z.Warmed39 s.vm) (hw : ∀ d ∈ tables_1, d.before a0 Z = true) (hby : c.code = prog_8_method_2_code) (hml : c.maxLocals = 12) (hown : s.vm.findClass "com/example/bandmark/bandmark/PlainDecimal" = some m.cls) (TX : own_Tx Z h0 o1 cs) (Z0 : n0 ≤ h0.size) (hcl : cells ≤ own_R13.cells) (hsl : slots ≤ own_R13.slots) (X0 : Stand p l e own_R13 s m args below meth c T0 locs cells slots) (e0 : T0.heap = h0) (N0 : Fr n0 locs) :
    ∃ (T' : State) (locs' : List Loc) (i5 : Int32), Stand p l e own_R13 s m args below meth c T' locs' cells slots ∧ Fr n0 locs' ∧ T'.heap = h0 ∧ ∀ target, Steps p.tables e below (T'.setTop (mkF m 64 #[s0, .val (.ref o1), .val (.int (Int32.ofNat a)), .val (.int (Int32.ofNat b)), .val (.int (Int32.ofNat (own_start (fun j => cs.getD j 0) a b))), .val (.int i5), .val (.long (0 : Int64)), .second, .val (.int (0 : Int32)), .val (.int (0 : Int32)), .val (.int (0 : Int32)), .unset] [])) target → Steps p.tables e below (T0.setTop (mkF m 0 #[s0, .val (.ref o1), .val (.int (Int32.ofNat a)), .val (.int (Int32.ofNat b)), .unset, .unset, .unset, .unset, .unset, .unset, .unset, .unset] [])) target := by
  by_cases hlt : a < b
  · have hl : Int32.ofNat a < Int32.ofNat b := (own_lt a b (by omega) (by omega)).mpr hlt
    by_cases h45 : cs.getD a 0 = 45
    · have q : own_start (fun j => cs.getD j 0) a b = a + 1 := if_pos ⟨hlt, Or.inl h45⟩
      rw [q, ← own_succ a (by omega)]
      obtain ⟨T1, L1, X1, N1, e1, st1⟩ := b1 s0 o1 (Int32.ofNat a) (Int32.ofNat b) .unset .unset .unset .unset .unset .unset cs a n0 X0 hx hZ hw hby hml hown e0 TX (by omega) rfl Z0 N0 hcl hsl One.u One.u One.u One.u One.u hl (by decide) h45
      exact ⟨T1, L1, _, X1, N1, e1, st1⟩
    · by_cases h43 : cs.getD a 0 = 43
      · have q : own_start (fun j => cs.getD j 0) a b = a + 1 := if_pos ⟨hlt, Or.inr h43⟩
        rw [q, ← own_succ a (by omega)]
        obtain ⟨T1, L1, X1, N1, e1, st1⟩ := b2 s0 o1 (Int32.ofNat a) (Int32.ofNat b) .unset .unset .unset .unset .unset .unset cs a n0 X0 hx hZ hw hby hml hown e0 TX (by omega) rfl Z0 N0 hcl hsl One.u One.u One.u One.u One.u hl hl h45 h43
        exact ⟨T1, L1, _, X1, N1, e1, st1⟩
      · have q : own_start (fun j => cs.getD j 0) a b = a := if_neg (fun z => z.2.elim h45 h43)
        rw [q]
        obtain ⟨T1, L1, X1, N1, e1, st1⟩ := b3 s0 o1 (Int32.ofNat a) (Int32.ofNat b) .unset .unset .unset .unset .unset .unset cs a n0 X0 hx hZ hw hby hml hown e0 TX (by omega) rfl Z0 N0 hcl hsl One.u One.u One.u One.u One.u hl hl h45 h43
        exact ⟨T1, L1, _, X1, N1, e1, st1⟩
  · have hl : ¬ Int32.ofNat a < Int32.ofNat b := fun q => hlt ((own_lt a b (by omega) (by omega)).mp q)
    have q : own_start (fun j => cs.getD j 0) a b = a := if_neg (fun z => hlt z.1)
    rw [q]
    obtain ⟨T1, X1, e1, st1⟩ := b0 s0 (.val (.ref o1)) (Int32.ofNat a) (Int32.ofNat b) .unset .unset .unset .unset .unset .unset X0 hx hZ hw hby hml hown e0 One.u One.u One.u One.u One.u hl hl
    exact ⟨T1, locs, _, X1, N0, e1, st1⟩
def own_PD (Z : State) (h : Heap) (a : Addr) (d : Int32) : Prop := Exa Z h a "com/example/bandmark/bandmark/PlainDecimal" ∧ (∃ v, Fld Z h a "com/example/bandmark/bandmark/PlainDecimal" "text" "Ljava/lang/String;" v) ∧ (∃ v, Fld Z h a "com/example/bandmark/bandmark/PlainDecimal" "from" "I" v) ∧ (∃ v, Fld Z h a "com/example/bandmark/bandmark/PlainDecimal" "to" "I" v) ∧ (∃ v, Fld Z h a "com/example/bandmark/bandmark/PlainDecimal" "unscaled" "J" v) ∧ (∃ v, Fld Z h a "com/example/bandmark/bandmark/PlainDecimal" "scale" "I" v) ∧ Fld Z h a "com/example/bandmark/bandmark/PlainDecimal" "digits" "I" (.int d)
theorem d13_154 : decode prog_8_method_2_code 154 = .ok (.aload_n 0, 1) := by decide +kernel
theorem d13_155 : decode prog_8_method_2_code 155 = .ok (.aload_n 1, 1) := by decide +kernel
theorem d13_156 : decode prog_8_method_2_code 156 = .ok (.putfield 15, 3) := by decide +kernel
theorem d13_159 : decode prog_8_method_2_code 159 = .ok (.aload_n 0, 1) := by decide +kernel
theorem d13_160 : decode prog_8_method_2_code 160 = .ok (.iload_n 2, 1) := by decide +kernel
theorem d13_161 : decode prog_8_method_2_code 161 = .ok (.putfield 21, 3) := by decide +kernel
theorem d13_164 : decode prog_8_method_2_code 164 = .ok (.aload_n 0, 1) := by decide +kernel
theorem d13_165 : decode prog_8_method_2_code 165 = .ok (.iload_n 3, 1) := by decide +kernel
theorem d13_166 : decode prog_8_method_2_code 166 = .ok (.putfield 25, 3) := by decide +kernel
theorem d13_169 : decode prog_8_method_2_code 169 = .ok (.aload_n 0, 1) := by decide +kernel
theorem d13_170 : decode prog_8_method_2_code 170 = .ok (.iload 5, 2) := by decide +kernel
theorem d13_172 : decode prog_8_method_2_code 172 = .ok (.ifCond .eq 9, 3) := by decide +kernel
theorem d13_181 : decode prog_8_method_2_code 181 = .ok (.lload 6, 2) := by decide +kernel
theorem d13_183 : decode prog_8_method_2_code 183 = .ok (.putfield 28, 3) := by decide +kernel
theorem d13_186 : decode prog_8_method_2_code 186 = .ok (.aload_n 0, 1) := by decide +kernel
theorem d13_187 : decode prog_8_method_2_code 187 = .ok (.iload 9, 2) := by decide +kernel
theorem d13_189 : decode prog_8_method_2_code 189 = .ok (.putfield 32, 3) := by decide +kernel
theorem d13_192 : decode prog_8_method_2_code 192 = .ok (.aload_n 0, 1) := by decide +kernel
theorem d13_193 : decode prog_8_method_2_code 193 = .ok (.iload 8, 2) := by decide +kernel
theorem d13_195 : decode prog_8_method_2_code 195 = .ok (.putfield 35, 3) := by decide +kernel
set_option maxRecDepth 65536 in
set_option maxHeartbeats 40000000 in
theorem e1 {p : Program} {l : Launch} {e : Env} {s : State} {m : MethodId} {args : Array Value} {below : List Frame} {meth : Method} {c : Code} {T0 : State} {locs : List Loc} {cells slots : Nat} {Z : State} {a0 : Array Value} {h0 : Heap} (o0 : Addr) (o1 : Addr) (i2 : Int32) (i3 : Int32) (s4 : Slot) (i5 : Int32) (j6 : Int64) (i8 : Int32) (i9 : Int32) (s10 : Slot) (s11 : Slot) (u_text_o0 : Value) (u_from_o0 : Value) (u_to_o0 : Value) (u_unscaled_o0 : Value) (u_scale_o0 : Value) (u_digits_o0 : Value) (n0 : Nat)
    (X0 : Stand p l e own_R13 s m args below meth c T0 locs cells slots) (hx : p.tables.exec = Jvm.exec) (hZ : Z.Warmed39 s.vm) (hw : ∀ d ∈ tables_1, d.before a0 Z = true) (hby : c.code = prog_8_method_2_code) (hml : c.maxLocals = 12) (hown : s.vm.findClass "com/example/bandmark/bandmark/PlainDecimal" = some m.cls) (e0 : T0.heap = h0) (Z0 : n0 ≤ h0.size) (N0 : Fr n0 locs) (hcl : cells ≤ own_R13.cells) (hsl : slots ≤ own_R13.slots) (E_o0 : Exa Z h0 o0 "com/example/bandmark/bandmark/PlainDecimal") (F_text_o0 : Fld Z h0 o0 "com/example/bandmark/bandmark/PlainDecimal" "text" "Ljava/lang/String;" u_text_o0) (g_o0 : n0 ≤ o0) (F_from_o0 : Fld Z h0 o0 "com/example/bandmark/bandmark/PlainDecimal" "from" "I" u_from_o0) (F_to_o0 : Fld Z h0 o0 "com/example/bandmark/bandmark/PlainDecimal" "to" "I" u_to_o0) (F_unscaled_o0 : Fld Z h0 o0 "com/example/bandmark/bandmark/PlainDecimal" "unscaled" "J" u_unscaled_o0) (F_scale_o0 : Fld Z h0 o0 "com/example/bandmark/bandmark/PlainDecimal" "scale" "I" u_scale_o0) (F_digits_o0 : Fld Z h0 o0 "com/example/bandmark/bandmark/PlainDecimal" "digits" "I" u_digits_o0) (hc172 : i5 = (0 : Int32)) :
    ∃ (T' : State) (locs' : List Loc), Stand p l e own_R13 s m args below meth c T' locs' cells slots ∧ Fr n0 locs' ∧ Keep h0 T'.heap [o0] ∧ own_PD Z T'.heap o0 i8 ∧
      ∀ target, Steps p.tables e below (T'.setTop (mkF m 198 #[.val (.ref o0), .val (.ref o1), .val (.int i2), .val (.int i3), s4, .val (.int i5), .val (.long j6), .second, .val (.int i8), .val (.int i9), s10, s11] [])) target → Steps p.tables e below (T0.setTop (mkF m 154 #[.val (.ref o0), .val (.ref o1), .val (.int i2), .val (.int i3), s4, .val (.int i5), .val (.long j6), .second, .val (.int i8), .val (.int i9), s10, s11] [])) target := by
  obtain ⟨T5, h5, X5, e5, W5, st5⟩ := putF X0 hx hZ hown (host := "") (Or.inl (hw _ (List.mem_of_getElem? (i := 92) rfl))) Via.refl e0 F_text_o0 E_o0 (Or.inl (hw _ (List.mem_of_getElem? (i := 93) rfl))) (hw _ (List.mem_of_getElem? (i := 52) rfl)) (ty := (.object "java/lang/String")) (by decide) rfl rfl (g := (mkF m 156 #[.val (.ref o0), .val (.ref o1), .val (.int i2), .val (.int i3), s4, .val (.int i5), .val (.long j6), .second, .val (.int i8), .val (.int i9), s10, s11] [(.ref o1), (.ref o0)])) rfl rfl (hb hby d13_156)
  have Fw5 := F_text_o0.same W5
  have K5 : Keep h0 h5 [o0] := (Keep.refl h0 [o0]).wr W5 (Or.inl (List.mem_of_getElem? (i := 0) rfl))
  have N5 := Fr.snoc X5 N0 g_o0
  obtain ⟨T6, h6, X6, e6, W6, st6⟩ := putF X5 hx hZ hown (host := "") (Or.inl (hw _ (List.mem_of_getElem? (i := 94) rfl))) Via.refl e5 (F_from_o0.other W5 (Or.inr (slot_ne (Or.inl (hw _ (List.mem_of_getElem? (i := 95) rfl))) (Or.inl (hw _ (List.mem_of_getElem? (i := 93) rfl))) (by decide) (t := .int) (t' := (.object "java/lang/String")) (by decide) (by decide)))) (E_o0.wr W5) (Or.inl (hw _ (List.mem_of_getElem? (i := 95) rfl))) (hw _ (List.mem_of_getElem? (i := 52) rfl)) (ty := .int) (by decide) rfl rfl (g := (mkF m 161 #[.val (.ref o0), .val (.ref o1), .val (.int i2), .val (.int i3), s4, .val (.int i5), .val (.long j6), .second, .val (.int i8), .val (.int i9), s10, s11] [(.int i2), (.ref o0)])) rfl rfl (hb hby d13_161)
  have Fw6 := (F_from_o0.other W5 (Or.inr (slot_ne (Or.inl (hw _ (List.mem_of_getElem? (i := 95) rfl))) (Or.inl (hw _ (List.mem_of_getElem? (i := 93) rfl))) (by decide) (t := .int) (t' := (.object "java/lang/String")) (by decide) (by decide)))).same W6
  have K6 : Keep h0 h6 [o0] := K5.wr W6 (Or.inl (List.mem_of_getElem? (i := 0) rfl))
  have N6 := Fr.snoc X6 N5 g_o0
  obtain ⟨T7, h7, X7, e7, W7, st7⟩ := putF X6 hx hZ hown (host := "") (Or.inl (hw _ (List.mem_of_getElem? (i := 96) rfl))) Via.refl e6 ((F_to_o0.other W5 (Or.inr (slot_ne (Or.inl (hw _ (List.mem_of_getElem? (i := 97) rfl))) (Or.inl (hw _ (List.mem_of_getElem? (i := 93) rfl))) (by decide) (t := .int) (t' := (.object "java/lang/String")) (by decide) (by decide)))).other W6 (Or.inr (slot_ne (Or.inl (hw _ (List.mem_of_getElem? (i := 97) rfl))) (Or.inl (hw _ (List.mem_of_getElem? (i := 95) rfl))) (by decide) (t := .int) (t' := .int) (by decide) (by decide)))) ((E_o0.wr W5).wr W6) (Or.inl (hw _ (List.mem_of_getElem? (i := 97) rfl))) (hw _ (List.mem_of_getElem? (i := 52) rfl)) (ty := .int) (by decide) rfl rfl (g := (mkF m 166 #[.val (.ref o0), .val (.ref o1), .val (.int i2), .val (.int i3), s4, .val (.int i5), .val (.long j6), .second, .val (.int i8), .val (.int i9), s10, s11] [(.int i3), (.ref o0)])) rfl rfl (hb hby d13_166)
  have Fw7 := ((F_to_o0.other W5 (Or.inr (slot_ne (Or.inl (hw _ (List.mem_of_getElem? (i := 97) rfl))) (Or.inl (hw _ (List.mem_of_getElem? (i := 93) rfl))) (by decide) (t := .int) (t' := (.object "java/lang/String")) (by decide) (by decide)))).other W6 (Or.inr (slot_ne (Or.inl (hw _ (List.mem_of_getElem? (i := 97) rfl))) (Or.inl (hw _ (List.mem_of_getElem? (i := 95) rfl))) (by decide) (t := .int) (t' := .int) (by decide) (by decide)))).same W7
  have K7 : Keep h0 h7 [o0] := K6.wr W7 (Or.inl (List.mem_of_getElem? (i := 0) rfl))
  have N7 := Fr.snoc X7 N6 g_o0
  obtain ⟨T8, h8, X8, e8, W8, st8⟩ := putF X7 hx hZ hown (host := "") (Or.inl (hw _ (List.mem_of_getElem? (i := 98) rfl))) Via.refl e7 (((F_unscaled_o0.other W5 (Or.inr (slot_ne (Or.inl (hw _ (List.mem_of_getElem? (i := 99) rfl))) (Or.inl (hw _ (List.mem_of_getElem? (i := 93) rfl))) (by decide) (t := .long) (t' := (.object "java/lang/String")) (by decide) (by decide)))).other W6 (Or.inr (slot_ne (Or.inl (hw _ (List.mem_of_getElem? (i := 99) rfl))) (Or.inl (hw _ (List.mem_of_getElem? (i := 95) rfl))) (by decide) (t := .long) (t' := .int) (by decide) (by decide)))).other W7 (Or.inr (slot_ne (Or.inl (hw _ (List.mem_of_getElem? (i := 99) rfl))) (Or.inl (hw _ (List.mem_of_getElem? (i := 97) rfl))) (by decide) (t := .long) (t' := .int) (by decide) (by decide)))) (((E_o0.wr W5).wr W6).wr W7) (Or.inl (hw _ (List.mem_of_getElem? (i := 99) rfl))) (hw _ (List.mem_of_getElem? (i := 52) rfl)) (ty := .long) (by decide) rfl rfl (g := (mkF m 183 #[.val (.ref o0), .val (.ref o1), .val (.int i2), .val (.int i3), s4, .val (.int i5), .val (.long j6), .second, .val (.int i8), .val (.int i9), s10, s11] [(.long j6), (.ref o0)])) rfl rfl (hb hby d13_183)
  have Fw8 := (((F_unscaled_o0.other W5 (Or.inr (slot_ne (Or.inl (hw _ (List.mem_of_getElem? (i := 99) rfl))) (Or.inl (hw _ (List.mem_of_getElem? (i := 93) rfl))) (by decide) (t := .long) (t' := (.object "java/lang/String")) (by decide) (by decide)))).other W6 (Or.inr (slot_ne (Or.inl (hw _ (List.mem_of_getElem? (i := 99) rfl))) (Or.inl (hw _ (List.mem_of_getElem? (i := 95) rfl))) (by decide) (t := .long) (t' := .int) (by decide) (by decide)))).other W7 (Or.inr (slot_ne (Or.inl (hw _ (List.mem_of_getElem? (i := 99) rfl))) (Or.inl (hw _ (List.mem_of_getElem? (i := 97) rfl))) (by decide) (t := .long) (t' := .int) (by decide) (by decide)))).same W8
  have K8 : Keep h0 h8 [o0] := K7.wr W8 (Or.inl (List.mem_of_getElem? (i := 0) rfl))
  have N8 := Fr.snoc X8 N7 g_o0
  obtain ⟨T9, h9, X9, e9, W9, st9⟩ := putF X8 hx hZ hown (host := "") (Or.inl (hw _ (List.mem_of_getElem? (i := 100) rfl))) Via.refl e8 ((((F_scale_o0.other W5 (Or.inr (slot_ne (Or.inl (hw _ (List.mem_of_getElem? (i := 101) rfl))) (Or.inl (hw _ (List.mem_of_getElem? (i := 93) rfl))) (by decide) (t := .int) (t' := (.object "java/lang/String")) (by decide) (by decide)))).other W6 (Or.inr (slot_ne (Or.inl (hw _ (List.mem_of_getElem? (i := 101) rfl))) (Or.inl (hw _ (List.mem_of_getElem? (i := 95) rfl))) (by decide) (t := .int) (t' := .int) (by decide) (by decide)))).other W7 (Or.inr (slot_ne (Or.inl (hw _ (List.mem_of_getElem? (i := 101) rfl))) (Or.inl (hw _ (List.mem_of_getElem? (i := 97) rfl))) (by decide) (t := .int) (t' := .int) (by decide) (by decide)))).other W8 (Or.inr (slot_ne (Or.inl (hw _ (List.mem_of_getElem? (i := 101) rfl))) (Or.inl (hw _ (List.mem_of_getElem? (i := 99) rfl))) (by decide) (t := .int) (t' := .long) (by decide) (by decide)))) ((((E_o0.wr W5).wr W6).wr W7).wr W8) (Or.inl (hw _ (List.mem_of_getElem? (i := 101) rfl))) (hw _ (List.mem_of_getElem? (i := 52) rfl)) (ty := .int) (by decide) rfl rfl (g := (mkF m 189 #[.val (.ref o0), .val (.ref o1), .val (.int i2), .val (.int i3), s4, .val (.int i5), .val (.long j6), .second, .val (.int i8), .val (.int i9), s10, s11] [(.int i9), (.ref o0)])) rfl rfl (hb hby d13_189)
  have Fw9 := ((((F_scale_o0.other W5 (Or.inr (slot_ne (Or.inl (hw _ (List.mem_of_getElem? (i := 101) rfl))) (Or.inl (hw _ (List.mem_of_getElem? (i := 93) rfl))) (by decide) (t := .int) (t' := (.object "java/lang/String")) (by decide) (by decide)))).other W6 (Or.inr (slot_ne (Or.inl (hw _ (List.mem_of_getElem? (i := 101) rfl))) (Or.inl (hw _ (List.mem_of_getElem? (i := 95) rfl))) (by decide) (t := .int) (t' := .int) (by decide) (by decide)))).other W7 (Or.inr (slot_ne (Or.inl (hw _ (List.mem_of_getElem? (i := 101) rfl))) (Or.inl (hw _ (List.mem_of_getElem? (i := 97) rfl))) (by decide) (t := .int) (t' := .int) (by decide) (by decide)))).other W8 (Or.inr (slot_ne (Or.inl (hw _ (List.mem_of_getElem? (i := 101) rfl))) (Or.inl (hw _ (List.mem_of_getElem? (i := 99) rfl))) (by decide) (t := .int) (t' := .long) (by decide) (by decide)))).same W9
  have K9 : Keep h0 h9 [o0] := K8.wr W9 (Or.inl (List.mem_of_getElem? (i := 0) rfl))
  have N9 := Fr.snoc X9 N8 g_o0
  obtain ⟨T10, h10, X10, e10, W10, st10⟩ := putF X9 hx hZ hown (host := "") (Or.inl (hw _ (List.mem_of_getElem? (i := 68) rfl))) Via.refl e9 (((((F_digits_o0.other W5 (Or.inr (slot_ne (Or.inl (hw _ (List.mem_of_getElem? (i := 69) rfl))) (Or.inl (hw _ (List.mem_of_getElem? (i := 93) rfl))) (by decide) (t := .int) (t' := (.object "java/lang/String")) (by decide) (by decide)))).other W6 (Or.inr (slot_ne (Or.inl (hw _ (List.mem_of_getElem? (i := 69) rfl))) (Or.inl (hw _ (List.mem_of_getElem? (i := 95) rfl))) (by decide) (t := .int) (t' := .int) (by decide) (by decide)))).other W7 (Or.inr (slot_ne (Or.inl (hw _ (List.mem_of_getElem? (i := 69) rfl))) (Or.inl (hw _ (List.mem_of_getElem? (i := 97) rfl))) (by decide) (t := .int) (t' := .int) (by decide) (by decide)))).other W8 (Or.inr (slot_ne (Or.inl (hw _ (List.mem_of_getElem? (i := 69) rfl))) (Or.inl (hw _ (List.mem_of_getElem? (i := 99) rfl))) (by decide) (t := .int) (t' := .long) (by decide) (by decide)))).other W9 (Or.inr (slot_ne (Or.inl (hw _ (List.mem_of_getElem? (i := 69) rfl))) (Or.inl (hw _ (List.mem_of_getElem? (i := 101) rfl))) (by decide) (t := .int) (t' := .int) (by decide) (by decide)))) (((((E_o0.wr W5).wr W6).wr W7).wr W8).wr W9) (Or.inl (hw _ (List.mem_of_getElem? (i := 69) rfl))) (hw _ (List.mem_of_getElem? (i := 52) rfl)) (ty := .int) (by decide) rfl rfl (g := (mkF m 195 #[.val (.ref o0), .val (.ref o1), .val (.int i2), .val (.int i3), s4, .val (.int i5), .val (.long j6), .second, .val (.int i8), .val (.int i9), s10, s11] [(.int i8), (.ref o0)])) rfl rfl (hb hby d13_195)
  have Fw10 := (((((F_digits_o0.other W5 (Or.inr (slot_ne (Or.inl (hw _ (List.mem_of_getElem? (i := 69) rfl))) (Or.inl (hw _ (List.mem_of_getElem? (i := 93) rfl))) (by decide) (t := .int) (t' := (.object "java/lang/String")) (by decide) (by decide)))).other W6 (Or.inr (slot_ne (Or.inl (hw _ (List.mem_of_getElem? (i := 69) rfl))) (Or.inl (hw _ (List.mem_of_getElem? (i := 95) rfl))) (by decide) (t := .int) (t' := .int) (by decide) (by decide)))).other W7 (Or.inr (slot_ne (Or.inl (hw _ (List.mem_of_getElem? (i := 69) rfl))) (Or.inl (hw _ (List.mem_of_getElem? (i := 97) rfl))) (by decide) (t := .int) (t' := .int) (by decide) (by decide)))).other W8 (Or.inr (slot_ne (Or.inl (hw _ (List.mem_of_getElem? (i := 69) rfl))) (Or.inl (hw _ (List.mem_of_getElem? (i := 99) rfl))) (by decide) (t := .int) (t' := .long) (by decide) (by decide)))).other W9 (Or.inr (slot_ne (Or.inl (hw _ (List.mem_of_getElem? (i := 69) rfl))) (Or.inl (hw _ (List.mem_of_getElem? (i := 101) rfl))) (by decide) (t := .int) (t' := .int) (by decide) (by decide)))).same W10
  have K10 : Keep h0 h10 [o0] := K9.wr W10 (Or.inl (List.mem_of_getElem? (i := 0) rfl))
  have N10 := Fr.snoc X10 N9 g_o0
  refine ⟨T10, _, X10, N10, by rw [e10]; exact K10, by rw [e10]; exact ⟨((((((E_o0.wr W5).wr W6).wr W7).wr W8).wr W9).wr W10), ⟨_, (((((Fw5.other W6 (Or.inr (slot_ne (Or.inl (hw _ (List.mem_of_getElem? (i := 93) rfl))) (Or.inl (hw _ (List.mem_of_getElem? (i := 95) rfl))) (by decide) (t := (.object "java/lang/String")) (t' := .int) (by decide) (by decide)))).other W7 (Or.inr (slot_ne (Or.inl (hw _ (List.mem_of_getElem? (i := 93) rfl))) (Or.inl (hw _ (List.mem_of_getElem? (i := 97) rfl))) (by decide) (t := (.object "java/lang/String")) (t' := .int) (by decide) (by decide)))).other W8 (Or.inr (slot_ne (Or.inl (hw _ (List.mem_of_getElem? (i := 93) rfl))) (Or.inl (hw _ (List.mem_of_getElem? (i := 99) rfl))) (by decide) (t := (.object "java/lang/String")) (t' := .long) (by decide) (by decide)))).other W9 (Or.inr (slot_ne (Or.inl (hw _ (List.mem_of_getElem? (i := 93) rfl))) (Or.inl (hw _ (List.mem_of_getElem? (i := 101) rfl))) (by decide) (t := (.object "java/lang/String")) (t' := .int) (by decide) (by decide)))).other W10 (Or.inr (slot_ne (Or.inl (hw _ (List.mem_of_getElem? (i := 93) rfl))) (Or.inl (hw _ (List.mem_of_getElem? (i := 69) rfl))) (by decide) (t := (.object "java/lang/String")) (t' := .int) (by decide) (by decide))))⟩, ⟨_, ((((Fw6.other W7 (Or.inr (slot_ne (Or.inl (hw _ (List.mem_of_getElem? (i := 95) rfl))) (Or.inl (hw _ (List.mem_of_getElem? (i := 97) rfl))) (by decide) (t := .int) (t' := .int) (by decide) (by decide)))).other W8 (Or.inr (slot_ne (Or.inl (hw _ (List.mem_of_getElem? (i := 95) rfl))) (Or.inl (hw _ (List.mem_of_getElem? (i := 99) rfl))) (by decide) (t := .int) (t' := .long) (by decide) (by decide)))).other W9 (Or.inr (slot_ne (Or.inl (hw _ (List.mem_of_getElem? (i := 95) rfl))) (Or.inl (hw _ (List.mem_of_getElem? (i := 101) rfl))) (by decide) (t := .int) (t' := .int) (by decide) (by decide)))).other W10 (Or.inr (slot_ne (Or.inl (hw _ (List.mem_of_getElem? (i := 95) rfl))) (Or.inl (hw _ (List.mem_of_getElem? (i := 69) rfl))) (by decide) (t := .int) (t' := .int) (by decide) (by decide))))⟩, ⟨_, (((Fw7.other W8 (Or.inr (slot_ne (Or.inl (hw _ (List.mem_of_getElem? (i := 97) rfl))) (Or.inl (hw _ (List.mem_of_getElem? (i := 99) rfl))) (by decide) (t := .int) (t' := .long) (by decide) (by decide)))).other W9 (Or.inr (slot_ne (Or.inl (hw _ (List.mem_of_getElem? (i := 97) rfl))) (Or.inl (hw _ (List.mem_of_getElem? (i := 101) rfl))) (by decide) (t := .int) (t' := .int) (by decide) (by decide)))).other W10 (Or.inr (slot_ne (Or.inl (hw _ (List.mem_of_getElem? (i := 97) rfl))) (Or.inl (hw _ (List.mem_of_getElem? (i := 69) rfl))) (by decide) (t := .int) (t' := .int) (by decide) (by decide))))⟩, ⟨_, ((Fw8.other W9 (Or.inr (slot_ne (Or.inl (hw _ (List.mem_of_getElem? (i := 99) rfl))) (Or.inl (hw _ (List.mem_of_getElem? (i := 101) rfl))) (by decide) (t := .long) (t' := .int) (by decide) (by decide)))).other W10 (Or.inr (slot_ne (Or.inl (hw _ (List.mem_of_getElem? (i := 99) rfl))) (Or.inl (hw _ (List.mem_of_getElem? (i := 69) rfl))) (by decide) (t := .long) (t' := .int) (by decide) (by decide))))⟩, ⟨_, (Fw9.other W10 (Or.inr (slot_ne (Or.inl (hw _ (List.mem_of_getElem? (i := 101) rfl))) (Or.inl (hw _ (List.mem_of_getElem? (i := 69) rfl))) (by decide) (t := .int) (t' := .int) (by decide) (by decide))))⟩, Fw10⟩, fun target kt => ?_⟩
  show Steps p.tables e below (T0.setTop (mkF m 154 #[.val (.ref o0), .val (.ref o1), .val (.int i2), .val (.int i3), s4, .val (.int i5), .val (.long j6), .second, .val (.int i8), .val (.int i9), s10, s11] [])) _
  refine XS.aloadN X0.here hx rfl (hb hby d13_154) rfl rfl ?_
  show Steps p.tables e below (T0.setTop (mkF m 155 #[.val (.ref o0), .val (.ref o1), .val (.int i2), .val (.int i3), s4, .val (.int i5), .val (.long j6), .second, .val (.int i8), .val (.int i9), s10, s11] [(.ref o0)])) _
  refine XS.aloadN X0.here hx rfl (hb hby d13_155) rfl rfl ?_
  show Steps p.tables e below (T0.setTop (mkF m 156 #[.val (.ref o0), .val (.ref o1), .val (.int i2), .val (.int i3), s4, .val (.int i5), .val (.long j6), .second, .val (.int i8), .val (.int i9), s10, s11] [(.ref o1), (.ref o0)])) _
  refine st5 _ ?_
  show Steps p.tables e below (T5.setTop (mkF m 159 #[.val (.ref o0), .val (.ref o1), .val (.int i2), .val (.int i3), s4, .val (.int i5), .val (.long j6), .second, .val (.int i8), .val (.int i9), s10, s11] [])) _
  refine XS.aloadN X5.here hx rfl (hb hby d13_159) rfl rfl ?_
  show Steps p.tables e below (T5.setTop (mkF m 160 #[.val (.ref o0), .val (.ref o1), .val (.int i2), .val (.int i3), s4, .val (.int i5), .val (.long j6), .second, .val (.int i8), .val (.int i9), s10, s11] [(.ref o0)])) _
  refine XS.iloadN X5.here hx rfl (hb hby d13_160) rfl ?_
  show Steps p.tables e below (T5.setTop (mkF m 161 #[.val (.ref o0), .val (.ref o1), .val (.int i2), .val (.int i3), s4, .val (.int i5), .val (.long j6), .second, .val (.int i8), .val (.int i9), s10, s11] [(.int i2), (.ref o0)])) _
  refine st6 _ ?_
  show Steps p.tables e below (T6.setTop (mkF m 164 #[.val (.ref o0), .val (.ref o1), .val (.int i2), .val (.int i3), s4, .val (.int i5), .val (.long j6), .second, .val (.int i8), .val (.int i9), s10, s11] [])) _
  refine XS.aloadN X6.here hx rfl (hb hby d13_164) rfl rfl ?_
  show Steps p.tables e below (T6.setTop (mkF m 165 #[.val (.ref o0), .val (.ref o1), .val (.int i2), .val (.int i3), s4, .val (.int i5), .val (.long j6), .second, .val (.int i8), .val (.int i9), s10, s11] [(.ref o0)])) _
  refine XS.iloadN X6.here hx rfl (hb hby d13_165) rfl ?_
  show Steps p.tables e below (T6.setTop (mkF m 166 #[.val (.ref o0), .val (.ref o1), .val (.int i2), .val (.int i3), s4, .val (.int i5), .val (.long j6), .second, .val (.int i8), .val (.int i9), s10, s11] [(.int i3), (.ref o0)])) _
  refine st7 _ ?_
  show Steps p.tables e below (T7.setTop (mkF m 169 #[.val (.ref o0), .val (.ref o1), .val (.int i2), .val (.int i3), s4, .val (.int i5), .val (.long j6), .second, .val (.int i8), .val (.int i9), s10, s11] [])) _
  refine XS.aloadN X7.here hx rfl (hb hby d13_169) rfl rfl ?_
  show Steps p.tables e below (T7.setTop (mkF m 170 #[.val (.ref o0), .val (.ref o1), .val (.int i2), .val (.int i3), s4, .val (.int i5), .val (.long j6), .second, .val (.int i8), .val (.int i9), s10, s11] [(.ref o0)])) _
  refine XS.iload X7.here hx rfl (hb hby d13_170) rfl ?_
  show Steps p.tables e below (T7.setTop (mkF m 172 #[.val (.ref o0), .val (.ref o1), .val (.int i2), .val (.int i3), s4, .val (.int i5), .val (.long j6), .second, .val (.int i8), .val (.int i9), s10, s11] [(.int i5), (.ref o0)])) _
  refine XS.ifYes X7.here hx rfl (pc0 := 172) (pc' := 181) rfl (hb hby d13_172) rfl ((if0 _ _).trans (teq hc172).1) (by decide) (by decide) ?_
  show Steps p.tables e below (T7.setTop (mkF m 181 #[.val (.ref o0), .val (.ref o1), .val (.int i2), .val (.int i3), s4, .val (.int i5), .val (.long j6), .second, .val (.int i8), .val (.int i9), s10, s11] [(.ref o0)])) _
  refine XS.lload X7.here hx rfl (hb hby d13_181) rfl ?_
  show Steps p.tables e below (T7.setTop (mkF m 183 #[.val (.ref o0), .val (.ref o1), .val (.int i2), .val (.int i3), s4, .val (.int i5), .val (.long j6), .second, .val (.int i8), .val (.int i9), s10, s11] [(.long j6), (.ref o0)])) _
  refine st8 _ ?_
  show Steps p.tables e below (T8.setTop (mkF m 186 #[.val (.ref o0), .val (.ref o1), .val (.int i2), .val (.int i3), s4, .val (.int i5), .val (.long j6), .second, .val (.int i8), .val (.int i9), s10, s11] [])) _
  refine XS.aloadN X8.here hx rfl (hb hby d13_186) rfl rfl ?_
  show Steps p.tables e below (T8.setTop (mkF m 187 #[.val (.ref o0), .val (.ref o1), .val (.int i2), .val (.int i3), s4, .val (.int i5), .val (.long j6), .second, .val (.int i8), .val (.int i9), s10, s11] [(.ref o0)])) _
  refine XS.iload X8.here hx rfl (hb hby d13_187) rfl ?_
  show Steps p.tables e below (T8.setTop (mkF m 189 #[.val (.ref o0), .val (.ref o1), .val (.int i2), .val (.int i3), s4, .val (.int i5), .val (.long j6), .second, .val (.int i8), .val (.int i9), s10, s11] [(.int i9), (.ref o0)])) _
  refine st9 _ ?_
  show Steps p.tables e below (T9.setTop (mkF m 192 #[.val (.ref o0), .val (.ref o1), .val (.int i2), .val (.int i3), s4, .val (.int i5), .val (.long j6), .second, .val (.int i8), .val (.int i9), s10, s11] [])) _
  refine XS.aloadN X9.here hx rfl (hb hby d13_192) rfl rfl ?_
  show Steps p.tables e below (T9.setTop (mkF m 193 #[.val (.ref o0), .val (.ref o1), .val (.int i2), .val (.int i3), s4, .val (.int i5), .val (.long j6), .second, .val (.int i8), .val (.int i9), s10, s11] [(.ref o0)])) _
  refine XS.iload X9.here hx rfl (hb hby d13_193) rfl ?_
  show Steps p.tables e below (T9.setTop (mkF m 195 #[.val (.ref o0), .val (.ref o1), .val (.int i2), .val (.int i3), s4, .val (.int i5), .val (.long j6), .second, .val (.int i8), .val (.int i9), s10, s11] [(.int i8), (.ref o0)])) _
  refine st10 _ ?_
  exact kt
theorem d13_175 : decode prog_8_method_2_code 175 = .ok (.lload 6, 2) := by decide +kernel
theorem d13_177 : decode prog_8_method_2_code 177 = .ok (.lneg, 1) := by decide +kernel
theorem d13_178 : decode prog_8_method_2_code 178 = .ok (.goto 5, 3) := by decide +kernel
set_option maxRecDepth 65536 in
set_option maxHeartbeats 40000000 in
theorem e2 {p : Program} {l : Launch} {e : Env} {s : State} {m : MethodId} {args : Array Value} {below : List Frame} {meth : Method} {c : Code} {T0 : State} {locs : List Loc} {cells slots : Nat} {Z : State} {a0 : Array Value} {h0 : Heap} (o0 : Addr) (o1 : Addr) (i2 : Int32) (i3 : Int32) (s4 : Slot) (i5 : Int32) (j6 : Int64) (i8 : Int32) (i9 : Int32) (s10 : Slot) (s11 : Slot) (u_text_o0 : Value) (u_from_o0 : Value) (u_to_o0 : Value) (u_unscaled_o0 : Value) (u_scale_o0 : Value) (u_digits_o0 : Value) (n0 : Nat)
    (X0 : Stand p l e own_R13 s m args below meth c T0 locs cells slots) (hx : p.tables.exec = Jvm.exec) (hZ : Z.Warmed39 s.vm) (hw : ∀ d ∈ tables_1, d.before a0 Z = true) (hby : c.code = prog_8_method_2_code) (hml : c.maxLocals = 12) (hown : s.vm.findClass "com/example/bandmark/bandmark/PlainDecimal" = some m.cls) (e0 : T0.heap = h0) (Z0 : n0 ≤ h0.size) (N0 : Fr n0 locs) (hcl : cells ≤ own_R13.cells) (hsl : slots ≤ own_R13.slots) (E_o0 : Exa Z h0 o0 "com/example/bandmark/bandmark/PlainDecimal") (F_text_o0 : Fld Z h0 o0 "com/example/bandmark/bandmark/PlainDecimal" "text" "Ljava/lang/String;" u_text_o0) (g_o0 : n0 ≤ o0) (F_from_o0 : Fld Z h0 o0 "com/example/bandmark/bandmark/PlainDecimal" "from" "I" u_from_o0) (F_to_o0 : Fld Z h0 o0 "com/example/bandmark/bandmark/PlainDecimal" "to" "I" u_to_o0) (F_unscaled_o0 : Fld Z h0 o0 "com/example/bandmark/bandmark/PlainDecimal" "unscaled" "J" u_unscaled_o0) (F_scale_o0 : Fld Z h0 o0 "com/example/bandmark/bandmark/PlainDecimal" "scale" "I" u_scale_o0) (F_digits_o0 : Fld Z h0 o0 "com/example/bandmark/bandmark/PlainDecimal" "digits" "I" u_digits_o0) (hc172 : ¬ (i5 = (0 : Int32))) :
    ∃ (T' : State) (locs' : List Loc), Stand p l e own_R13 s m args below meth c T' locs' cells slots ∧ Fr n0 locs' ∧ Keep h0 T'.heap [o0] ∧ own_PD Z T'.heap o0 i8 ∧
      ∀ target, Steps p.tables e below (T'.setTop (mkF m 198 #[.val (.ref o0), .val (.ref o1), .val (.int i2), .val (.int i3), s4, .val (.int i5), .val (.long j6), .second, .val (.int i8), .val (.int i9), s10, s11] [])) target → Steps p.tables e below (T0.setTop (mkF m 154 #[.val (.ref o0), .val (.ref o1), .val (.int i2), .val (.int i3), s4, .val (.int i5), .val (.long j6), .second, .val (.int i8), .val (.int i9), s10, s11] [])) target := by
  obtain ⟨T5, h5, X5, e5, W5, st5⟩ := putF X0 hx hZ hown (host := "") (Or.inl (hw _ (List.mem_of_getElem? (i := 92) rfl))) Via.refl e0 F_text_o0 E_o0 (Or.inl (hw _ (List.mem_of_getElem? (i := 93) rfl))) (hw _ (List.mem_of_getElem? (i := 52) rfl)) (ty := (.object "java/lang/String")) (by decide) rfl rfl (g := (mkF m 156 #[.val (.ref o0), .val (.ref o1), .val (.int i2), .val (.int i3), s4, .val (.int i5), .val (.long j6), .second, .val (.int i8), .val (.int i9), s10, s11] [(.ref o1), (.ref o0)])) rfl rfl (hb hby d13_156)
  have Fw5 := F_text_o0.same W5
  have K5 : Keep h0 h5 [o0] := (Keep.refl h0 [o0]).wr W5 (Or.inl (List.mem_of_getElem? (i := 0) rfl))
  have N5 := Fr.snoc X5 N0 g_o0
  obtain ⟨T6, h6, X6, e6, W6, st6⟩ := putF X5 hx hZ hown (host := "") (Or.inl (hw _ (List.mem_of_getElem? (i := 94) rfl))) Via.refl e5 (F_from_o0.other W5 (Or.inr (slot_ne (Or.inl (hw _ (List.mem_of_getElem? (i := 95) rfl))) (Or.inl (hw _ (List.mem_of_getElem? (i := 93) rfl))) (by decide) (t := .int) (t' := (.object "java/lang/String")) (by decide) (by decide)))) (E_o0.wr W5) (Or.inl (hw _ (List.mem_of_getElem? (i := 95) rfl))) (hw _ (List.mem_of_getElem? (i := 52) rfl)) (ty := .int) (by decide) rfl rfl (g := (mkF m 161 #[.val (.ref o0), .val (.ref o1), .val (.int i2), .val (.int i3), s4, .val (.int i5), .val (.long j6), .second, .val (.int i8), .val (.int i9), s10, s11] [(.int i2), (.ref o0)])) rfl rfl (hb hby d13_161)
  have Fw6 := (F_from_o0.other W5 (Or.inr (slot_ne (Or.inl (hw _ (List.mem_of_getElem? (i := 95) rfl))) (Or.inl (hw _ (List.mem_of_getElem? (i := 93) rfl))) (by decide) (t := .int) (t' := (.object "java/lang/String")) (by decide) (by decide)))).same W6
  have K6 : Keep h0 h6 [o0] := K5.wr W6 (Or.inl (List.mem_of_getElem? (i := 0) rfl))
  have N6 := Fr.snoc X6 N5 g_o0
  obtain ⟨T7, h7, X7, e7, W7, st7⟩ := putF X6 hx hZ hown (host := "") (Or.inl (hw _ (List.mem_of_getElem? (i := 96) rfl))) Via.refl e6 ((F_to_o0.other W5 (Or.inr (slot_ne (Or.inl (hw _ (List.mem_of_getElem? (i := 97) rfl))) (Or.inl (hw _ (List.mem_of_getElem? (i := 93) rfl))) (by decide) (t := .int) (t' := (.object "java/lang/String")) (by decide) (by decide)))).other W6 (Or.inr (slot_ne (Or.inl (hw _ (List.mem_of_getElem? (i := 97) rfl))) (Or.inl (hw _ (List.mem_of_getElem? (i := 95) rfl))) (by decide) (t := .int) (t' := .int) (by decide) (by decide)))) ((E_o0.wr W5).wr W6) (Or.inl (hw _ (List.mem_of_getElem? (i := 97) rfl))) (hw _ (List.mem_of_getElem? (i := 52) rfl)) (ty := .int) (by decide) rfl rfl (g := (mkF m 166 #[.val (.ref o0), .val (.ref o1), .val (.int i2), .val (.int i3), s4, .val (.int i5), .val (.long j6), .second, .val (.int i8), .val (.int i9), s10, s11] [(.int i3), (.ref o0)])) rfl rfl (hb hby d13_166)
  have Fw7 := ((F_to_o0.other W5 (Or.inr (slot_ne (Or.inl (hw _ (List.mem_of_getElem? (i := 97) rfl))) (Or.inl (hw _ (List.mem_of_getElem? (i := 93) rfl))) (by decide) (t := .int) (t' := (.object "java/lang/String")) (by decide) (by decide)))).other W6 (Or.inr (slot_ne (Or.inl (hw _ (List.mem_of_getElem? (i := 97) rfl))) (Or.inl (hw _ (List.mem_of_getElem? (i := 95) rfl))) (by decide) (t := .int) (t' := .int) (by decide) (by decide)))).same W7
  have K7 : Keep h0 h7 [o0] := K6.wr W7 (Or.inl (List.mem_of_getElem? (i := 0) rfl))
  have N7 := Fr.snoc X7 N6 g_o0
  obtain ⟨T8, h8, X8, e8, W8, st8⟩ := putF X7 hx hZ hown (host := "") (Or.inl (hw _ (List.mem_of_getElem? (i := 98) rfl))) Via.refl e7 (((F_unscaled_o0.other W5 (Or.inr (slot_ne (Or.inl (hw _ (List.mem_of_getElem? (i := 99) rfl))) (Or.inl (hw _ (List.mem_of_getElem? (i := 93) rfl))) (by decide) (t := .long) (t' := (.object "java/lang/String")) (by decide) (by decide)))).other W6 (Or.inr (slot_ne (Or.inl (hw _ (List.mem_of_getElem? (i := 99) rfl))) (Or.inl (hw _ (List.mem_of_getElem? (i := 95) rfl))) (by decide) (t := .long) (t' := .int) (by decide) (by decide)))).other W7 (Or.inr (slot_ne (Or.inl (hw _ (List.mem_of_getElem? (i := 99) rfl))) (Or.inl (hw _ (List.mem_of_getElem? (i := 97) rfl))) (by decide) (t := .long) (t' := .int) (by decide) (by decide)))) (((E_o0.wr W5).wr W6).wr W7) (Or.inl (hw _ (List.mem_of_getElem? (i := 99) rfl))) (hw _ (List.mem_of_getElem? (i := 52) rfl)) (ty := .long) (by decide) rfl rfl (g := (mkF m 183 #[.val (.ref o0), .val (.ref o1), .val (.int i2), .val (.int i3), s4, .val (.int i5), .val (.long j6), .second, .val (.int i8), .val (.int i9), s10, s11] [(.long (-j6)), (.ref o0)])) rfl rfl (hb hby d13_183)
  have Fw8 := (((F_unscaled_o0.other W5 (Or.inr (slot_ne (Or.inl (hw _ (List.mem_of_getElem? (i := 99) rfl))) (Or.inl (hw _ (List.mem_of_getElem? (i := 93) rfl))) (by decide) (t := .long) (t' := (.object "java/lang/String")) (by decide) (by decide)))).other W6 (Or.inr (slot_ne (Or.inl (hw _ (List.mem_of_getElem? (i := 99) rfl))) (Or.inl (hw _ (List.mem_of_getElem? (i := 95) rfl))) (by decide) (t := .long) (t' := .int) (by decide) (by decide)))).other W7 (Or.inr (slot_ne (Or.inl (hw _ (List.mem_of_getElem? (i := 99) rfl))) (Or.inl (hw _ (List.mem_of_getElem? (i := 97) rfl))) (by decide) (t := .long) (t' := .int) (by decide) (by decide)))).same W8
  have K8 : Keep h0 h8 [o0] := K7.wr W8 (Or.inl (List.mem_of_getElem? (i := 0) rfl))
  have N8 := Fr.snoc X8 N7 g_o0
  obtain ⟨T9, h9, X9, e9, W9, st9⟩ := putF X8 hx hZ hown (host := "") (Or.inl (hw _ (List.mem_of_getElem? (i := 100) rfl))) Via.refl e8 ((((F_scale_o0.other W5 (Or.inr (slot_ne (Or.inl (hw _ (List.mem_of_getElem? (i := 101) rfl))) (Or.inl (hw _ (List.mem_of_getElem? (i := 93) rfl))) (by decide) (t := .int) (t' := (.object "java/lang/String")) (by decide) (by decide)))).other W6 (Or.inr (slot_ne (Or.inl (hw _ (List.mem_of_getElem? (i := 101) rfl))) (Or.inl (hw _ (List.mem_of_getElem? (i := 95) rfl))) (by decide) (t := .int) (t' := .int) (by decide) (by decide)))).other W7 (Or.inr (slot_ne (Or.inl (hw _ (List.mem_of_getElem? (i := 101) rfl))) (Or.inl (hw _ (List.mem_of_getElem? (i := 97) rfl))) (by decide) (t := .int) (t' := .int) (by decide) (by decide)))).other W8 (Or.inr (slot_ne (Or.inl (hw _ (List.mem_of_getElem? (i := 101) rfl))) (Or.inl (hw _ (List.mem_of_getElem? (i := 99) rfl))) (by decide) (t := .int) (t' := .long) (by decide) (by decide)))) ((((E_o0.wr W5).wr W6).wr W7).wr W8) (Or.inl (hw _ (List.mem_of_getElem? (i := 101) rfl))) (hw _ (List.mem_of_getElem? (i := 52) rfl)) (ty := .int) (by decide) rfl rfl (g := (mkF m 189 #[.val (.ref o0), .val (.ref o1), .val (.int i2), .val (.int i3), s4, .val (.int i5), .val (.long j6), .second, .val (.int i8), .val (.int i9), s10, s11] [(.int i9), (.ref o0)])) rfl rfl (hb hby d13_189)
  have Fw9 := ((((F_scale_o0.other W5 (Or.inr (slot_ne (Or.inl (hw _ (List.mem_of_getElem? (i := 101) rfl))) (Or.inl (hw _ (List.mem_of_getElem? (i := 93) rfl))) (by decide) (t := .int) (t' := (.object "java/lang/String")) (by decide) (by decide)))).other W6 (Or.inr (slot_ne (Or.inl (hw _ (List.mem_of_getElem? (i := 101) rfl))) (Or.inl (hw _ (List.mem_of_getElem? (i := 95) rfl))) (by decide) (t := .int) (t' := .int) (by decide) (by decide)))).other W7 (Or.inr (slot_ne (Or.inl (hw _ (List.mem_of_getElem? (i := 101) rfl))) (Or.inl (hw _ (List.mem_of_getElem? (i := 97) rfl))) (by decide) (t := .int) (t' := .int) (by decide) (by decide)))).other W8 (Or.inr (slot_ne (Or.inl (hw _ (List.mem_of_getElem? (i := 101) rfl))) (Or.inl (hw _ (List.mem_of_getElem? (i := 99) rfl))) (by decide) (t := .int) (t' := .long) (by decide) (by decide)))).same W9
  have K9 : Keep h0 h9 [o0] := K8.wr W9 (Or.inl (List.mem_of_getElem? (i := 0) rfl))
  have N9 := Fr.snoc X9 N8 g_o0
  obtain ⟨T10, h10, X10, e10, W10, st10⟩ := putF X9 hx hZ hown (host := "") (Or.inl (hw _ (List.mem_of_getElem? (i := 68) rfl))) Via.refl e9 (((((F_digits_o0.other W5 (Or.inr (slot_ne (Or.inl (hw _ (List.mem_of_getElem? (i := 69) rfl))) (Or.inl (hw _ (List.mem_of_getElem? (i := 93) rfl))) (by decide) (t := .int) (t' := (.object "java/lang/String")) (by decide) (by decide)))).other W6 (Or.inr (slot_ne (Or.inl (hw _ (List.mem_of_getElem? (i := 69) rfl))) (Or.inl (hw _ (List.mem_of_getElem? (i := 95) rfl))) (by decide) (t := .int) (t' := .int) (by decide) (by decide)))).other W7 (Or.inr (slot_ne (Or.inl (hw _ (List.mem_of_getElem? (i := 69) rfl))) (Or.inl (hw _ (List.mem_of_getElem? (i := 97) rfl))) (by decide) (t := .int) (t' := .int) (by decide) (by decide)))).other W8 (Or.inr (slot_ne (Or.inl (hw _ (List.mem_of_getElem? (i := 69) rfl))) (Or.inl (hw _ (List.mem_of_getElem? (i := 99) rfl))) (by decide) (t := .int) (t' := .long) (by decide) (by decide)))).other W9 (Or.inr (slot_ne (Or.inl (hw _ (List.mem_of_getElem? (i := 69) rfl))) (Or.inl (hw _ (List.mem_of_getElem? (i := 101) rfl))) (by decide) (t := .int) (t' := .int) (by decide) (by decide)))) (((((E_o0.wr W5).wr W6).wr W7).wr W8).wr W9) (Or.inl (hw _ (List.mem_of_getElem? (i := 69) rfl))) (hw _ (List.mem_of_getElem? (i := 52) rfl)) (ty := .int) (by decide) rfl rfl (g := (mkF m 195 #[.val (.ref o0), .val (.ref o1), .val (.int i2), .val (.int i3), s4, .val (.int i5), .val (.long j6), .second, .val (.int i8), .val (.int i9), s10, s11] [(.int i8), (.ref o0)])) rfl rfl (hb hby d13_195)
  have Fw10 := (((((F_digits_o0.other W5 (Or.inr (slot_ne (Or.inl (hw _ (List.mem_of_getElem? (i := 69) rfl))) (Or.inl (hw _ (List.mem_of_getElem? (i := 93) rfl))) (by decide) (t := .int) (t' := (.object "java/lang/String")) (by decide) (by decide)))).other W6 (Or.inr (slot_ne (Or.inl (hw _ (List.mem_of_getElem? (i := 69) rfl))) (Or.inl (hw _ (List.mem_of_getElem? (i := 95) rfl))) (by decide) (t := .int) (t' := .int) (by decide) (by decide)))).other W7 (Or.inr (slot_ne (Or.inl (hw _ (List.mem_of_getElem? (i := 69) rfl))) (Or.inl (hw _ (List.mem_of_getElem? (i := 97) rfl))) (by decide) (t := .int) (t' := .int) (by decide) (by decide)))).other W8 (Or.inr (slot_ne (Or.inl (hw _ (List.mem_of_getElem? (i := 69) rfl))) (Or.inl (hw _ (List.mem_of_getElem? (i := 99) rfl))) (by decide) (t := .int) (t' := .long) (by decide) (by decide)))).other W9 (Or.inr (slot_ne (Or.inl (hw _ (List.mem_of_getElem? (i := 69) rfl))) (Or.inl (hw _ (List.mem_of_getElem? (i := 101) rfl))) (by decide) (t := .int) (t' := .int) (by decide) (by decide)))).same W10
  have K10 : Keep h0 h10 [o0] := K9.wr W10 (Or.inl (List.mem_of_getElem? (i := 0) rfl))
  have N10 := Fr.snoc X10 N9 g_o0
  refine ⟨T10, _, X10, N10, by rw [e10]; exact K10, by rw [e10]; exact ⟨((((((E_o0.wr W5).wr W6).wr W7).wr W8).wr W9).wr W10), ⟨_, (((((Fw5.other W6 (Or.inr (slot_ne (Or.inl (hw _ (List.mem_of_getElem? (i := 93) rfl))) (Or.inl (hw _ (List.mem_of_getElem? (i := 95) rfl))) (by decide) (t := (.object "java/lang/String")) (t' := .int) (by decide) (by decide)))).other W7 (Or.inr (slot_ne (Or.inl (hw _ (List.mem_of_getElem? (i := 93) rfl))) (Or.inl (hw _ (List.mem_of_getElem? (i := 97) rfl))) (by decide) (t := (.object "java/lang/String")) (t' := .int) (by decide) (by decide)))).other W8 (Or.inr (slot_ne (Or.inl (hw _ (List.mem_of_getElem? (i := 93) rfl))) (Or.inl (hw _ (List.mem_of_getElem? (i := 99) rfl))) (by decide) (t := (.object "java/lang/String")) (t' := .long) (by decide) (by decide)))).other W9 (Or.inr (slot_ne (Or.inl (hw _ (List.mem_of_getElem? (i := 93) rfl))) (Or.inl (hw _ (List.mem_of_getElem? (i := 101) rfl))) (by decide) (t := (.object "java/lang/String")) (t' := .int) (by decide) (by decide)))).other W10 (Or.inr (slot_ne (Or.inl (hw _ (List.mem_of_getElem? (i := 93) rfl))) (Or.inl (hw _ (List.mem_of_getElem? (i := 69) rfl))) (by decide) (t := (.object "java/lang/String")) (t' := .int) (by decide) (by decide))))⟩, ⟨_, ((((Fw6.other W7 (Or.inr (slot_ne (Or.inl (hw _ (List.mem_of_getElem? (i := 95) rfl))) (Or.inl (hw _ (List.mem_of_getElem? (i := 97) rfl))) (by decide) (t := .int) (t' := .int) (by decide) (by decide)))).other W8 (Or.inr (slot_ne (Or.inl (hw _ (List.mem_of_getElem? (i := 95) rfl))) (Or.inl (hw _ (List.mem_of_getElem? (i := 99) rfl))) (by decide) (t := .int) (t' := .long) (by decide) (by decide)))).other W9 (Or.inr (slot_ne (Or.inl (hw _ (List.mem_of_getElem? (i := 95) rfl))) (Or.inl (hw _ (List.mem_of_getElem? (i := 101) rfl))) (by decide) (t := .int) (t' := .int) (by decide) (by decide)))).other W10 (Or.inr (slot_ne (Or.inl (hw _ (List.mem_of_getElem? (i := 95) rfl))) (Or.inl (hw _ (List.mem_of_getElem? (i := 69) rfl))) (by decide) (t := .int) (t' := .int) (by decide) (by decide))))⟩, ⟨_, (((Fw7.other W8 (Or.inr (slot_ne (Or.inl (hw _ (List.mem_of_getElem? (i := 97) rfl))) (Or.inl (hw _ (List.mem_of_getElem? (i := 99) rfl))) (by decide) (t := .int) (t' := .long) (by decide) (by decide)))).other W9 (Or.inr (slot_ne (Or.inl (hw _ (List.mem_of_getElem? (i := 97) rfl))) (Or.inl (hw _ (List.mem_of_getElem? (i := 101) rfl))) (by decide) (t := .int) (t' := .int) (by decide) (by decide)))).other W10 (Or.inr (slot_ne (Or.inl (hw _ (List.mem_of_getElem? (i := 97) rfl))) (Or.inl (hw _ (List.mem_of_getElem? (i := 69) rfl))) (by decide) (t := .int) (t' := .int) (by decide) (by decide))))⟩, ⟨_, ((Fw8.other W9 (Or.inr (slot_ne (Or.inl (hw _ (List.mem_of_getElem? (i := 99) rfl))) (Or.inl (hw _ (List.mem_of_getElem? (i := 101) rfl))) (by decide) (t := .long) (t' := .int) (by decide) (by decide)))).other W10 (Or.inr (slot_ne (Or.inl (hw _ (List.mem_of_getElem? (i := 99) rfl))) (Or.inl (hw _ (List.mem_of_getElem? (i := 69) rfl))) (by decide) (t := .long) (t' := .int) (by decide) (by decide))))⟩, ⟨_, (Fw9.other W10 (Or.inr (slot_ne (Or.inl (hw _ (List.mem_of_getElem? (i := 101) rfl))) (Or.inl (hw _ (List.mem_of_getElem? (i := 69) rfl))) (by decide) (t := .int) (t' := .int) (by decide) (by decide))))⟩, Fw10⟩, fun target kt => ?_⟩
  show Steps p.tables e below (T0.setTop (mkF m 154 #[.val (.ref o0), .val (.ref o1), .val (.int i2), .val (.int i3), s4, .val (.int i5), .val (.long j6), .second, .val (.int i8), .val (.int i9), s10, s11] [])) _
  refine XS.aloadN X0.here hx rfl (hb hby d13_154) rfl rfl ?_
  show Steps p.tables e below (T0.setTop (mkF m 155 #[.val (.ref o0), .val (.ref o1), .val (.int i2), .val (.int i3), s4, .val (.int i5), .val (.long j6), .second, .val (.int i8), .val (.int i9), s10, s11] [(.ref o0)])) _
  refine XS.aloadN X0.here hx rfl (hb hby d13_155) rfl rfl ?_
  show Steps p.tables e below (T0.setTop (mkF m 156 #[.val (.ref o0), .val (.ref o1), .val (.int i2), .val (.int i3), s4, .val (.int i5), .val (.long j6), .second, .val (.int i8), .val (.int i9), s10, s11] [(.ref o1), (.ref o0)])) _
  refine st5 _ ?_
  show Steps p.tables e below (T5.setTop (mkF m 159 #[.val (.ref o0), .val (.ref o1), .val (.int i2), .val (.int i3), s4, .val (.int i5), .val (.long j6), .second, .val (.int i8), .val (.int i9), s10, s11] [])) _
  refine XS.aloadN X5.here hx rfl (hb hby d13_159) rfl rfl ?_
  show Steps p.tables e below (T5.setTop (mkF m 160 #[.val (.ref o0), .val (.ref o1), .val (.int i2), .val (.int i3), s4, .val (.int i5), .val (.long j6), .second, .val (.int i8), .val (.int i9), s10, s11] [(.ref o0)])) _
  refine XS.iloadN X5.here hx rfl (hb hby d13_160) rfl ?_
  show Steps p.tables e below (T5.setTop (mkF m 161 #[.val (.ref o0), .val (.ref o1), .val (.int i2), .val (.int i3), s4, .val (.int i5), .val (.long j6), .second, .val (.int i8), .val (.int i9), s10, s11] [(.int i2), (.ref o0)])) _
  refine st6 _ ?_
  show Steps p.tables e below (T6.setTop (mkF m 164 #[.val (.ref o0), .val (.ref o1), .val (.int i2), .val (.int i3), s4, .val (.int i5), .val (.long j6), .second, .val (.int i8), .val (.int i9), s10, s11] [])) _
  refine XS.aloadN X6.here hx rfl (hb hby d13_164) rfl rfl ?_
  show Steps p.tables e below (T6.setTop (mkF m 165 #[.val (.ref o0), .val (.ref o1), .val (.int i2), .val (.int i3), s4, .val (.int i5), .val (.long j6), .second, .val (.int i8), .val (.int i9), s10, s11] [(.ref o0)])) _
  refine XS.iloadN X6.here hx rfl (hb hby d13_165) rfl ?_
  show Steps p.tables e below (T6.setTop (mkF m 166 #[.val (.ref o0), .val (.ref o1), .val (.int i2), .val (.int i3), s4, .val (.int i5), .val (.long j6), .second, .val (.int i8), .val (.int i9), s10, s11] [(.int i3), (.ref o0)])) _
  refine st7 _ ?_
  show Steps p.tables e below (T7.setTop (mkF m 169 #[.val (.ref o0), .val (.ref o1), .val (.int i2), .val (.int i3), s4, .val (.int i5), .val (.long j6), .second, .val (.int i8), .val (.int i9), s10, s11] [])) _
  refine XS.aloadN X7.here hx rfl (hb hby d13_169) rfl rfl ?_
  show Steps p.tables e below (T7.setTop (mkF m 170 #[.val (.ref o0), .val (.ref o1), .val (.int i2), .val (.int i3), s4, .val (.int i5), .val (.long j6), .second, .val (.int i8), .val (.int i9), s10, s11] [(.ref o0)])) _
  refine XS.iload X7.here hx rfl (hb hby d13_170) rfl ?_
  show Steps p.tables e below (T7.setTop (mkF m 172 #[.val (.ref o0), .val (.ref o1), .val (.int i2), .val (.int i3), s4, .val (.int i5), .val (.long j6), .second, .val (.int i8), .val (.int i9), s10, s11] [(.int i5), (.ref o0)])) _
  refine XS.ifNo X7.here hx rfl (hb hby d13_172) rfl ((if0 _ _).trans (feq hc172).1) ?_
  show Steps p.tables e below (T7.setTop (mkF m 175 #[.val (.ref o0), .val (.ref o1), .val (.int i2), .val (.int i3), s4, .val (.int i5), .val (.long j6), .second, .val (.int i8), .val (.int i9), s10, s11] [(.ref o0)])) _
  refine XS.lload X7.here hx rfl (hb hby d13_175) rfl ?_
  show Steps p.tables e below (T7.setTop (mkF m 177 #[.val (.ref o0), .val (.ref o1), .val (.int i2), .val (.int i3), s4, .val (.int i5), .val (.long j6), .second, .val (.int i8), .val (.int i9), s10, s11] [(.long j6), (.ref o0)])) _
  refine XS.lneg X7.here hx rfl (hb hby d13_177) rfl ?_
  show Steps p.tables e below (T7.setTop (mkF m 178 #[.val (.ref o0), .val (.ref o1), .val (.int i2), .val (.int i3), s4, .val (.int i5), .val (.long j6), .second, .val (.int i8), .val (.int i9), s10, s11] [(.long (-j6)), (.ref o0)])) _
  refine XS.goto X7.here hx rfl (pc0 := 178) (pc' := 183) rfl (hb hby d13_178) (by decide) (by decide) ?_
  show Steps p.tables e below (T7.setTop (mkF m 183 #[.val (.ref o0), .val (.ref o1), .val (.int i2), .val (.int i3), s4, .val (.int i5), .val (.long j6), .second, .val (.int i8), .val (.int i9), s10, s11] [(.long (-j6)), (.ref o0)])) _
  refine st8 _ ?_
  show Steps p.tables e below (T8.setTop (mkF m 186 #[.val (.ref o0), .val (.ref o1), .val (.int i2), .val (.int i3), s4, .val (.int i5), .val (.long j6), .second, .val (.int i8), .val (.int i9), s10, s11] [])) _
  refine XS.aloadN X8.here hx rfl (hb hby d13_186) rfl rfl ?_
  show Steps p.tables e below (T8.setTop (mkF m 187 #[.val (.ref o0), .val (.ref o1), .val (.int i2), .val (.int i3), s4, .val (.int i5), .val (.long j6), .second, .val (.int i8), .val (.int i9), s10, s11] [(.ref o0)])) _
  refine XS.iload X8.here hx rfl (hb hby d13_187) rfl ?_
  show Steps p.tables e below (T8.setTop (mkF m 189 #[.val (.ref o0), .val (.ref o1), .val (.int i2), .val (.int i3), s4, .val (.int i5), .val (.long j6), .second, .val (.int i8), .val (.int i9), s10, s11] [(.int i9), (.ref o0)])) _
  refine st9 _ ?_
  show Steps p.tables e below (T9.setTop (mkF m 192 #[.val (.ref o0), .val (.ref o1), .val (.int i2), .val (.int i3), s4, .val (.int i5), .val (.long j6), .second, .val (.int i8), .val (.int i9), s10, s11] [])) _
  refine XS.aloadN X9.here hx rfl (hb hby d13_192) rfl rfl ?_
  show Steps p.tables e below (T9.setTop (mkF m 193 #[.val (.ref o0), .val (.ref o1), .val (.int i2), .val (.int i3), s4, .val (.int i5), .val (.long j6), .second, .val (.int i8), .val (.int i9), s10, s11] [(.ref o0)])) _
  refine XS.iload X9.here hx rfl (hb hby d13_193) rfl ?_
  show Steps p.tables e below (T9.setTop (mkF m 195 #[.val (.ref o0), .val (.ref o1), .val (.int i2), .val (.int i3), s4, .val (.int i5), .val (.long j6), .second, .val (.int i8), .val (.int i9), s10, s11] [(.int i8), (.ref o0)])) _
  refine st10 _ ?_
  exact kt
theorem d13_147 : decode prog_8_method_2_code 147 = .ok (.iload 8, 2) := by decide +kernel
theorem d13_149 : decode prog_8_method_2_code 149 = .ok (.ifCond .ne 5, 3) := by decide +kernel
theorem d13_152 : decode prog_8_method_2_code 152 = .ok (.iconst 0, 1) := by decide +kernel
theorem d13_153 : decode prog_8_method_2_code 153 = .ok (.ireturn, 1) := by decide +kernel
theorem pn_13 : plainName "com/example/bandmark/bandmark/PlainDecimal" = true := by first | (simp [plainName, overriddenIn]; done) | decide +kernel
theorem ef_13 (m : MethodId) (x0 : Addr) (x1 : Addr) (x2 : Int32) (x3 : Int32) : entryFrame m #[(.ref x0), (.ref x1), (.int x2), (.int x3)] 12 = mkF m 0 #[.val (.ref x0), .val (.ref x1), .val (.int x2), .val (.int x3), .unset, .unset, .unset, .unset, .unset, .unset, .unset, .unset] [] := by first | (simp [entryFrame, mkF, argsToLocals, Value.category]; done) | rfl
theorem d13_139 : decode prog_8_method_2_code 139 = .ok (.iconst 0, 1) := by decide +kernel
theorem d13_140 : decode prog_8_method_2_code 140 = .ok (.ireturn, 1) := by decide +kernel
theorem d13_198 : decode prog_8_method_2_code 198 = .ok (.iconst 1, 1) := by decide +kernel
theorem d13_199 : decode prog_8_method_2_code 199 = .ok (.ireturn, 1) := by decide +kernel
def own_r (R : Nat) : Int32 := if R = 0 then 0 else 1
def own_nd (R : Nat) (d : Int32) : Int32 := if R = 0 then d else Int32.ofNat R
def Q13 (Z : State) (a1 : Addr) (R : Nat) (d : Int32) (h0 : Heap) (n0 : Nat) (v : Option Value) (h : Heap) (L : List Loc) : Prop := v = some (.int (own_r R)) ∧ Fr n0 L ∧ Keep h0 h [a1] ∧ own_PD Z h a1 (own_nd R d)
set_option maxRecDepth 65536 in
set_option maxHeartbeats 40000000 in
theorem r13 (l : Launch) (Z : State) (a0 : Array Value) (hw : ∀ d ∈ tables_1, d.before a0 Z = true) (ws : List Jvm.Cond) (a1 : Addr) (a2 : Addr) (p3 : Int32) (p4 : Int32) (cs : List Int32) (a b : Nat) (d : Int32) (h0 : Heap) (n0 : Nat) (Z0 : n0 ≤ h0.size) (h3 : p3 = Int32.ofNat a) (h4 : p4 = Int32.ofNat b) (hab : a ≤ b) (hbc : b ≤ cs.length) (TX : own_Tx Z h0 a2 cs) (HP : own_PD Z h0 a1 d) (g_a1 : n0 ≤ a1) :
    MetFree l (⟨"com/example/bandmark/bandmark/PlainDecimal", "read", "(Ljava/lang/String;II)Z"⟩ : MethodName) (head1 (Jvm.Cond.code (⟨"com/example/bandmark/bandmark/PlainDecimal", "read", "(Ljava/lang/String;II)Z"⟩ : MethodName) prog_8_method_2_code 12 (some .boolean) :: ws) own_R13) (fun a U => a = #[(.ref a1), (.ref a2), (.int p3), (.int p4)] ∧ Z.Warmed39 U.vm ∧ U.heap = h0) (fun _ _ _ _ _ => True) (fun _ U o U' => ∃ v L, o = .returned v ∧ Q13 Z a1 (own_read (fun j => cs.getD j 0) a b) d h0 n0 v U'.heap L ∧ FrameEnd U o U' L own_R13.cells own_R13.slots) := by
  refine MetFree.of_bodySF (plainFor_of_name pn_13) hisR ?_
  intro p e s m args below meth c s₁ Bd hml0 hP hK
  obtain ⟨rfl, hZ, hh⟩ := hP
  subst h3 h4
  have h22 : cs.length ≤ 22 := by obtain ⟨t, kb, z, fm, -, -, -, -, -, -, -, -, -, l2⟩ := TX; exact l2
  obtain ⟨E_a1, ⟨u1, F1⟩, ⟨u2, F2⟩, ⟨u3, F3⟩, ⟨u4, F4⟩, ⟨u5, F5⟩, F6⟩ := id HP
  have hx := Bd.exec
  have hby := Bd.bytes
  have hml : c.maxLocals = 12 := hml0
  have hown : s.vm.findClass "com/example/bandmark/bandmark/PlainDecimal" = some m.cls := findClass_of_methodNamed Bd.named
  have hnm := (name_of_methodNamed Bd.named Bd.method).1
  have X0 : Stand p l e own_R13 s m #[(.ref a1), (.ref a2), (.int (Int32.ofNat a)), (.int (Int32.ofNat b))] below meth c s₁ [] 0 0 := Stand.of_body Bd
  have e0 : s₁.heap = h0 := by rw [← hh, Bd.state]; rfl
  have N0 := Fr.nil n0
  have pre0 : ∀ t, Steps p.tables e below (s₁.setTop (mkF m 0 #[.val (.ref a1), .val (.ref a2), .val (.int (Int32.ofNat a)), .val (.int (Int32.ofNat b)), .unset, .unset, .unset, .unset, .unset, .unset, .unset, .unset] [])) t → Steps p.tables e below (s₁.setTop (entryFrame m #[(.ref a1), (.ref a2), (.int (Int32.ofNat a)), (.int (Int32.ofNat b))] 12)) t := fun t k => castTop (ef_13 m a1 a2 (Int32.ofNat a) (Int32.ofNat b)) k
  obtain ⟨TB, LB, i5, XB, NB, eB, stB⟩ := own_begin (.val (.ref a1)) a2 cs a b n0 hab hbc h22 hx hZ hw hby hml hown TX Z0 (Nat.le_refl _) (Nat.le_refl _) X0 e0 N0
  have hst : own_start (fun j => cs.getD j 0) a b ≤ b := by unfold own_start; split <;> omega
  obtain ⟨TL, LL, XL, NL, eL, hL⟩ := own_loop (.val (.ref a1)) a2 (.val (.int (Int32.ofNat a))) (.val (.int i5)) cs b n0 hbc h22 hx hZ hw hby hml hown TX Z0 (Nat.le_refl _) (Nat.le_refl _) (b - own_start (fun j => cs.getD j 0) a b) (own_start (fun j => cs.getD j 0) a b) 0 false 0 0 .unset TB LB (by omega) (Nat.zero_le _) One.u XB eB NB
  rcases hL with ⟨hn, La, stL⟩ | ⟨r, sa, ja, ia, sb, sc, hn, hr, stL⟩
  · have R0 : own_read (fun j => cs.getD j 0) a b = 0 := by unfold own_read; rw [hn]; rfl
    rw [R0]
    obtain ⟨fs, hr, hrun, hended, hW, hsame⟩ := XL.leave (v := some (.int (0 : Int32))) (fun h => by rw [Bd.returns] at h; cases h)
    refine ⟨_, _, pre0 _ ?_, hrun, hended, _, _, rfl, ?_, ⟨_, rfl⟩, hW, hsame.mono (by decide) (by decide)⟩
    · refine stB _ (stL _ ?_)
      refine XS.iconst XL.here hx rfl (hb hby d13_139) ?_
      exact retN XL hx (t := .boolean) Bd.returns (by simp) (hb hby d13_140) hr
    · show Q13 Z a1 0 d h0 n0 _ TL.heap _
      rw [eL]
      exact ⟨rfl, NL, Keep.refl _ _, HP⟩
  · have R1 : own_read (fun j => cs.getD j 0) a b = r := by unfold own_read; rw [hn]; rfl
    rw [R1]
    by_cases h0r : r = 0
    · have z0 : Int32.ofNat r = (0 : Int32) := by rw [h0r]; rfl
      obtain ⟨fs, hr, hrun, hended, hW, hsame⟩ := XL.leave (v := some (.int (0 : Int32))) (fun h => by rw [Bd.returns] at h; cases h)
      refine ⟨_, _, pre0 _ ?_, hrun, hended, _, _, rfl, ?_, ⟨_, rfl⟩, hW, hsame.mono (by decide) (by decide)⟩
      · refine stB _ (stL _ ?_)
        refine XS.iload XL.here hx rfl (hb hby d13_147) rfl ?_
        show Steps p.tables e below (TL.setTop (mkF m 149 #[.val (.ref a1), .val (.ref a2), .val (.int (Int32.ofNat a)), .val (.int (Int32.ofNat b)), sa, .val (.int i5), .val (.long ja), .second, .val (.int (Int32.ofNat r)), .val (.int ia), sb, sc] [(.int (Int32.ofNat r))])) _
        refine XS.ifNo XL.here hx rfl (hb hby d13_149) rfl ((if0 _ _).trans (teq z0).2) ?_
        show Steps p.tables e below (TL.setTop (mkF m 152 #[.val (.ref a1), .val (.ref a2), .val (.int (Int32.ofNat a)), .val (.int (Int32.ofNat b)), sa, .val (.int i5), .val (.long ja), .second, .val (.int (Int32.ofNat r)), .val (.int ia), sb, sc] [])) _
        refine XS.iconst XL.here hx rfl (hb hby d13_152) ?_
        exact retN XL hx (t := .boolean) Bd.returns (by simp) (hb hby d13_153) hr
      · show Q13 Z a1 r d h0 n0 _ TL.heap _
        rw [eL, h0r]
        exact ⟨rfl, NL, Keep.refl _ _, HP⟩
    · have z0 : ¬ Int32.ofNat r = (0 : Int32) := fun q => h0r ((own_zero r (by omega)).mp q)
      have hE : ∃ (T' : State) (locs' : List Loc), Stand p l e own_R13 s m #[(.ref a1), (.ref a2), (.int (Int32.ofNat a)), (.int (Int32.ofNat b))] below meth c T' locs' 0 0 ∧ Fr n0 locs' ∧ Keep h0 T'.heap [a1] ∧ own_PD Z T'.heap a1 (Int32.ofNat r) ∧ ∀ target, Steps p.tables e below (T'.setTop (mkF m 198 #[.val (.ref a1), .val (.ref a2), .val (.int (Int32.ofNat a)), .val (.int (Int32.ofNat b)), sa, .val (.int i5), .val (.long ja), .second, .val (.int (Int32.ofNat r)), .val (.int ia), sb, sc] [])) target → Steps p.tables e below (TL.setTop (mkF m 154 #[.val (.ref a1), .val (.ref a2), .val (.int (Int32.ofNat a)), .val (.int (Int32.ofNat b)), sa, .val (.int i5), .val (.long ja), .second, .val (.int (Int32.ofNat r)), .val (.int ia), sb, sc] [])) target := by
        by_cases h5 : i5 = 0
        · exact e1 a1 a2 (Int32.ofNat a) (Int32.ofNat b) sa i5 ja (Int32.ofNat r) ia sb sc u1 u2 u3 u4 u5 _ n0 XL hx hZ hw hby hml hown eL Z0 NL (Nat.le_refl _) (Nat.le_refl _) E_a1 F1 g_a1 F2 F3 F4 F5 F6 h5
        · exact e2 a1 a2 (Int32.ofNat a) (Int32.ofNat b) sa i5 ja (Int32.ofNat r) ia sb sc u1 u2 u3 u4 u5 _ n0 XL hx hZ hw hby hml hown eL Z0 NL (Nat.le_refl _) (Nat.le_refl _) E_a1 F1 g_a1 F2 F3 F4 F5 F6 h5
      obtain ⟨TE, LE, XE, NE, KE, PE, stE⟩ := hE
      obtain ⟨fs, hr, hrun, hended, hW, hsame⟩ := XE.leave (v := some (.int (1 : Int32))) (fun h => by rw [Bd.returns] at h; cases h)
      refine ⟨_, _, pre0 _ ?_, hrun, hended, _, _, rfl, ?_, ⟨_, rfl⟩, hW, hsame.mono (by decide) (by decide)⟩
      · refine stB _ (stL _ ?_)
        refine XS.iload XL.here hx rfl (hb hby d13_147) rfl ?_
        show Steps p.tables e below (TL.setTop (mkF m 149 #[.val (.ref a1), .val (.ref a2), .val (.int (Int32.ofNat a)), .val (.int (Int32.ofNat b)), sa, .val (.int i5), .val (.long ja), .second, .val (.int (Int32.ofNat r)), .val (.int ia), sb, sc] [(.int (Int32.ofNat r))])) _
        refine XS.ifYes XL.here hx rfl (pc0 := 149) (pc' := 154) rfl (hb hby d13_149) rfl ((if0 _ _).trans (feq z0).2) (by decide) (by decide) ?_
        refine stE _ ?_
        refine XS.iconst XE.here hx rfl (hb hby d13_198) ?_
        exact retN XE hx (t := .boolean) Bd.returns (by simp) (hb hby d13_199) hr
      · show Q13 Z a1 r d h0 n0 _ TE.heap _
        refine ⟨?_, NE, KE, ?_⟩
        · rw [show own_r r = 1 from if_neg h0r]
        · rw [show own_nd r d = Int32.ofNat r from if_neg h0r]; exact PE
def own_c (d : Int32) : Int32 := if 18 < d then 0 else 1
theorem r14 (l : Launch) (Z : State) (a0 : Array Value) (hw : ∀ d ∈ tables_1, d.before a0 Z = true) (ws : List Jvm.Cond) (a1 : Addr) (w2 : Int32) (h0 : Heap) (n0 : Nat) (Z0 : n0 ≤ h0.size) (F_digits_a1 : Fld Z h0 a1 "com/example/bandmark/bandmark/PlainDecimal" "digits" "I" (.int w2)) :
    MetFree l (⟨"com/example/bandmark/bandmark/PlainDecimal", "isCompact", "()Z"⟩ : MethodName) (head1 (Jvm.Cond.code (⟨"com/example/bandmark/bandmark/PlainDecimal", "isCompact", "()Z"⟩ : MethodName) prog_8_method_3_code 1 (some .boolean) :: ws) ({ frames := 0, cells := 0, slots := 0, locals := 0 } : Room)) (fun a U => a = #[(.ref a1)] ∧ Z.Warmed39 U.vm ∧ U.heap = h0) (fun _ _ _ _ _ => True) (fun _ U o U' => ∃ v L, o = .returned v ∧ QR (some (.int (own_c w2))) h0 n0 v U'.heap L ∧ FrameEnd U o U' L ({ frames := 0, cells := 0, slots := 0, locals := 0 } : Room).cells ({ frames := 0, cells := 0, slots := 0, locals := 0 } : Room).slots) := by
  by_cases h : (18 : Int32) < w2
  · rw [show own_c w2 = 0 from if_pos h]
    exact r14t l Z a0 hw ws a1 w2 h0 n0 Z0 F_digits_a1 h
  · rw [show own_c w2 = 1 from if_neg h]
    exact r14f l Z a0 hw ws a1 w2 h0 n0 Z0 F_digits_a1 h
def own_St (Z : State) (h : Heap) (o : Addr) (cs : List Int32) : Prop := ∃ (t : Addr) (kb : ClassId), Exa Z h o "java/lang/String" ∧ Fld Z h o "java/lang/String" "value" "[B" (.ref t) ∧ Fld Z h o "java/lang/String" "coder" "B" (.int 0) ∧ Arv Z h t kb .byte (Int32.ofNat cs.length) ((cs.map StrChars.lo8).map Value.int) (.int 0) ∧ (∀ c ∈ cs, ¬ c < 0 ∧ ¬ (255 : Int32) < c) ∧ cs.length ≤ 22
theorem own_St.tx {Z : State} {h : Heap} {o : Addr} {cs : List Int32} {z : Int32} {fm : Value} (T : own_St Z h o cs) (S : Sta Z h "java/lang/String" "COMPACT_STRINGS" "Z" (.int z)) (hz : ¬ z = 0) (F : Sta Z h "jdk/internal/util/Preconditions" "SIOOBE_FORMATTER" "Ljava/util/function/BiFunction;" fm) (rf : fm.isRef = true) : own_Tx Z h o cs := by
  obtain ⟨t, kb, E, V, C, K, hb, l2⟩ := T
  exact ⟨t, kb, z, fm, E, V, C, K, hb, S, hz, F, rf, l2⟩
theorem own_St.keep0 {Z : State} {h h' : Heap} {o : Addr} {cs : List Int32} (T : own_St Z h o cs) (K : Keep h h' []) : own_St Z h' o cs := by
  obtain ⟨t, kb, E, V, C, A, hb, l2⟩ := T
  exact ⟨t, kb, E.keep K, V.keep K nin0, C.keep K nin0, A.keep K nin0, hb, l2⟩
theorem own_St.keep1 {Z : State} {h h' : Heap} {o x : Addr} {cs : List Int32} {a0 : Array Value} (hw : ∀ d ∈ tables_1, d.before a0 Z = true) (T : own_St Z h o cs) (K : Keep h h' [x]) (X : Exa Z h x "com/example/bandmark/bandmark/PlainDecimal") : own_St Z h' o cs := by
  obtain ⟨t, kb, E, V, C, A, hb, l2⟩ := T
  have h1 : o ≠ x := Exa.ne E X (by decide)
  have h2 : t ≠ x := fun q => Exa.neArv X A (hw _ (List.mem_of_getElem? (i := 52) rfl)) q.symm
  exact ⟨t, kb, E.keep K, V.keep K (ninS h1 nin0), C.keep K (ninS h1 nin0), A.keep K (ninS h2 nin0), hb, l2⟩
def own_cs (g : Int32 → Int32) : List Int32 := [nar .char (g (0 : Int32)), nar .char (g (1 : Int32)), nar .char (g (2 : Int32)), nar .char (g (3 : Int32)), nar .char (g (4 : Int32)), nar .char (g (5 : Int32)), nar .char (g (6 : Int32)), nar .char (g (7 : Int32)), nar .char (g (8 : Int32)), nar .char (g (9 : Int32)), nar .char (g (10 : Int32)), nar .char (g (11 : Int32)), nar .char (g (12 : Int32)), nar .char (g (13 : Int32)), nar .char (g (14 : Int32)), nar .char (g (15 : Int32)), nar .char (g (16 : Int32)), nar .char (g (17 : Int32)), nar .char (g (18 : Int32)), nar .char (g (19 : Int32)), nar .char (g (20 : Int32)), nar .char (g (21 : Int32))]
theorem r1g (l : Launch) (Z : State) (a0 : Array Value) (hw : ∀ d ∈ tables_1, d.before a0 Z = true) (ws : List Jvm.Cond) (q1 : Int64) (p2 vv : Int32) (h0 : Heap) (n0 : Nat) (Z0 : n0 ≤ h0.size) (hv : own_dg q1 p2 = vv) :
    MetFree l (⟨"com/example/bandmark/bandmark/PlainDecimalIsCompactPinLaw", "dg", "(JI)C"⟩ : MethodName) (head1 (Jvm.Cond.code (⟨"com/example/bandmark/bandmark/PlainDecimalIsCompactPinLaw", "dg", "(JI)C"⟩ : MethodName) method_2_code 3 (some .char) :: ws) ({ frames := 0, cells := 0, slots := 0, locals := 0 } : Room)) (fun a U => a = #[(.long q1), (.int p2)] ∧ Z.Warmed39 U.vm ∧ U.heap = h0) (fun _ _ _ _ _ => True) (fun _ U o U' => ∃ v L, o = .returned v ∧ QR (some (.int vv)) h0 n0 v U'.heap L ∧ FrameEnd U o U' L ({ frames := 0, cells := 0, slots := 0, locals := 0 } : Room).cells ({ frames := 0, cells := 0, slots := 0, locals := 0 } : Room).slots) := by
  subst hv
  exact r1 l Z a0 hw ws q1 p2 h0 n0 Z0 (by decide)
theorem pd_0_0 : parseMethodDescriptor "(JI)C" = some ⟨[.long, .int], some .char⟩ := by decide +kernel
set_option maxRecDepth 65536 in
set_option maxHeartbeats 40000000 in
theorem own_A0 {p : Program} {l : Launch} {e : Env} {s : State} {m : MethodId} {args : Array Value} {below : List Frame} {meth : Method} {c : Code} {T0 : State} {locs : List Loc} {cells slots : Nat} {Z : State} {a0 : Array Value} {h0 : Heap} (s0 : Slot) (s1 : Slot) (j2 : Int64) (s4 : Slot) (s5 : Slot) (s6 : Slot) (o7 : Addr) (s8 : Slot) (s9 : Slot) (s10 : Slot) (s11 : Slot) (s12 : Slot) (s13 : Slot) (s14 : Slot) (s15 : Slot) (s16 : Slot) (s17 : Slot) (s18 : Slot) (s19 : Slot) (s20 : Slot) (s21 : Slot) (s22 : Slot) (s23 : Slot) (g : Int32 → Int32) (kA : ClassId) (vs : List Value) (n0 : Nat)
    (X0 : Stand p l e room_1 s m args below meth c T0 locs cells slots) (hx : p.tables.exec = Jvm.exec) (hZ : Z.Warmed39 s.vm) (hw : ∀ d ∈ tables_1, d.before a0 Z = true) (hby : c.code = code) (hml : c.maxLocals = 24) (hown : s.vm.findClass "com/example/bandmark/bandmark/PlainDecimalIsCompactPinLaw" = some m.cls) (e0 : T0.heap = h0) (hg : ∀ k, own_dg j2 k = g k) (V : Arv Z h0 o7 kA .char (22 : Int32) vs (.int (0 : Int32))) (hvs : 0 < vs.length) (Z0 : n0 ≤ h0.size) (N0 : Fr n0 locs) (hcl : cells ≤ room_1.cells) (hsl : slots ≤ room_1.slots) (g_o7 : n0 ≤ o7) :
    ∃ (T' : State) (locs' : List Loc), Stand p l e room_1 s m args below meth c T' locs' cells slots ∧ Fr n0 locs' ∧ Keep h0 T'.heap [o7] ∧ Arv Z T'.heap o7 kA .char (22 : Int32) (vs.set 0 (.int (nar .char (g (0 : Int32))))) (.int (0 : Int32)) ∧
      ∀ target, Steps p.tables e below (T'.setTop (mkF m 15 #[s0, s1, .val (.long j2), .second, s4, s5, s6, .val (.ref o7), s8, s9, s10, s11, s12, s13, s14, s15, s16, s17, s18, s19, s20, s21, s22, s23] [])) target → Steps p.tables e below (T0.setTop (mkF m 6 #[s0, s1, .val (.long j2), .second, s4, s5, s6, .val (.ref o7), s8, s9, s10, s11, s12, s13, s14, s15, s16, s17, s18, s19, s20, s21, s22, s23] [])) target := by
  obtain ⟨cl_o7, Ar_o7, q7, S7, M7, H7, G7⟩ := V
  have hin14 : ¬ ((0 : Int32) < 0 ∨ cl_o7.slots.size ≤ ((0 : Int32)).toNatClampNeg) := inb_of S7 ⟨by decide, by decide⟩
  obtain ⟨_, _, ⟨T7, L7, k7, n7⟩, -, X7, ⟨Lc7, hQ7, l7, y7, z7⟩, st7⟩ := Jvm.LawKit.callS X0 hx (y := (⟨"com/example/bandmark/bandmark/PlainDecimalIsCompactPinLaw", "dg", "(JI)C"⟩ : MethodName)) hown (mvT hZ (hw _ (List.mem_of_getElem? (i := 1) rfl))) (mvT hZ (hw _ (List.mem_of_getElem? (i := 2) rfl))) (mvT hZ (hw _ (List.mem_of_getElem? (i := 3) rfl))) (mvT hZ (hw _ (List.mem_of_getElem? (i := 4) rfl))) (by decide) (backOf (W := 2) (r1g l Z a0 hw [] j2 (0 : Int32) (g (0 : Int32)) h0 n0 Z0 (hg _)) hZ (hw _ (List.mem_of_getElem? (i := 4) rfl)) (hw _ (List.mem_of_getElem? (i := 3) rfl)) (by decide) (by decide)) (g := (mkF m 11 #[s0, s1, .val (.long j2), .second, s4, s5, s6, .val (.ref o7), s8, s9, s10, s11, s12, s13, s14, s15, s16, s17, s18, s19, s20, s21, s22, s23] [(.int (0 : Int32)), (.long j2), (.int (0 : Int32)), (.ref o7)])) rfl (by rw [hml]; rfl) (argsL := [(.long j2), (.int (0 : Int32))]) (rest := [(.int (0 : Int32)), (.ref o7)]) (lenOf pd_0_0 rfl) rfl (by show 2 * 0 + _ ≤ _; exact Nat.le_of_eq rfl) (hb hby at_11) (fun _ _ => ⟨rfl, e0, hcl, hsl⟩)
  dsimp only [Pt.U, Pt.locs, Pt.cells, Pt.slots] at X7 l7 y7 z7 st7 hQ7
  subst l7 y7 z7
  obtain ⟨rfl, N7q, e7⟩ := hQ7
  have N7 := Fr.app N0 N7q
  obtain ⟨T8, h8, X8, e8, W8, st8⟩ := stC X7 hx hZ e7 Ar_o7 (j := (0 : Int32)) hin14 (g := (mkF m 14 #[s0, s1, .val (.long j2), .second, s4, s5, s6, .val (.ref o7), s8, s9, s10, s11, s12, s13, s14, s15, s16, s17, s18, s19, s20, s21, s22, s23] [(.int (g (0 : Int32))), (.int (0 : Int32)), (.ref o7)])) rfl rfl (hb hby at_14)
  have N8 := Fr.snoc X8 N7 g_o7
  have K8 : Keep h0 h8 [o7] := (Keep.refl h0 [o7]).wr W8 (Or.inl (List.mem_of_getElem? (i := 0) rfl))
  refine ⟨T8, _, X8, N8, by rw [e8]; exact K8, by rw [e8]; exact Arv.set Ar_o7 q7 S7 M7 H7 G7 (fits_nar_char _) W8 0 rfl hvs, fun target kt => ?_⟩
  show Steps p.tables e below (T0.setTop (mkF m 6 #[s0, s1, .val (.long j2), .second, s4, s5, s6, .val (.ref o7), s8, s9, s10, s11, s12, s13, s14, s15, s16, s17, s18, s19, s20, s21, s22, s23] [])) _
  refine XS.aload X0.here hx rfl (hb hby at_6) rfl rfl ?_
  show Steps p.tables e below (T0.setTop (mkF m 8 #[s0, s1, .val (.long j2), .second, s4, s5, s6, .val (.ref o7), s8, s9, s10, s11, s12, s13, s14, s15, s16, s17, s18, s19, s20, s21, s22, s23] [(.ref o7)])) _
  refine XS.iconst X0.here hx rfl (hb hby at_8) ?_
  show Steps p.tables e below (T0.setTop (mkF m 9 #[s0, s1, .val (.long j2), .second, s4, s5, s6, .val (.ref o7), s8, s9, s10, s11, s12, s13, s14, s15, s16, s17, s18, s19, s20, s21, s22, s23] [(.int (0 : Int32)), (.ref o7)])) _
  refine XS.lloadN X0.here hx rfl (hb hby at_9) rfl ?_
  show Steps p.tables e below (T0.setTop (mkF m 10 #[s0, s1, .val (.long j2), .second, s4, s5, s6, .val (.ref o7), s8, s9, s10, s11, s12, s13, s14, s15, s16, s17, s18, s19, s20, s21, s22, s23] [(.long j2), (.int (0 : Int32)), (.ref o7)])) _
  refine XS.iconst X0.here hx rfl (hb hby at_10) ?_
  show Steps p.tables e below (T0.setTop (mkF m 11 #[s0, s1, .val (.long j2), .second, s4, s5, s6, .val (.ref o7), s8, s9, s10, s11, s12, s13, s14, s15, s16, s17, s18, s19, s20, s21, s22, s23] [(.int (0 : Int32)), (.long j2), (.int (0 : Int32)), (.ref o7)])) _
  refine st7 _ ?_
  show Steps p.tables e below (T7.setTop (mkF m 14 #[s0, s1, .val (.long j2), .second, s4, s5, s6, .val (.ref o7), s8, s9, s10, s11, s12, s13, s14, s15, s16, s17, s18, s19, s20, s21, s22, s23] [(.int (g (0 : Int32))), (.int (0 : Int32)), (.ref o7)])) _
  refine st8 _ ?_
  exact kt
set_option maxRecDepth 65536 in
set_option maxHeartbeats 40000000 in
theorem own_A1 {p : Program} {l : Launch} {e : Env} {s : State} {m : MethodId} {args : Array Value} {below : List Frame} {meth : Method} {c : Code} {T0 : State} {locs : List Loc} {cells slots : Nat} {Z : State} {a0 : Array Value} {h0 : Heap} (s0 : Slot) (s1 : Slot) (j2 : Int64) (s4 : Slot) (s5 : Slot) (s6 : Slot) (o7 : Addr) (s8 : Slot) (s9 : Slot) (s10 : Slot) (s11 : Slot) (s12 : Slot) (s13 : Slot) (s14 : Slot) (s15 : Slot) (s16 : Slot) (s17 : Slot) (s18 : Slot) (s19 : Slot) (s20 : Slot) (s21 : Slot) (s22 : Slot) (s23 : Slot) (g : Int32 → Int32) (kA : ClassId) (vs : List Value) (n0 : Nat)
    (X0 : Stand p l e room_1 s m args below meth c T0 locs cells slots) (hx : p.tables.exec = Jvm.exec) (hZ : Z.Warmed39 s.vm) (hw : ∀ d ∈ tables_1, d.before a0 Z = true) (hby : c.code = code) (hml : c.maxLocals = 24) (hown : s.vm.findClass "com/example/bandmark/bandmark/PlainDecimalIsCompactPinLaw" = some m.cls) (e0 : T0.heap = h0) (hg : ∀ k, own_dg j2 k = g k) (V : Arv Z h0 o7 kA .char (22 : Int32) vs (.int (0 : Int32))) (hvs : 1 < vs.length) (Z0 : n0 ≤ h0.size) (N0 : Fr n0 locs) (hcl : cells ≤ room_1.cells) (hsl : slots ≤ room_1.slots) (g_o7 : n0 ≤ o7) :
    ∃ (T' : State) (locs' : List Loc), Stand p l e room_1 s m args below meth c T' locs' cells slots ∧ Fr n0 locs' ∧ Keep h0 T'.heap [o7] ∧ Arv Z T'.heap o7 kA .char (22 : Int32) (vs.set 1 (.int (nar .char (g (1 : Int32))))) (.int (0 : Int32)) ∧
      ∀ target, Steps p.tables e below (T'.setTop (mkF m 24 #[s0, s1, .val (.long j2), .second, s4, s5, s6, .val (.ref o7), s8, s9, s10, s11, s12, s13, s14, s15, s16, s17, s18, s19, s20, s21, s22, s23] [])) target → Steps p.tables e below (T0.setTop (mkF m 15 #[s0, s1, .val (.long j2), .second, s4, s5, s6, .val (.ref o7), s8, s9, s10, s11, s12, s13, s14, s15, s16, s17, s18, s19, s20, s21, s22, s23] [])) target := by
  obtain ⟨cl_o7, Ar_o7, q7, S7, M7, H7, G7⟩ := V
  have hin23 : ¬ ((1 : Int32) < 0 ∨ cl_o7.slots.size ≤ ((1 : Int32)).toNatClampNeg) := inb_of S7 ⟨by decide, by decide⟩
  obtain ⟨_, _, ⟨T7, L7, k7, n7⟩, -, X7, ⟨Lc7, hQ7, l7, y7, z7⟩, st7⟩ := Jvm.LawKit.callS X0 hx (y := (⟨"com/example/bandmark/bandmark/PlainDecimalIsCompactPinLaw", "dg", "(JI)C"⟩ : MethodName)) hown (mvT hZ (hw _ (List.mem_of_getElem? (i := 1) rfl))) (mvT hZ (hw _ (List.mem_of_getElem? (i := 2) rfl))) (mvT hZ (hw _ (List.mem_of_getElem? (i := 3) rfl))) (mvT hZ (hw _ (List.mem_of_getElem? (i := 4) rfl))) (by decide) (backOf (W := 2) (r1g l Z a0 hw [] j2 (1 : Int32) (g (1 : Int32)) h0 n0 Z0 (hg _)) hZ (hw _ (List.mem_of_getElem? (i := 4) rfl)) (hw _ (List.mem_of_getElem? (i := 3) rfl)) (by decide) (by decide)) (g := (mkF m 20 #[s0, s1, .val (.long j2), .second, s4, s5, s6, .val (.ref o7), s8, s9, s10, s11, s12, s13, s14, s15, s16, s17, s18, s19, s20, s21, s22, s23] [(.int (1 : Int32)), (.long j2), (.int (1 : Int32)), (.ref o7)])) rfl (by rw [hml]; rfl) (argsL := [(.long j2), (.int (1 : Int32))]) (rest := [(.int (1 : Int32)), (.ref o7)]) (lenOf pd_0_0 rfl) rfl (by show 2 * 0 + _ ≤ _; exact Nat.le_of_eq rfl) (hb hby at_20) (fun _ _ => ⟨rfl, e0, hcl, hsl⟩)
  dsimp only [Pt.U, Pt.locs, Pt.cells, Pt.slots] at X7 l7 y7 z7 st7 hQ7
  subst l7 y7 z7
  obtain ⟨rfl, N7q, e7⟩ := hQ7
  have N7 := Fr.app N0 N7q
  obtain ⟨T8, h8, X8, e8, W8, st8⟩ := stC X7 hx hZ e7 Ar_o7 (j := (1 : Int32)) hin23 (g := (mkF m 23 #[s0, s1, .val (.long j2), .second, s4, s5, s6, .val (.ref o7), s8, s9, s10, s11, s12, s13, s14, s15, s16, s17, s18, s19, s20, s21, s22, s23] [(.int (g (1 : Int32))), (.int (1 : Int32)), (.ref o7)])) rfl rfl (hb hby at_23)
  have N8 := Fr.snoc X8 N7 g_o7
  have K8 : Keep h0 h8 [o7] := (Keep.refl h0 [o7]).wr W8 (Or.inl (List.mem_of_getElem? (i := 0) rfl))
  refine ⟨T8, _, X8, N8, by rw [e8]; exact K8, by rw [e8]; exact Arv.set Ar_o7 q7 S7 M7 H7 G7 (fits_nar_char _) W8 1 rfl hvs, fun target kt => ?_⟩
  show Steps p.tables e below (T0.setTop (mkF m 15 #[s0, s1, .val (.long j2), .second, s4, s5, s6, .val (.ref o7), s8, s9, s10, s11, s12, s13, s14, s15, s16, s17, s18, s19, s20, s21, s22, s23] [])) _
  refine XS.aload X0.here hx rfl (hb hby at_15) rfl rfl ?_
  show Steps p.tables e below (T0.setTop (mkF m 17 #[s0, s1, .val (.long j2), .second, s4, s5, s6, .val (.ref o7), s8, s9, s10, s11, s12, s13, s14, s15, s16, s17, s18, s19, s20, s21, s22, s23] [(.ref o7)])) _
  refine XS.iconst X0.here hx rfl (hb hby at_17) ?_
  show Steps p.tables e below (T0.setTop (mkF m 18 #[s0, s1, .val (.long j2), .second, s4, s5, s6, .val (.ref o7), s8, s9, s10, s11, s12, s13, s14, s15, s16, s17, s18, s19, s20, s21, s22, s23] [(.int (1 : Int32)), (.ref o7)])) _
  refine XS.lloadN X0.here hx rfl (hb hby at_18) rfl ?_
  show Steps p.tables e below (T0.setTop (mkF m 19 #[s0, s1, .val (.long j2), .second, s4, s5, s6, .val (.ref o7), s8, s9, s10, s11, s12, s13, s14, s15, s16, s17, s18, s19, s20, s21, s22, s23] [(.long j2), (.int (1 : Int32)), (.ref o7)])) _
  refine XS.iconst X0.here hx rfl (hb hby at_19) ?_
  show Steps p.tables e below (T0.setTop (mkF m 20 #[s0, s1, .val (.long j2), .second, s4, s5, s6, .val (.ref o7), s8, s9, s10, s11, s12, s13, s14, s15, s16, s17, s18, s19, s20, s21, s22, s23] [(.int (1 : Int32)), (.long j2), (.int (1 : Int32)), (.ref o7)])) _
  refine st7 _ ?_
  show Steps p.tables e below (T7.setTop (mkF m 23 #[s0, s1, .val (.long j2), .second, s4, s5, s6, .val (.ref o7), s8, s9, s10, s11, s12, s13, s14, s15, s16, s17, s18, s19, s20, s21, s22, s23] [(.int (g (1 : Int32))), (.int (1 : Int32)), (.ref o7)])) _
  refine st8 _ ?_
  exact kt
set_option maxRecDepth 65536 in
set_option maxHeartbeats 40000000 in
theorem own_A2 {p : Program} {l : Launch} {e : Env} {s : State} {m : MethodId} {args : Array Value} {below : List Frame} {meth : Method} {c : Code} {T0 : State} {locs : List Loc} {cells slots : Nat} {Z : State} {a0 : Array Value} {h0 : Heap} (s0 : Slot) (s1 : Slot) (j2 : Int64) (s4 : Slot) (s5 : Slot) (s6 : Slot) (o7 : Addr) (s8 : Slot) (s9 : Slot) (s10 : Slot) (s11 : Slot) (s12 : Slot) (s13 : Slot) (s14 : Slot) (s15 : Slot) (s16 : Slot) (s17 : Slot) (s18 : Slot) (s19 : Slot) (s20 : Slot) (s21 : Slot) (s22 : Slot) (s23 : Slot) (g : Int32 → Int32) (kA : ClassId) (vs : List Value) (n0 : Nat)
    (X0 : Stand p l e room_1 s m args below meth c T0 locs cells slots) (hx : p.tables.exec = Jvm.exec) (hZ : Z.Warmed39 s.vm) (hw : ∀ d ∈ tables_1, d.before a0 Z = true) (hby : c.code = code) (hml : c.maxLocals = 24) (hown : s.vm.findClass "com/example/bandmark/bandmark/PlainDecimalIsCompactPinLaw" = some m.cls) (e0 : T0.heap = h0) (hg : ∀ k, own_dg j2 k = g k) (V : Arv Z h0 o7 kA .char (22 : Int32) vs (.int (0 : Int32))) (hvs : 2 < vs.length) (Z0 : n0 ≤ h0.size) (N0 : Fr n0 locs) (hcl : cells ≤ room_1.cells) (hsl : slots ≤ room_1.slots) (g_o7 : n0 ≤ o7) :
    ∃ (T' : State) (locs' : List Loc), Stand p l e room_1 s m args below meth c T' locs' cells slots ∧ Fr n0 locs' ∧ Keep h0 T'.heap [o7] ∧ Arv Z T'.heap o7 kA .char (22 : Int32) (vs.set 2 (.int (nar .char (g (2 : Int32))))) (.int (0 : Int32)) ∧
      ∀ target, Steps p.tables e below (T'.setTop (mkF m 33 #[s0, s1, .val (.long j2), .second, s4, s5, s6, .val (.ref o7), s8, s9, s10, s11, s12, s13, s14, s15, s16, s17, s18, s19, s20, s21, s22, s23] [])) target → Steps p.tables e below (T0.setTop (mkF m 24 #[s0, s1, .val (.long j2), .second, s4, s5, s6, .val (.ref o7), s8, s9, s10, s11, s12, s13, s14, s15, s16, s17, s18, s19, s20, s21, s22, s23] [])) target := by
  obtain ⟨cl_o7, Ar_o7, q7, S7, M7, H7, G7⟩ := V
  have hin32 : ¬ ((2 : Int32) < 0 ∨ cl_o7.slots.size ≤ ((2 : Int32)).toNatClampNeg) := inb_of S7 ⟨by decide, by decide⟩
  obtain ⟨_, _, ⟨T7, L7, k7, n7⟩, -, X7, ⟨Lc7, hQ7, l7, y7, z7⟩, st7⟩ := Jvm.LawKit.callS X0 hx (y := (⟨"com/example/bandmark/bandmark/PlainDecimalIsCompactPinLaw", "dg", "(JI)C"⟩ : MethodName)) hown (mvT hZ (hw _ (List.mem_of_getElem? (i := 1) rfl))) (mvT hZ (hw _ (List.mem_of_getElem? (i := 2) rfl))) (mvT hZ (hw _ (List.mem_of_getElem? (i := 3) rfl))) (mvT hZ (hw _ (List.mem_of_getElem? (i := 4) rfl))) (by decide) (backOf (W := 2) (r1g l Z a0 hw [] j2 (2 : Int32) (g (2 : Int32)) h0 n0 Z0 (hg _)) hZ (hw _ (List.mem_of_getElem? (i := 4) rfl)) (hw _ (List.mem_of_getElem? (i := 3) rfl)) (by decide) (by decide)) (g := (mkF m 29 #[s0, s1, .val (.long j2), .second, s4, s5, s6, .val (.ref o7), s8, s9, s10, s11, s12, s13, s14, s15, s16, s17, s18, s19, s20, s21, s22, s23] [(.int (2 : Int32)), (.long j2), (.int (2 : Int32)), (.ref o7)])) rfl (by rw [hml]; rfl) (argsL := [(.long j2), (.int (2 : Int32))]) (rest := [(.int (2 : Int32)), (.ref o7)]) (lenOf pd_0_0 rfl) rfl (by show 2 * 0 + _ ≤ _; exact Nat.le_of_eq rfl) (hb hby at_29) (fun _ _ => ⟨rfl, e0, hcl, hsl⟩)
  dsimp only [Pt.U, Pt.locs, Pt.cells, Pt.slots] at X7 l7 y7 z7 st7 hQ7
  subst l7 y7 z7
  obtain ⟨rfl, N7q, e7⟩ := hQ7
  have N7 := Fr.app N0 N7q
  obtain ⟨T8, h8, X8, e8, W8, st8⟩ := stC X7 hx hZ e7 Ar_o7 (j := (2 : Int32)) hin32 (g := (mkF m 32 #[s0, s1, .val (.long j2), .second, s4, s5, s6, .val (.ref o7), s8, s9, s10, s11, s12, s13, s14, s15, s16, s17, s18, s19, s20, s21, s22, s23] [(.int (g (2 : Int32))), (.int (2 : Int32)), (.ref o7)])) rfl rfl (hb hby at_32)
  have N8 := Fr.snoc X8 N7 g_o7
  have K8 : Keep h0 h8 [o7] := (Keep.refl h0 [o7]).wr W8 (Or.inl (List.mem_of_getElem? (i := 0) rfl))
  refine ⟨T8, _, X8, N8, by rw [e8]; exact K8, by rw [e8]; exact Arv.set Ar_o7 q7 S7 M7 H7 G7 (fits_nar_char _) W8 2 rfl hvs, fun target kt => ?_⟩
  show Steps p.tables e below (T0.setTop (mkF m 24 #[s0, s1, .val (.long j2), .second, s4, s5, s6, .val (.ref o7), s8, s9, s10, s11, s12, s13, s14, s15, s16, s17, s18, s19, s20, s21, s22, s23] [])) _
  refine XS.aload X0.here hx rfl (hb hby at_24) rfl rfl ?_
  show Steps p.tables e below (T0.setTop (mkF m 26 #[s0, s1, .val (.long j2), .second, s4, s5, s6, .val (.ref o7), s8, s9, s10, s11, s12, s13, s14, s15, s16, s17, s18, s19, s20, s21, s22, s23] [(.ref o7)])) _
  refine XS.iconst X0.here hx rfl (hb hby at_26) ?_
  show Steps p.tables e below (T0.setTop (mkF m 27 #[s0, s1, .val (.long j2), .second, s4, s5, s6, .val (.ref o7), s8, s9, s10, s11, s12, s13, s14, s15, s16, s17, s18, s19, s20, s21, s22, s23] [(.int (2 : Int32)), (.ref o7)])) _
  refine XS.lloadN X0.here hx rfl (hb hby at_27) rfl ?_
  show Steps p.tables e below (T0.setTop (mkF m 28 #[s0, s1, .val (.long j2), .second, s4, s5, s6, .val (.ref o7), s8, s9, s10, s11, s12, s13, s14, s15, s16, s17, s18, s19, s20, s21, s22, s23] [(.long j2), (.int (2 : Int32)), (.ref o7)])) _
  refine XS.iconst X0.here hx rfl (hb hby at_28) ?_
  show Steps p.tables e below (T0.setTop (mkF m 29 #[s0, s1, .val (.long j2), .second, s4, s5, s6, .val (.ref o7), s8, s9, s10, s11, s12, s13, s14, s15, s16, s17, s18, s19, s20, s21, s22, s23] [(.int (2 : Int32)), (.long j2), (.int (2 : Int32)), (.ref o7)])) _
  refine st7 _ ?_
  show Steps p.tables e below (T7.setTop (mkF m 32 #[s0, s1, .val (.long j2), .second, s4, s5, s6, .val (.ref o7), s8, s9, s10, s11, s12, s13, s14, s15, s16, s17, s18, s19, s20, s21, s22, s23] [(.int (g (2 : Int32))), (.int (2 : Int32)), (.ref o7)])) _
  refine st8 _ ?_
  exact kt
set_option maxRecDepth 65536 in
set_option maxHeartbeats 40000000 in
theorem own_A3 {p : Program} {l : Launch} {e : Env} {s : State} {m : MethodId} {args : Array Value} {below : List Frame} {meth : Method} {c : Code} {T0 : State} {locs : List Loc} {cells slots : Nat} {Z : State} {a0 : Array Value} {h0 : Heap} (s0 : Slot) (s1 : Slot) (j2 : Int64) (s4 : Slot) (s5 : Slot) (s6 : Slot) (o7 : Addr) (s8 : Slot) (s9 : Slot) (s10 : Slot) (s11 : Slot) (s12 : Slot) (s13 : Slot) (s14 : Slot) (s15 : Slot) (s16 : Slot) (s17 : Slot) (s18 : Slot) (s19 : Slot) (s20 : Slot) (s21 : Slot) (s22 : Slot) (s23 : Slot) (g : Int32 → Int32) (kA : ClassId) (vs : List Value) (n0 : Nat)
    (X0 : Stand p l e room_1 s m args below meth c T0 locs cells slots) (hx : p.tables.exec = Jvm.exec) (hZ : Z.Warmed39 s.vm) (hw : ∀ d ∈ tables_1, d.before a0 Z = true) (hby : c.code = code) (hml : c.maxLocals = 24) (hown : s.vm.findClass "com/example/bandmark/bandmark/PlainDecimalIsCompactPinLaw" = some m.cls) (e0 : T0.heap = h0) (hg : ∀ k, own_dg j2 k = g k) (V : Arv Z h0 o7 kA .char (22 : Int32) vs (.int (0 : Int32))) (hvs : 3 < vs.length) (Z0 : n0 ≤ h0.size) (N0 : Fr n0 locs) (hcl : cells ≤ room_1.cells) (hsl : slots ≤ room_1.slots) (g_o7 : n0 ≤ o7) :
    ∃ (T' : State) (locs' : List Loc), Stand p l e room_1 s m args below meth c T' locs' cells slots ∧ Fr n0 locs' ∧ Keep h0 T'.heap [o7] ∧ Arv Z T'.heap o7 kA .char (22 : Int32) (vs.set 3 (.int (nar .char (g (3 : Int32))))) (.int (0 : Int32)) ∧
      ∀ target, Steps p.tables e below (T'.setTop (mkF m 42 #[s0, s1, .val (.long j2), .second, s4, s5, s6, .val (.ref o7), s8, s9, s10, s11, s12, s13, s14, s15, s16, s17, s18, s19, s20, s21, s22, s23] [])) target → Steps p.tables e below (T0.setTop (mkF m 33 #[s0, s1, .val (.long j2), .second, s4, s5, s6, .val (.ref o7), s8, s9, s10, s11, s12, s13, s14, s15, s16, s17, s18, s19, s20, s21, s22, s23] [])) target := by
  obtain ⟨cl_o7, Ar_o7, q7, S7, M7, H7, G7⟩ := V
  have hin41 : ¬ ((3 : Int32) < 0 ∨ cl_o7.slots.size ≤ ((3 : Int32)).toNatClampNeg) := inb_of S7 ⟨by decide, by decide⟩
  obtain ⟨_, _, ⟨T7, L7, k7, n7⟩, -, X7, ⟨Lc7, hQ7, l7, y7, z7⟩, st7⟩ := Jvm.LawKit.callS X0 hx (y := (⟨"com/example/bandmark/bandmark/PlainDecimalIsCompactPinLaw", "dg", "(JI)C"⟩ : MethodName)) hown (mvT hZ (hw _ (List.mem_of_getElem? (i := 1) rfl))) (mvT hZ (hw _ (List.mem_of_getElem? (i := 2) rfl))) (mvT hZ (hw _ (List.mem_of_getElem? (i := 3) rfl))) (mvT hZ (hw _ (List.mem_of_getElem? (i := 4) rfl))) (by decide) (backOf (W := 2) (r1g l Z a0 hw [] j2 (3 : Int32) (g (3 : Int32)) h0 n0 Z0 (hg _)) hZ (hw _ (List.mem_of_getElem? (i := 4) rfl)) (hw _ (List.mem_of_getElem? (i := 3) rfl)) (by decide) (by decide)) (g := (mkF m 38 #[s0, s1, .val (.long j2), .second, s4, s5, s6, .val (.ref o7), s8, s9, s10, s11, s12, s13, s14, s15, s16, s17, s18, s19, s20, s21, s22, s23] [(.int (3 : Int32)), (.long j2), (.int (3 : Int32)), (.ref o7)])) rfl (by rw [hml]; rfl) (argsL := [(.long j2), (.int (3 : Int32))]) (rest := [(.int (3 : Int32)), (.ref o7)]) (lenOf pd_0_0 rfl) rfl (by show 2 * 0 + _ ≤ _; exact Nat.le_of_eq rfl) (hb hby at_38) (fun _ _ => ⟨rfl, e0, hcl, hsl⟩)
  dsimp only [Pt.U, Pt.locs, Pt.cells, Pt.slots] at X7 l7 y7 z7 st7 hQ7
  subst l7 y7 z7
  obtain ⟨rfl, N7q, e7⟩ := hQ7
  have N7 := Fr.app N0 N7q
  obtain ⟨T8, h8, X8, e8, W8, st8⟩ := stC X7 hx hZ e7 Ar_o7 (j := (3 : Int32)) hin41 (g := (mkF m 41 #[s0, s1, .val (.long j2), .second, s4, s5, s6, .val (.ref o7), s8, s9, s10, s11, s12, s13, s14, s15, s16, s17, s18, s19, s20, s21, s22, s23] [(.int (g (3 : Int32))), (.int (3 : Int32)), (.ref o7)])) rfl rfl (hb hby at_41)
  have N8 := Fr.snoc X8 N7 g_o7
  have K8 : Keep h0 h8 [o7] := (Keep.refl h0 [o7]).wr W8 (Or.inl (List.mem_of_getElem? (i := 0) rfl))
  refine ⟨T8, _, X8, N8, by rw [e8]; exact K8, by rw [e8]; exact Arv.set Ar_o7 q7 S7 M7 H7 G7 (fits_nar_char _) W8 3 rfl hvs, fun target kt => ?_⟩
  show Steps p.tables e below (T0.setTop (mkF m 33 #[s0, s1, .val (.long j2), .second, s4, s5, s6, .val (.ref o7), s8, s9, s10, s11, s12, s13, s14, s15, s16, s17, s18, s19, s20, s21, s22, s23] [])) _
  refine XS.aload X0.here hx rfl (hb hby at_33) rfl rfl ?_
  show Steps p.tables e below (T0.setTop (mkF m 35 #[s0, s1, .val (.long j2), .second, s4, s5, s6, .val (.ref o7), s8, s9, s10, s11, s12, s13, s14, s15, s16, s17, s18, s19, s20, s21, s22, s23] [(.ref o7)])) _
  refine XS.iconst X0.here hx rfl (hb hby at_35) ?_
  show Steps p.tables e below (T0.setTop (mkF m 36 #[s0, s1, .val (.long j2), .second, s4, s5, s6, .val (.ref o7), s8, s9, s10, s11, s12, s13, s14, s15, s16, s17, s18, s19, s20, s21, s22, s23] [(.int (3 : Int32)), (.ref o7)])) _
  refine XS.lloadN X0.here hx rfl (hb hby at_36) rfl ?_
  show Steps p.tables e below (T0.setTop (mkF m 37 #[s0, s1, .val (.long j2), .second, s4, s5, s6, .val (.ref o7), s8, s9, s10, s11, s12, s13, s14, s15, s16, s17, s18, s19, s20, s21, s22, s23] [(.long j2), (.int (3 : Int32)), (.ref o7)])) _
  refine XS.iconst X0.here hx rfl (hb hby at_37) ?_
  show Steps p.tables e below (T0.setTop (mkF m 38 #[s0, s1, .val (.long j2), .second, s4, s5, s6, .val (.ref o7), s8, s9, s10, s11, s12, s13, s14, s15, s16, s17, s18, s19, s20, s21, s22, s23] [(.int (3 : Int32)), (.long j2), (.int (3 : Int32)), (.ref o7)])) _
  refine st7 _ ?_
  show Steps p.tables e below (T7.setTop (mkF m 41 #[s0, s1, .val (.long j2), .second, s4, s5, s6, .val (.ref o7), s8, s9, s10, s11, s12, s13, s14, s15, s16, s17, s18, s19, s20, s21, s22, s23] [(.int (g (3 : Int32))), (.int (3 : Int32)), (.ref o7)])) _
  refine st8 _ ?_
  exact kt
set_option maxRecDepth 65536 in
set_option maxHeartbeats 40000000 in
theorem own_A4 {p : Program} {l : Launch} {e : Env} {s : State} {m : MethodId} {args : Array Value} {below : List Frame} {meth : Method} {c : Code} {T0 : State} {locs : List Loc} {cells slots : Nat} {Z : State} {a0 : Array Value} {h0 : Heap} (s0 : Slot) (s1 : Slot) (j2 : Int64) (s4 : Slot) (s5 : Slot) (s6 : Slot) (o7 : Addr) (s8 : Slot) (s9 : Slot) (s10 : Slot) (s11 : Slot) (s12 : Slot) (s13 : Slot) (s14 : Slot) (s15 : Slot) (s16 : Slot) (s17 : Slot) (s18 : Slot) (s19 : Slot) (s20 : Slot) (s21 : Slot) (s22 : Slot) (s23 : Slot) (g : Int32 → Int32) (kA : ClassId) (vs : List Value) (n0 : Nat)
    (X0 : Stand p l e room_1 s m args below meth c T0 locs cells slots) (hx : p.tables.exec = Jvm.exec) (hZ : Z.Warmed39 s.vm) (hw : ∀ d ∈ tables_1, d.before a0 Z = true) (hby : c.code = code) (hml : c.maxLocals = 24) (hown : s.vm.findClass "com/example/bandmark/bandmark/PlainDecimalIsCompactPinLaw" = some m.cls) (e0 : T0.heap = h0) (hg : ∀ k, own_dg j2 k = g k) (V : Arv Z h0 o7 kA .char (22 : Int32) vs (.int (0 : Int32))) (hvs : 4 < vs.length) (Z0 : n0 ≤ h0.size) (N0 : Fr n0 locs) (hcl : cells ≤ room_1.cells) (hsl : slots ≤ room_1.slots) (g_o7 : n0 ≤ o7) :
    ∃ (T' : State) (locs' : List Loc), Stand p l e room_1 s m args below meth c T' locs' cells slots ∧ Fr n0 locs' ∧ Keep h0 T'.heap [o7] ∧ Arv Z T'.heap o7 kA .char (22 : Int32) (vs.set 4 (.int (nar .char (g (4 : Int32))))) (.int (0 : Int32)) ∧
      ∀ target, Steps p.tables e below (T'.setTop (mkF m 51 #[s0, s1, .val (.long j2), .second, s4, s5, s6, .val (.ref o7), s8, s9, s10, s11, s12, s13, s14, s15, s16, s17, s18, s19, s20, s21, s22, s23] [])) target → Steps p.tables e below (T0.setTop (mkF m 42 #[s0, s1, .val (.long j2), .second, s4, s5, s6, .val (.ref o7), s8, s9, s10, s11, s12, s13, s14, s15, s16, s17, s18, s19, s20, s21, s22, s23] [])) target := by
  obtain ⟨cl_o7, Ar_o7, q7, S7, M7, H7, G7⟩ := V
  have hin50 : ¬ ((4 : Int32) < 0 ∨ cl_o7.slots.size ≤ ((4 : Int32)).toNatClampNeg) := inb_of S7 ⟨by decide, by decide⟩
  obtain ⟨_, _, ⟨T7, L7, k7, n7⟩, -, X7, ⟨Lc7, hQ7, l7, y7, z7⟩, st7⟩ := Jvm.LawKit.callS X0 hx (y := (⟨"com/example/bandmark/bandmark/PlainDecimalIsCompactPinLaw", "dg", "(JI)C"⟩ : MethodName)) hown (mvT hZ (hw _ (List.mem_of_getElem? (i := 1) rfl))) (mvT hZ (hw _ (List.mem_of_getElem? (i := 2) rfl))) (mvT hZ (hw _ (List.mem_of_getElem? (i := 3) rfl))) (mvT hZ (hw _ (List.mem_of_getElem? (i := 4) rfl))) (by decide) (backOf (W := 2) (r1g l Z a0 hw [] j2 (4 : Int32) (g (4 : Int32)) h0 n0 Z0 (hg _)) hZ (hw _ (List.mem_of_getElem? (i := 4) rfl)) (hw _ (List.mem_of_getElem? (i := 3) rfl)) (by decide) (by decide)) (g := (mkF m 47 #[s0, s1, .val (.long j2), .second, s4, s5, s6, .val (.ref o7), s8, s9, s10, s11, s12, s13, s14, s15, s16, s17, s18, s19, s20, s21, s22, s23] [(.int (4 : Int32)), (.long j2), (.int (4 : Int32)), (.ref o7)])) rfl (by rw [hml]; rfl) (argsL := [(.long j2), (.int (4 : Int32))]) (rest := [(.int (4 : Int32)), (.ref o7)]) (lenOf pd_0_0 rfl) rfl (by show 2 * 0 + _ ≤ _; exact Nat.le_of_eq rfl) (hb hby at_47) (fun _ _ => ⟨rfl, e0, hcl, hsl⟩)
  dsimp only [Pt.U, Pt.locs, Pt.cells, Pt.slots] at X7 l7 y7 z7 st7 hQ7
  subst l7 y7 z7
  obtain ⟨rfl, N7q, e7⟩ := hQ7
  have N7 := Fr.app N0 N7q
  obtain ⟨T8, h8, X8, e8, W8, st8⟩ := stC X7 hx hZ e7 Ar_o7 (j := (4 : Int32)) hin50 (g := (mkF m 50 #[s0, s1, .val (.long j2), .second, s4, s5, s6, .val (.ref o7), s8, s9, s10, s11, s12, s13, s14, s15, s16, s17, s18, s19, s20, s21, s22, s23] [(.int (g (4 : Int32))), (.int (4 : Int32)), (.ref o7)])) rfl rfl (hb hby at_50)
  have N8 := Fr.snoc X8 N7 g_o7
  have K8 : Keep h0 h8 [o7] := (Keep.refl h0 [o7]).wr W8 (Or.inl (List.mem_of_getElem? (i := 0) rfl))
  refine ⟨T8, _, X8, N8, by rw [e8]; exact K8, by rw [e8]; exact Arv.set Ar_o7 q7 S7 M7 H7 G7 (fits_nar_char _) W8 4 rfl hvs, fun target kt => ?_⟩
  show Steps p.tables e below (T0.setTop (mkF m 42 #[s0, s1, .val (.long j2), .second, s4, s5, s6, .val (.ref o7), s8, s9, s10, s11, s12, s13, s14, s15, s16, s17, s18, s19, s20, s21, s22, s23] [])) _
  refine XS.aload X0.here hx rfl (hb hby at_42) rfl rfl ?_
  show Steps p.tables e below (T0.setTop (mkF m 44 #[s0, s1, .val (.long j2), .second, s4, s5, s6, .val (.ref o7), s8, s9, s10, s11, s12, s13, s14, s15, s16, s17, s18, s19, s20, s21, s22, s23] [(.ref o7)])) _
  refine XS.iconst X0.here hx rfl (hb hby at_44) ?_
  show Steps p.tables e below (T0.setTop (mkF m 45 #[s0, s1, .val (.long j2), .second, s4, s5, s6, .val (.ref o7), s8, s9, s10, s11, s12, s13, s14, s15, s16, s17, s18, s19, s20, s21, s22, s23] [(.int (4 : Int32)), (.ref o7)])) _
  refine XS.lloadN X0.here hx rfl (hb hby at_45) rfl ?_
  show Steps p.tables e below (T0.setTop (mkF m 46 #[s0, s1, .val (.long j2), .second, s4, s5, s6, .val (.ref o7), s8, s9, s10, s11, s12, s13, s14, s15, s16, s17, s18, s19, s20, s21, s22, s23] [(.long j2), (.int (4 : Int32)), (.ref o7)])) _
  refine XS.iconst X0.here hx rfl (hb hby at_46) ?_
  show Steps p.tables e below (T0.setTop (mkF m 47 #[s0, s1, .val (.long j2), .second, s4, s5, s6, .val (.ref o7), s8, s9, s10, s11, s12, s13, s14, s15, s16, s17, s18, s19, s20, s21, s22, s23] [(.int (4 : Int32)), (.long j2), (.int (4 : Int32)), (.ref o7)])) _
  refine st7 _ ?_
  show Steps p.tables e below (T7.setTop (mkF m 50 #[s0, s1, .val (.long j2), .second, s4, s5, s6, .val (.ref o7), s8, s9, s10, s11, s12, s13, s14, s15, s16, s17, s18, s19, s20, s21, s22, s23] [(.int (g (4 : Int32))), (.int (4 : Int32)), (.ref o7)])) _
  refine st8 _ ?_
  exact kt
set_option maxRecDepth 65536 in
set_option maxHeartbeats 40000000 in
theorem own_A5 {p : Program} {l : Launch} {e : Env} {s : State} {m : MethodId} {args : Array Value} {below : List Frame} {meth : Method} {c : Code} {T0 : State} {locs : List Loc} {cells slots : Nat} {Z : State} {a0 : Array Value} {h0 : Heap} (s0 : Slot) (s1 : Slot) (j2 : Int64) (s4 : Slot) (s5 : Slot) (s6 : Slot) (o7 : Addr) (s8 : Slot) (s9 : Slot) (s10 : Slot) (s11 : Slot) (s12 : Slot) (s13 : Slot) (s14 : Slot) (s15 : Slot) (s16 : Slot) (s17 : Slot) (s18 : Slot) (s19 : Slot) (s20 : Slot) (s21 : Slot) (s22 : Slot) (s23 : Slot) (g : Int32 → Int32) (kA : ClassId) (vs : List Value) (n0 : Nat)
    (X0 : Stand p l e room_1 s m args below meth c T0 locs cells slots) (hx : p.tables.exec = Jvm.exec) (hZ : Z.Warmed39 s.vm) (hw : ∀ d ∈ tables_1, d.before a0 Z = true) (hby : c.code = code) (hml : c.maxLocals = 24) (hown : s.vm.findClass "com/example/bandmark/bandmark/PlainDecimalIsCompactPinLaw" = some m.cls) (e0 : T0.heap = h0) (hg : ∀ k, own_dg j2 k = g k) (V : Arv Z h0 o7 kA .char (22 : Int32) vs (.int (0 : Int32))) (hvs : 5 < vs.length) (Z0 : n0 ≤ h0.size) (N0 : Fr n0 locs) (hcl : cells ≤ room_1.cells) (hsl : slots ≤ room_1.slots) (g_o7 : n0 ≤ o7) :
    ∃ (T' : State) (locs' : List Loc), Stand p l e room_1 s m args below meth c T' locs' cells slots ∧ Fr n0 locs' ∧ Keep h0 T'.heap [o7] ∧ Arv Z T'.heap o7 kA .char (22 : Int32) (vs.set 5 (.int (nar .char (g (5 : Int32))))) (.int (0 : Int32)) ∧
      ∀ target, Steps p.tables e below (T'.setTop (mkF m 60 #[s0, s1, .val (.long j2), .second, s4, s5, s6, .val (.ref o7), s8, s9, s10, s11, s12, s13, s14, s15, s16, s17, s18, s19, s20, s21, s22, s23] [])) target → Steps p.tables e below (T0.setTop (mkF m 51 #[s0, s1, .val (.long j2), .second, s4, s5, s6, .val (.ref o7), s8, s9, s10, s11, s12, s13, s14, s15, s16, s17, s18, s19, s20, s21, s22, s23] [])) target := by
  obtain ⟨cl_o7, Ar_o7, q7, S7, M7, H7, G7⟩ := V
  have hin59 : ¬ ((5 : Int32) < 0 ∨ cl_o7.slots.size ≤ ((5 : Int32)).toNatClampNeg) := inb_of S7 ⟨by decide, by decide⟩
  obtain ⟨_, _, ⟨T7, L7, k7, n7⟩, -, X7, ⟨Lc7, hQ7, l7, y7, z7⟩, st7⟩ := Jvm.LawKit.callS X0 hx (y := (⟨"com/example/bandmark/bandmark/PlainDecimalIsCompactPinLaw", "dg", "(JI)C"⟩ : MethodName)) hown (mvT hZ (hw _ (List.mem_of_getElem? (i := 1) rfl))) (mvT hZ (hw _ (List.mem_of_getElem? (i := 2) rfl))) (mvT hZ (hw _ (List.mem_of_getElem? (i := 3) rfl))) (mvT hZ (hw _ (List.mem_of_getElem? (i := 4) rfl))) (by decide) (backOf (W := 2) (r1g l Z a0 hw [] j2 (5 : Int32) (g (5 : Int32)) h0 n0 Z0 (hg _)) hZ (hw _ (List.mem_of_getElem? (i := 4) rfl)) (hw _ (List.mem_of_getElem? (i := 3) rfl)) (by decide) (by decide)) (g := (mkF m 56 #[s0, s1, .val (.long j2), .second, s4, s5, s6, .val (.ref o7), s8, s9, s10, s11, s12, s13, s14, s15, s16, s17, s18, s19, s20, s21, s22, s23] [(.int (5 : Int32)), (.long j2), (.int (5 : Int32)), (.ref o7)])) rfl (by rw [hml]; rfl) (argsL := [(.long j2), (.int (5 : Int32))]) (rest := [(.int (5 : Int32)), (.ref o7)]) (lenOf pd_0_0 rfl) rfl (by show 2 * 0 + _ ≤ _; exact Nat.le_of_eq rfl) (hb hby at_56) (fun _ _ => ⟨rfl, e0, hcl, hsl⟩)
  dsimp only [Pt.U, Pt.locs, Pt.cells, Pt.slots] at X7 l7 y7 z7 st7 hQ7
  subst l7 y7 z7
  obtain ⟨rfl, N7q, e7⟩ := hQ7
  have N7 := Fr.app N0 N7q
  obtain ⟨T8, h8, X8, e8, W8, st8⟩ := stC X7 hx hZ e7 Ar_o7 (j := (5 : Int32)) hin59 (g := (mkF m 59 #[s0, s1, .val (.long j2), .second, s4, s5, s6, .val (.ref o7), s8, s9, s10, s11, s12, s13, s14, s15, s16, s17, s18, s19, s20, s21, s22, s23] [(.int (g (5 : Int32))), (.int (5 : Int32)), (.ref o7)])) rfl rfl (hb hby at_59)
  have N8 := Fr.snoc X8 N7 g_o7
  have K8 : Keep h0 h8 [o7] := (Keep.refl h0 [o7]).wr W8 (Or.inl (List.mem_of_getElem? (i := 0) rfl))
  refine ⟨T8, _, X8, N8, by rw [e8]; exact K8, by rw [e8]; exact Arv.set Ar_o7 q7 S7 M7 H7 G7 (fits_nar_char _) W8 5 rfl hvs, fun target kt => ?_⟩
  show Steps p.tables e below (T0.setTop (mkF m 51 #[s0, s1, .val (.long j2), .second, s4, s5, s6, .val (.ref o7), s8, s9, s10, s11, s12, s13, s14, s15, s16, s17, s18, s19, s20, s21, s22, s23] [])) _
  refine XS.aload X0.here hx rfl (hb hby at_51) rfl rfl ?_
  show Steps p.tables e below (T0.setTop (mkF m 53 #[s0, s1, .val (.long j2), .second, s4, s5, s6, .val (.ref o7), s8, s9, s10, s11, s12, s13, s14, s15, s16, s17, s18, s19, s20, s21, s22, s23] [(.ref o7)])) _
  refine XS.iconst X0.here hx rfl (hb hby at_53) ?_
  show Steps p.tables e below (T0.setTop (mkF m 54 #[s0, s1, .val (.long j2), .second, s4, s5, s6, .val (.ref o7), s8, s9, s10, s11, s12, s13, s14, s15, s16, s17, s18, s19, s20, s21, s22, s23] [(.int (5 : Int32)), (.ref o7)])) _
  refine XS.lloadN X0.here hx rfl (hb hby at_54) rfl ?_
  show Steps p.tables e below (T0.setTop (mkF m 55 #[s0, s1, .val (.long j2), .second, s4, s5, s6, .val (.ref o7), s8, s9, s10, s11, s12, s13, s14, s15, s16, s17, s18, s19, s20, s21, s22, s23] [(.long j2), (.int (5 : Int32)), (.ref o7)])) _
  refine XS.iconst X0.here hx rfl (hb hby at_55) ?_
  show Steps p.tables e below (T0.setTop (mkF m 56 #[s0, s1, .val (.long j2), .second, s4, s5, s6, .val (.ref o7), s8, s9, s10, s11, s12, s13, s14, s15, s16, s17, s18, s19, s20, s21, s22, s23] [(.int (5 : Int32)), (.long j2), (.int (5 : Int32)), (.ref o7)])) _
  refine st7 _ ?_
  show Steps p.tables e below (T7.setTop (mkF m 59 #[s0, s1, .val (.long j2), .second, s4, s5, s6, .val (.ref o7), s8, s9, s10, s11, s12, s13, s14, s15, s16, s17, s18, s19, s20, s21, s22, s23] [(.int (g (5 : Int32))), (.int (5 : Int32)), (.ref o7)])) _
  refine st8 _ ?_
  exact kt
set_option maxRecDepth 65536 in
set_option maxHeartbeats 40000000 in
theorem own_A6 {p : Program} {l : Launch} {e : Env} {s : State} {m : MethodId} {args : Array Value} {below : List Frame} {meth : Method} {c : Code} {T0 : State} {locs : List Loc} {cells slots : Nat} {Z : State} {a0 : Array Value} {h0 : Heap} (s0 : Slot) (s1 : Slot) (j2 : Int64) (s4 : Slot) (s5 : Slot) (s6 : Slot) (o7 : Addr) (s8 : Slot) (s9 : Slot) (s10 : Slot) (s11 : Slot) (s12 : Slot) (s13 : Slot) (s14 : Slot) (s15 : Slot) (s16 : Slot) (s17 : Slot) (s18 : Slot) (s19 : Slot) (s20 : Slot) (s21 : Slot) (s22 : Slot) (s23 : Slot) (g : Int32 → Int32) (kA : ClassId) (vs : List Value) (n0 : Nat)
    (X0 : Stand p l e room_1 s m args below meth c T0 locs cells slots) (hx : p.tables.exec = Jvm.exec) (hZ : Z.Warmed39 s.vm) (hw : ∀ d ∈ tables_1, d.before a0 Z = true) (hby : c.code = code) (hml : c.maxLocals = 24) (hown : s.vm.findClass "com/example/bandmark/bandmark/PlainDecimalIsCompactPinLaw" = some m.cls) (e0 : T0.heap = h0) (hg : ∀ k, own_dg j2 k = g k) (V : Arv Z h0 o7 kA .char (22 : Int32) vs (.int (0 : Int32))) (hvs : 6 < vs.length) (Z0 : n0 ≤ h0.size) (N0 : Fr n0 locs) (hcl : cells ≤ room_1.cells) (hsl : slots ≤ room_1.slots) (g_o7 : n0 ≤ o7) :
    ∃ (T' : State) (locs' : List Loc), Stand p l e room_1 s m args below meth c T' locs' cells slots ∧ Fr n0 locs' ∧ Keep h0 T'.heap [o7] ∧ Arv Z T'.heap o7 kA .char (22 : Int32) (vs.set 6 (.int (nar .char (g (6 : Int32))))) (.int (0 : Int32)) ∧
      ∀ target, Steps p.tables e below (T'.setTop (mkF m 71 #[s0, s1, .val (.long j2), .second, s4, s5, s6, .val (.ref o7), s8, s9, s10, s11, s12, s13, s14, s15, s16, s17, s18, s19, s20, s21, s22, s23] [])) target → Steps p.tables e below (T0.setTop (mkF m 60 #[s0, s1, .val (.long j2), .second, s4, s5, s6, .val (.ref o7), s8, s9, s10, s11, s12, s13, s14, s15, s16, s17, s18, s19, s20, s21, s22, s23] [])) target := by
  obtain ⟨cl_o7, Ar_o7, q7, S7, M7, H7, G7⟩ := V
  have hin70 : ¬ ((6 : Int32) < 0 ∨ cl_o7.slots.size ≤ ((6 : Int32)).toNatClampNeg) := inb_of S7 ⟨by decide, by decide⟩
  obtain ⟨_, _, ⟨T7, L7, k7, n7⟩, -, X7, ⟨Lc7, hQ7, l7, y7, z7⟩, st7⟩ := Jvm.LawKit.callS X0 hx (y := (⟨"com/example/bandmark/bandmark/PlainDecimalIsCompactPinLaw", "dg", "(JI)C"⟩ : MethodName)) hown (mvT hZ (hw _ (List.mem_of_getElem? (i := 1) rfl))) (mvT hZ (hw _ (List.mem_of_getElem? (i := 2) rfl))) (mvT hZ (hw _ (List.mem_of_getElem? (i := 3) rfl))) (mvT hZ (hw _ (List.mem_of_getElem? (i := 4) rfl))) (by decide) (backOf (W := 2) (r1g l Z a0 hw [] j2 (6 : Int32) (g (6 : Int32)) h0 n0 Z0 (hg _)) hZ (hw _ (List.mem_of_getElem? (i := 4) rfl)) (hw _ (List.mem_of_getElem? (i := 3) rfl)) (by decide) (by decide)) (g := (mkF m 67 #[s0, s1, .val (.long j2), .second, s4, s5, s6, .val (.ref o7), s8, s9, s10, s11, s12, s13, s14, s15, s16, s17, s18, s19, s20, s21, s22, s23] [(.int (6 : Int32)), (.long j2), (.int (6 : Int32)), (.ref o7)])) rfl (by rw [hml]; rfl) (argsL := [(.long j2), (.int (6 : Int32))]) (rest := [(.int (6 : Int32)), (.ref o7)]) (lenOf pd_0_0 rfl) rfl (by show 2 * 0 + _ ≤ _; exact Nat.le_of_eq rfl) (hb hby at_67) (fun _ _ => ⟨rfl, e0, hcl, hsl⟩)
  dsimp only [Pt.U, Pt.locs, Pt.cells, Pt.slots] at X7 l7 y7 z7 st7 hQ7
  subst l7 y7 z7
  obtain ⟨rfl, N7q, e7⟩ := hQ7
  have N7 := Fr.app N0 N7q
  obtain ⟨T8, h8, X8, e8, W8, st8⟩ := stC X7 hx hZ e7 Ar_o7 (j := (6 : Int32)) hin70 (g := (mkF m 70 #[s0, s1, .val (.long j2), .second, s4, s5, s6, .val (.ref o7), s8, s9, s10, s11, s12, s13, s14, s15, s16, s17, s18, s19, s20, s21, s22, s23] [(.int (g (6 : Int32))), (.int (6 : Int32)), (.ref o7)])) rfl rfl (hb hby at_70)
  have N8 := Fr.snoc X8 N7 g_o7
  have K8 : Keep h0 h8 [o7] := (Keep.refl h0 [o7]).wr W8 (Or.inl (List.mem_of_getElem? (i := 0) rfl))
  refine ⟨T8, _, X8, N8, by rw [e8]; exact K8, by rw [e8]; exact Arv.set Ar_o7 q7 S7 M7 H7 G7 (fits_nar_char _) W8 6 rfl hvs, fun target kt => ?_⟩
  show Steps p.tables e below (T0.setTop (mkF m 60 #[s0, s1, .val (.long j2), .second, s4, s5, s6, .val (.ref o7), s8, s9, s10, s11, s12, s13, s14, s15, s16, s17, s18, s19, s20, s21, s22, s23] [])) _
  refine XS.aload X0.here hx rfl (hb hby at_60) rfl rfl ?_
  show Steps p.tables e below (T0.setTop (mkF m 62 #[s0, s1, .val (.long j2), .second, s4, s5, s6, .val (.ref o7), s8, s9, s10, s11, s12, s13, s14, s15, s16, s17, s18, s19, s20, s21, s22, s23] [(.ref o7)])) _
  refine XS.bipush X0.here hx rfl (hb hby at_62) ?_
  show Steps p.tables e below (T0.setTop (mkF m 64 #[s0, s1, .val (.long j2), .second, s4, s5, s6, .val (.ref o7), s8, s9, s10, s11, s12, s13, s14, s15, s16, s17, s18, s19, s20, s21, s22, s23] [(.int (6 : Int32)), (.ref o7)])) _
  refine XS.lloadN X0.here hx rfl (hb hby at_64) rfl ?_
  show Steps p.tables e below (T0.setTop (mkF m 65 #[s0, s1, .val (.long j2), .second, s4, s5, s6, .val (.ref o7), s8, s9, s10, s11, s12, s13, s14, s15, s16, s17, s18, s19, s20, s21, s22, s23] [(.long j2), (.int (6 : Int32)), (.ref o7)])) _
  refine XS.bipush X0.here hx rfl (hb hby at_65) ?_
  show Steps p.tables e below (T0.setTop (mkF m 67 #[s0, s1, .val (.long j2), .second, s4, s5, s6, .val (.ref o7), s8, s9, s10, s11, s12, s13, s14, s15, s16, s17, s18, s19, s20, s21, s22, s23] [(.int (6 : Int32)), (.long j2), (.int (6 : Int32)), (.ref o7)])) _
  refine st7 _ ?_
  show Steps p.tables e below (T7.setTop (mkF m 70 #[s0, s1, .val (.long j2), .second, s4, s5, s6, .val (.ref o7), s8, s9, s10, s11, s12, s13, s14, s15, s16, s17, s18, s19, s20, s21, s22, s23] [(.int (g (6 : Int32))), (.int (6 : Int32)), (.ref o7)])) _
  refine st8 _ ?_
  exact kt
set_option maxRecDepth 65536 in
set_option maxHeartbeats 40000000 in
theorem own_A7 {p : Program} {l : Launch} {e : Env} {s : State} {m : MethodId} {args : Array Value} {below : List Frame} {meth : Method} {c : Code} {T0 : State} {locs : List Loc} {cells slots : Nat} {Z : State} {a0 : Array Value} {h0 : Heap} (s0 : Slot) (s1 : Slot) (j2 : Int64) (s4 : Slot) (s5 : Slot) (s6 : Slot) (o7 : Addr) (s8 : Slot) (s9 : Slot) (s10 : Slot) (s11 : Slot) (s12 : Slot) (s13 : Slot) (s14 : Slot) (s15 : Slot) (s16 : Slot) (s17 : Slot) (s18 : Slot) (s19 : Slot) (s20 : Slot) (s21 : Slot) (s22 : Slot) (s23 : Slot) (g : Int32 → Int32) (kA : ClassId) (vs : List Value) (n0 : Nat)
    (X0 : Stand p l e room_1 s m args below meth c T0 locs cells slots) (hx : p.tables.exec = Jvm.exec) (hZ : Z.Warmed39 s.vm) (hw : ∀ d ∈ tables_1, d.before a0 Z = true) (hby : c.code = code) (hml : c.maxLocals = 24) (hown : s.vm.findClass "com/example/bandmark/bandmark/PlainDecimalIsCompactPinLaw" = some m.cls) (e0 : T0.heap = h0) (hg : ∀ k, own_dg j2 k = g k) (V : Arv Z h0 o7 kA .char (22 : Int32) vs (.int (0 : Int32))) (hvs : 7 < vs.length) (Z0 : n0 ≤ h0.size) (N0 : Fr n0 locs) (hcl : cells ≤ room_1.cells) (hsl : slots ≤ room_1.slots) (g_o7 : n0 ≤ o7) :
    ∃ (T' : State) (locs' : List Loc), Stand p l e room_1 s m args below meth c T' locs' cells slots ∧ Fr n0 locs' ∧ Keep h0 T'.heap [o7] ∧ Arv Z T'.heap o7 kA .char (22 : Int32) (vs.set 7 (.int (nar .char (g (7 : Int32))))) (.int (0 : Int32)) ∧
      ∀ target, Steps p.tables e below (T'.setTop (mkF m 82 #[s0, s1, .val (.long j2), .second, s4, s5, s6, .val (.ref o7), s8, s9, s10, s11, s12, s13, s14, s15, s16, s17, s18, s19, s20, s21, s22, s23] [])) target → Steps p.tables e below (T0.setTop (mkF m 71 #[s0, s1, .val (.long j2), .second, s4, s5, s6, .val (.ref o7), s8, s9, s10, s11, s12, s13, s14, s15, s16, s17, s18, s19, s20, s21, s22, s23] [])) target := by
  obtain ⟨cl_o7, Ar_o7, q7, S7, M7, H7, G7⟩ := V
  have hin81 : ¬ ((7 : Int32) < 0 ∨ cl_o7.slots.size ≤ ((7 : Int32)).toNatClampNeg) := inb_of S7 ⟨by decide, by decide⟩
  obtain ⟨_, _, ⟨T7, L7, k7, n7⟩, -, X7, ⟨Lc7, hQ7, l7, y7, z7⟩, st7⟩ := Jvm.LawKit.callS X0 hx (y := (⟨"com/example/bandmark/bandmark/PlainDecimalIsCompactPinLaw", "dg", "(JI)C"⟩ : MethodName)) hown (mvT hZ (hw _ (List.mem_of_getElem? (i := 1) rfl))) (mvT hZ (hw _ (List.mem_of_getElem? (i := 2) rfl))) (mvT hZ (hw _ (List.mem_of_getElem? (i := 3) rfl))) (mvT hZ (hw _ (List.mem_of_getElem? (i := 4) rfl))) (by decide) (backOf (W := 2) (r1g l Z a0 hw [] j2 (7 : Int32) (g (7 : Int32)) h0 n0 Z0 (hg _)) hZ (hw _ (List.mem_of_getElem? (i := 4) rfl)) (hw _ (List.mem_of_getElem? (i := 3) rfl)) (by decide) (by decide)) (g := (mkF m 78 #[s0, s1, .val (.long j2), .second, s4, s5, s6, .val (.ref o7), s8, s9, s10, s11, s12, s13, s14, s15, s16, s17, s18, s19, s20, s21, s22, s23] [(.int (7 : Int32)), (.long j2), (.int (7 : Int32)), (.ref o7)])) rfl (by rw [hml]; rfl) (argsL := [(.long j2), (.int (7 : Int32))]) (rest := [(.int (7 : Int32)), (.ref o7)]) (lenOf pd_0_0 rfl) rfl (by show 2 * 0 + _ ≤ _; exact Nat.le_of_eq rfl) (hb hby at_78) (fun _ _ => ⟨rfl, e0, hcl, hsl⟩)
  dsimp only [Pt.U, Pt.locs, Pt.cells, Pt.slots] at X7 l7 y7 z7 st7 hQ7
  subst l7 y7 z7
  obtain ⟨rfl, N7q, e7⟩ := hQ7
  have N7 := Fr.app N0 N7q
  obtain ⟨T8, h8, X8, e8, W8, st8⟩ := stC X7 hx hZ e7 Ar_o7 (j := (7 : Int32)) hin81 (g := (mkF m 81 #[s0, s1, .val (.long j2), .second, s4, s5, s6, .val (.ref o7), s8, s9, s10, s11, s12, s13, s14, s15, s16, s17, s18, s19, s20, s21, s22, s23] [(.int (g (7 : Int32))), (.int (7 : Int32)), (.ref o7)])) rfl rfl (hb hby at_81)
  have N8 := Fr.snoc X8 N7 g_o7
  have K8 : Keep h0 h8 [o7] := (Keep.refl h0 [o7]).wr W8 (Or.inl (List.mem_of_getElem? (i := 0) rfl))
  refine ⟨T8, _, X8, N8, by rw [e8]; exact K8, by rw [e8]; exact Arv.set Ar_o7 q7 S7 M7 H7 G7 (fits_nar_char _) W8 7 rfl hvs, fun target kt => ?_⟩
  show Steps p.tables e below (T0.setTop (mkF m 71 #[s0, s1, .val (.long j2), .second, s4, s5, s6, .val (.ref o7), s8, s9, s10, s11, s12, s13, s14, s15, s16, s17, s18, s19, s20, s21, s22, s23] [])) _
  refine XS.aload X0.here hx rfl (hb hby at_71) rfl rfl ?_
  show Steps p.tables e below (T0.setTop (mkF m 73 #[s0, s1, .val (.long j2), .second, s4, s5, s6, .val (.ref o7), s8, s9, s10, s11, s12, s13, s14, s15, s16, s17, s18, s19, s20, s21, s22, s23] [(.ref o7)])) _
  refine XS.bipush X0.here hx rfl (hb hby at_73) ?_
  show Steps p.tables e below (T0.setTop (mkF m 75 #[s0, s1, .val (.long j2), .second, s4, s5, s6, .val (.ref o7), s8, s9, s10, s11, s12, s13, s14, s15, s16, s17, s18, s19, s20, s21, s22, s23] [(.int (7 : Int32)), (.ref o7)])) _
  refine XS.lloadN X0.here hx rfl (hb hby at_75) rfl ?_
  show Steps p.tables e below (T0.setTop (mkF m 76 #[s0, s1, .val (.long j2), .second, s4, s5, s6, .val (.ref o7), s8, s9, s10, s11, s12, s13, s14, s15, s16, s17, s18, s19, s20, s21, s22, s23] [(.long j2), (.int (7 : Int32)), (.ref o7)])) _
  refine XS.bipush X0.here hx rfl (hb hby at_76) ?_
  show Steps p.tables e below (T0.setTop (mkF m 78 #[s0, s1, .val (.long j2), .second, s4, s5, s6, .val (.ref o7), s8, s9, s10, s11, s12, s13, s14, s15, s16, s17, s18, s19, s20, s21, s22, s23] [(.int (7 : Int32)), (.long j2), (.int (7 : Int32)), (.ref o7)])) _
  refine st7 _ ?_
  show Steps p.tables e below (T7.setTop (mkF m 81 #[s0, s1, .val (.long j2), .second, s4, s5, s6, .val (.ref o7), s8, s9, s10, s11, s12, s13, s14, s15, s16, s17, s18, s19, s20, s21, s22, s23] [(.int (g (7 : Int32))), (.int (7 : Int32)), (.ref o7)])) _
  refine st8 _ ?_
  exact kt
set_option maxRecDepth 65536 in
set_option maxHeartbeats 40000000 in
theorem own_A8 {p : Program} {l : Launch} {e : Env} {s : State} {m : MethodId} {args : Array Value} {below : List Frame} {meth : Method} {c : Code} {T0 : State} {locs : List Loc} {cells slots : Nat} {Z : State} {a0 : Array Value} {h0 : Heap} (s0 : Slot) (s1 : Slot) (j2 : Int64) (s4 : Slot) (s5 : Slot) (s6 : Slot) (o7 : Addr) (s8 : Slot) (s9 : Slot) (s10 : Slot) (s11 : Slot) (s12 : Slot) (s13 : Slot) (s14 : Slot) (s15 : Slot) (s16 : Slot) (s17 : Slot) (s18 : Slot) (s19 : Slot) (s20 : Slot) (s21 : Slot) (s22 : Slot) (s23 : Slot) (g : Int32 → Int32) (kA : ClassId) (vs : List Value) (n0 : Nat)
    (X0 : Stand p l e room_1 s m args below meth c T0 locs cells slots) (hx : p.tables.exec = Jvm.exec) (hZ : Z.Warmed39 s.vm) (hw : ∀ d ∈ tables_1, d.before a0 Z = true) (hby : c.code = code) (hml : c.maxLocals = 24) (hown : s.vm.findClass "com/example/bandmark/bandmark/PlainDecimalIsCompactPinLaw" = some m.cls) (e0 : T0.heap = h0) (hg : ∀ k, own_dg j2 k = g k) (V : Arv Z h0 o7 kA .char (22 : Int32) vs (.int (0 : Int32))) (hvs : 8 < vs.length) (Z0 : n0 ≤ h0.size) (N0 : Fr n0 locs) (hcl : cells ≤ room_1.cells) (hsl : slots ≤ room_1.slots) (g_o7 : n0 ≤ o7) :
    ∃ (T' : State) (locs' : List Loc), Stand p l e room_1 s m args below meth c T' locs' cells slots ∧ Fr n0 locs' ∧ Keep h0 T'.heap [o7] ∧ Arv Z T'.heap o7 kA .char (22 : Int32) (vs.set 8 (.int (nar .char (g (8 : Int32))))) (.int (0 : Int32)) ∧
      ∀ target, Steps p.tables e below (T'.setTop (mkF m 93 #[s0, s1, .val (.long j2), .second, s4, s5, s6, .val (.ref o7), s8, s9, s10, s11, s12, s13, s14, s15, s16, s17, s18, s19, s20, s21, s22, s23] [])) target → Steps p.tables e below (T0.setTop (mkF m 82 #[s0, s1, .val (.long j2), .second, s4, s5, s6, .val (.ref o7), s8, s9, s10, s11, s12, s13, s14, s15, s16, s17, s18, s19, s20, s21, s22, s23] [])) target := by
  obtain ⟨cl_o7, Ar_o7, q7, S7, M7, H7, G7⟩ := V
  have hin92 : ¬ ((8 : Int32) < 0 ∨ cl_o7.slots.size ≤ ((8 : Int32)).toNatClampNeg) := inb_of S7 ⟨by decide, by decide⟩
  obtain ⟨_, _, ⟨T7, L7, k7, n7⟩, -, X7, ⟨Lc7, hQ7, l7, y7, z7⟩, st7⟩ := Jvm.LawKit.callS X0 hx (y := (⟨"com/example/bandmark/bandmark/PlainDecimalIsCompactPinLaw", "dg", "(JI)C"⟩ : MethodName)) hown (mvT hZ (hw _ (List.mem_of_getElem? (i := 1) rfl))) (mvT hZ (hw _ (List.mem_of_getElem? (i := 2) rfl))) (mvT hZ (hw _ (List.mem_of_getElem? (i := 3) rfl))) (mvT hZ (hw _ (List.mem_of_getElem? (i := 4) rfl))) (by decide) (backOf (W := 2) (r1g l Z a0 hw [] j2 (8 : Int32) (g (8 : Int32)) h0 n0 Z0 (hg _)) hZ (hw _ (List.mem_of_getElem? (i := 4) rfl)) (hw _ (List.mem_of_getElem? (i := 3) rfl)) (by decide) (by decide)) (g := (mkF m 89 #[s0, s1, .val (.long j2), .second, s4, s5, s6, .val (.ref o7), s8, s9, s10, s11, s12, s13, s14, s15, s16, s17, s18, s19, s20, s21, s22, s23] [(.int (8 : Int32)), (.long j2), (.int (8 : Int32)), (.ref o7)])) rfl (by rw [hml]; rfl) (argsL := [(.long j2), (.int (8 : Int32))]) (rest := [(.int (8 : Int32)), (.ref o7)]) (lenOf pd_0_0 rfl) rfl (by show 2 * 0 + _ ≤ _; exact Nat.le_of_eq rfl) (hb hby at_89) (fun _ _ => ⟨rfl, e0, hcl, hsl⟩)
  dsimp only [Pt.U, Pt.locs, Pt.cells, Pt.slots] at X7 l7 y7 z7 st7 hQ7
  subst l7 y7 z7
  obtain ⟨rfl, N7q, e7⟩ := hQ7
  have N7 := Fr.app N0 N7q
  obtain ⟨T8, h8, X8, e8, W8, st8⟩ := stC X7 hx hZ e7 Ar_o7 (j := (8 : Int32)) hin92 (g := (mkF m 92 #[s0, s1, .val (.long j2), .second, s4, s5, s6, .val (.ref o7), s8, s9, s10, s11, s12, s13, s14, s15, s16, s17, s18, s19, s20, s21, s22, s23] [(.int (g (8 : Int32))), (.int (8 : Int32)), (.ref o7)])) rfl rfl (hb hby at_92)
  have N8 := Fr.snoc X8 N7 g_o7
  have K8 : Keep h0 h8 [o7] := (Keep.refl h0 [o7]).wr W8 (Or.inl (List.mem_of_getElem? (i := 0) rfl))
  refine ⟨T8, _, X8, N8, by rw [e8]; exact K8, by rw [e8]; exact Arv.set Ar_o7 q7 S7 M7 H7 G7 (fits_nar_char _) W8 8 rfl hvs, fun target kt => ?_⟩
  show Steps p.tables e below (T0.setTop (mkF m 82 #[s0, s1, .val (.long j2), .second, s4, s5, s6, .val (.ref o7), s8, s9, s10, s11, s12, s13, s14, s15, s16, s17, s18, s19, s20, s21, s22, s23] [])) _
  refine XS.aload X0.here hx rfl (hb hby at_82) rfl rfl ?_
  show Steps p.tables e below (T0.setTop (mkF m 84 #[s0, s1, .val (.long j2), .second, s4, s5, s6, .val (.ref o7), s8, s9, s10, s11, s12, s13, s14, s15, s16, s17, s18, s19, s20, s21, s22, s23] [(.ref o7)])) _
  refine XS.bipush X0.here hx rfl (hb hby at_84) ?_
  show Steps p.tables e below (T0.setTop (mkF m 86 #[s0, s1, .val (.long j2), .second, s4, s5, s6, .val (.ref o7), s8, s9, s10, s11, s12, s13, s14, s15, s16, s17, s18, s19, s20, s21, s22, s23] [(.int (8 : Int32)), (.ref o7)])) _
  refine XS.lloadN X0.here hx rfl (hb hby at_86) rfl ?_
  show Steps p.tables e below (T0.setTop (mkF m 87 #[s0, s1, .val (.long j2), .second, s4, s5, s6, .val (.ref o7), s8, s9, s10, s11, s12, s13, s14, s15, s16, s17, s18, s19, s20, s21, s22, s23] [(.long j2), (.int (8 : Int32)), (.ref o7)])) _
  refine XS.bipush X0.here hx rfl (hb hby at_87) ?_
  show Steps p.tables e below (T0.setTop (mkF m 89 #[s0, s1, .val (.long j2), .second, s4, s5, s6, .val (.ref o7), s8, s9, s10, s11, s12, s13, s14, s15, s16, s17, s18, s19, s20, s21, s22, s23] [(.int (8 : Int32)), (.long j2), (.int (8 : Int32)), (.ref o7)])) _
  refine st7 _ ?_
  show Steps p.tables e below (T7.setTop (mkF m 92 #[s0, s1, .val (.long j2), .second, s4, s5, s6, .val (.ref o7), s8, s9, s10, s11, s12, s13, s14, s15, s16, s17, s18, s19, s20, s21, s22, s23] [(.int (g (8 : Int32))), (.int (8 : Int32)), (.ref o7)])) _
  refine st8 _ ?_
  exact kt
set_option maxRecDepth 65536 in
set_option maxHeartbeats 40000000 in
theorem own_A9 {p : Program} {l : Launch} {e : Env} {s : State} {m : MethodId} {args : Array Value} {below : List Frame} {meth : Method} {c : Code} {T0 : State} {locs : List Loc} {cells slots : Nat} {Z : State} {a0 : Array Value} {h0 : Heap} (s0 : Slot) (s1 : Slot) (j2 : Int64) (s4 : Slot) (s5 : Slot) (s6 : Slot) (o7 : Addr) (s8 : Slot) (s9 : Slot) (s10 : Slot) (s11 : Slot) (s12 : Slot) (s13 : Slot) (s14 : Slot) (s15 : Slot) (s16 : Slot) (s17 : Slot) (s18 : Slot) (s19 : Slot) (s20 : Slot) (s21 : Slot) (s22 : Slot) (s23 : Slot) (g : Int32 → Int32) (kA : ClassId) (vs : List Value) (n0 : Nat)
    (X0 : Stand p l e room_1 s m args below meth c T0 locs cells slots) (hx : p.tables.exec = Jvm.exec) (hZ : Z.Warmed39 s.vm) (hw : ∀ d ∈ tables_1, d.before a0 Z = true) (hby : c.code = code) (hml : c.maxLocals = 24) (hown : s.vm.findClass "com/example/bandmark/bandmark/PlainDecimalIsCompactPinLaw" = some m.cls) (e0 : T0.heap = h0) (hg : ∀ k, own_dg j2 k = g k) (V : Arv Z h0 o7 kA .char (22 : Int32) vs (.int (0 : Int32))) (hvs : 9 < vs.length) (Z0 : n0 ≤ h0.size) (N0 : Fr n0 locs) (hcl : cells ≤ room_1.cells) (hsl : slots ≤ room_1.slots) (g_o7 : n0 ≤ o7) :
    ∃ (T' : State) (locs' : List Loc), Stand p l e room_1 s m args below meth c T' locs' cells slots ∧ Fr n0 locs' ∧ Keep h0 T'.heap [o7] ∧ Arv Z T'.heap o7 kA .char (22 : Int32) (vs.set 9 (.int (nar .char (g (9 : Int32))))) (.int (0 : Int32)) ∧
      ∀ target, Steps p.tables e below (T'.setTop (mkF m 104 #[s0, s1, .val (.long j2), .second, s4, s5, s6, .val (.ref o7), s8, s9, s10, s11, s12, s13, s14, s15, s16, s17, s18, s19, s20, s21, s22, s23] [])) target → Steps p.tables e below (T0.setTop (mkF m 93 #[s0, s1, .val (.long j2), .second, s4, s5, s6, .val (.ref o7), s8, s9, s10, s11, s12, s13, s14, s15, s16, s17, s18, s19, s20, s21, s22, s23] [])) target := by
  obtain ⟨cl_o7, Ar_o7, q7, S7, M7, H7, G7⟩ := V
  have hin103 : ¬ ((9 : Int32) < 0 ∨ cl_o7.slots.size ≤ ((9 : Int32)).toNatClampNeg) := inb_of S7 ⟨by decide, by decide⟩
  obtain ⟨_, _, ⟨T7, L7, k7, n7⟩, -, X7, ⟨Lc7, hQ7, l7, y7, z7⟩, st7⟩ := Jvm.LawKit.callS X0 hx (y := (⟨"com/example/bandmark/bandmark/PlainDecimalIsCompactPinLaw", "dg", "(JI)C"⟩ : MethodName)) hown (mvT hZ (hw _ (List.mem_of_getElem? (i := 1) rfl))) (mvT hZ (hw _ (List.mem_of_getElem? (i := 2) rfl))) (mvT hZ (hw _ (List.mem_of_getElem? (i := 3) rfl))) (mvT hZ (hw _ (List.mem_of_getElem? (i := 4) rfl))) (by decide) (backOf (W := 2) (r1g l Z a0 hw [] j2 (9 : Int32) (g (9 : Int32)) h0 n0 Z0 (hg _)) hZ (hw _ (List.mem_of_getElem? (i := 4) rfl)) (hw _ (List.mem_of_getElem? (i := 3) rfl)) (by decide) (by decide)) (g := (mkF m 100 #[s0, s1, .val (.long j2), .second, s4, s5, s6, .val (.ref o7), s8, s9, s10, s11, s12, s13, s14, s15, s16, s17, s18, s19, s20, s21, s22, s23] [(.int (9 : Int32)), (.long j2), (.int (9 : Int32)), (.ref o7)])) rfl (by rw [hml]; rfl) (argsL := [(.long j2), (.int (9 : Int32))]) (rest := [(.int (9 : Int32)), (.ref o7)]) (lenOf pd_0_0 rfl) rfl (by show 2 * 0 + _ ≤ _; exact Nat.le_of_eq rfl) (hb hby at_100) (fun _ _ => ⟨rfl, e0, hcl, hsl⟩)
  dsimp only [Pt.U, Pt.locs, Pt.cells, Pt.slots] at X7 l7 y7 z7 st7 hQ7
  subst l7 y7 z7
  obtain ⟨rfl, N7q, e7⟩ := hQ7
  have N7 := Fr.app N0 N7q
  obtain ⟨T8, h8, X8, e8, W8, st8⟩ := stC X7 hx hZ e7 Ar_o7 (j := (9 : Int32)) hin103 (g := (mkF m 103 #[s0, s1, .val (.long j2), .second, s4, s5, s6, .val (.ref o7), s8, s9, s10, s11, s12, s13, s14, s15, s16, s17, s18, s19, s20, s21, s22, s23] [(.int (g (9 : Int32))), (.int (9 : Int32)), (.ref o7)])) rfl rfl (hb hby at_103)
  have N8 := Fr.snoc X8 N7 g_o7
  have K8 : Keep h0 h8 [o7] := (Keep.refl h0 [o7]).wr W8 (Or.inl (List.mem_of_getElem? (i := 0) rfl))
  refine ⟨T8, _, X8, N8, by rw [e8]; exact K8, by rw [e8]; exact Arv.set Ar_o7 q7 S7 M7 H7 G7 (fits_nar_char _) W8 9 rfl hvs, fun target kt => ?_⟩
  show Steps p.tables e below (T0.setTop (mkF m 93 #[s0, s1, .val (.long j2), .second, s4, s5, s6, .val (.ref o7), s8, s9, s10, s11, s12, s13, s14, s15, s16, s17, s18, s19, s20, s21, s22, s23] [])) _
  refine XS.aload X0.here hx rfl (hb hby at_93) rfl rfl ?_
  show Steps p.tables e below (T0.setTop (mkF m 95 #[s0, s1, .val (.long j2), .second, s4, s5, s6, .val (.ref o7), s8, s9, s10, s11, s12, s13, s14, s15, s16, s17, s18, s19, s20, s21, s22, s23] [(.ref o7)])) _
  refine XS.bipush X0.here hx rfl (hb hby at_95) ?_
  show Steps p.tables e below (T0.setTop (mkF m 97 #[s0, s1, .val (.long j2), .second, s4, s5, s6, .val (.ref o7), s8, s9, s10, s11, s12, s13, s14, s15, s16, s17, s18, s19, s20, s21, s22, s23] [(.int (9 : Int32)), (.ref o7)])) _
  refine XS.lloadN X0.here hx rfl (hb hby at_97) rfl ?_
  show Steps p.tables e below (T0.setTop (mkF m 98 #[s0, s1, .val (.long j2), .second, s4, s5, s6, .val (.ref o7), s8, s9, s10, s11, s12, s13, s14, s15, s16, s17, s18, s19, s20, s21, s22, s23] [(.long j2), (.int (9 : Int32)), (.ref o7)])) _
  refine XS.bipush X0.here hx rfl (hb hby at_98) ?_
  show Steps p.tables e below (T0.setTop (mkF m 100 #[s0, s1, .val (.long j2), .second, s4, s5, s6, .val (.ref o7), s8, s9, s10, s11, s12, s13, s14, s15, s16, s17, s18, s19, s20, s21, s22, s23] [(.int (9 : Int32)), (.long j2), (.int (9 : Int32)), (.ref o7)])) _
  refine st7 _ ?_
  show Steps p.tables e below (T7.setTop (mkF m 103 #[s0, s1, .val (.long j2), .second, s4, s5, s6, .val (.ref o7), s8, s9, s10, s11, s12, s13, s14, s15, s16, s17, s18, s19, s20, s21, s22, s23] [(.int (g (9 : Int32))), (.int (9 : Int32)), (.ref o7)])) _
  refine st8 _ ?_
  exact kt
set_option maxRecDepth 65536 in
set_option maxHeartbeats 40000000 in
theorem own_A10 {p : Program} {l : Launch} {e : Env} {s : State} {m : MethodId} {args : Array Value} {below : List Frame} {meth : Method} {c : Code} {T0 : State} {locs : List Loc} {cells slots : Nat} {Z : State} {a0 : Array Value} {h0 : Heap} (s0 : Slot) (s1 : Slot) (j2 : Int64) (s4 : Slot) (s5 : Slot) (s6 : Slot) (o7 : Addr) (s8 : Slot) (s9 : Slot) (s10 : Slot) (s11 : Slot) (s12 : Slot) (s13 : Slot) (s14 : Slot) (s15 : Slot) (s16 : Slot) (s17 : Slot) (s18 : Slot) (s19 : Slot) (s20 : Slot) (s21 : Slot) (s22 : Slot) (s23 : Slot) (g : Int32 → Int32) (kA : ClassId) (vs : List Value) (n0 : Nat)
    (X0 : Stand p l e room_1 s m args below meth c T0 locs cells slots) (hx : p.tables.exec = Jvm.exec) (hZ : Z.Warmed39 s.vm) (hw : ∀ d ∈ tables_1, d.before a0 Z = true) (hby : c.code = code) (hml : c.maxLocals = 24) (hown : s.vm.findClass "com/example/bandmark/bandmark/PlainDecimalIsCompactPinLaw" = some m.cls) (e0 : T0.heap = h0) (hg : ∀ k, own_dg j2 k = g k) (V : Arv Z h0 o7 kA .char (22 : Int32) vs (.int (0 : Int32))) (hvs : 10 < vs.length) (Z0 : n0 ≤ h0.size) (N0 : Fr n0 locs) (hcl : cells ≤ room_1.cells) (hsl : slots ≤ room_1.slots) (g_o7 : n0 ≤ o7) :
    ∃ (T' : State) (locs' : List Loc), Stand p l e room_1 s m args below meth c T' locs' cells slots ∧ Fr n0 locs' ∧ Keep h0 T'.heap [o7] ∧ Arv Z T'.heap o7 kA .char (22 : Int32) (vs.set 10 (.int (nar .char (g (10 : Int32))))) (.int (0 : Int32)) ∧
      ∀ target, Steps p.tables e below (T'.setTop (mkF m 115 #[s0, s1, .val (.long j2), .second, s4, s5, s6, .val (.ref o7), s8, s9, s10, s11, s12, s13, s14, s15, s16, s17, s18, s19, s20, s21, s22, s23] [])) target → Steps p.tables e below (T0.setTop (mkF m 104 #[s0, s1, .val (.long j2), .second, s4, s5, s6, .val (.ref o7), s8, s9, s10, s11, s12, s13, s14, s15, s16, s17, s18, s19, s20, s21, s22, s23] [])) target := by
  obtain ⟨cl_o7, Ar_o7, q7, S7, M7, H7, G7⟩ := V
  have hin114 : ¬ ((10 : Int32) < 0 ∨ cl_o7.slots.size ≤ ((10 : Int32)).toNatClampNeg) := inb_of S7 ⟨by decide, by decide⟩
  obtain ⟨_, _, ⟨T7, L7, k7, n7⟩, -, X7, ⟨Lc7, hQ7, l7, y7, z7⟩, st7⟩ := Jvm.LawKit.callS X0 hx (y := (⟨"com/example/bandmark/bandmark/PlainDecimalIsCompactPinLaw", "dg", "(JI)C"⟩ : MethodName)) hown (mvT hZ (hw _ (List.mem_of_getElem? (i := 1) rfl))) (mvT hZ (hw _ (List.mem_of_getElem? (i := 2) rfl))) (mvT hZ (hw _ (List.mem_of_getElem? (i := 3) rfl))) (mvT hZ (hw _ (List.mem_of_getElem? (i := 4) rfl))) (by decide) (backOf (W := 2) (r1g l Z a0 hw [] j2 (10 : Int32) (g (10 : Int32)) h0 n0 Z0 (hg _)) hZ (hw _ (List.mem_of_getElem? (i := 4) rfl)) (hw _ (List.mem_of_getElem? (i := 3) rfl)) (by decide) (by decide)) (g := (mkF m 111 #[s0, s1, .val (.long j2), .second, s4, s5, s6, .val (.ref o7), s8, s9, s10, s11, s12, s13, s14, s15, s16, s17, s18, s19, s20, s21, s22, s23] [(.int (10 : Int32)), (.long j2), (.int (10 : Int32)), (.ref o7)])) rfl (by rw [hml]; rfl) (argsL := [(.long j2), (.int (10 : Int32))]) (rest := [(.int (10 : Int32)), (.ref o7)]) (lenOf pd_0_0 rfl) rfl (by show 2 * 0 + _ ≤ _; exact Nat.le_of_eq rfl) (hb hby at_111) (fun _ _ => ⟨rfl, e0, hcl, hsl⟩)
  dsimp only [Pt.U, Pt.locs, Pt.cells, Pt.slots] at X7 l7 y7 z7 st7 hQ7
  subst l7 y7 z7
  obtain ⟨rfl, N7q, e7⟩ := hQ7
  have N7 := Fr.app N0 N7q
  obtain ⟨T8, h8, X8, e8, W8, st8⟩ := stC X7 hx hZ e7 Ar_o7 (j := (10 : Int32)) hin114 (g := (mkF m 114 #[s0, s1, .val (.long j2), .second, s4, s5, s6, .val (.ref o7), s8, s9, s10, s11, s12, s13, s14, s15, s16, s17, s18, s19, s20, s21, s22, s23] [(.int (g (10 : Int32))), (.int (10 : Int32)), (.ref o7)])) rfl rfl (hb hby at_114)
  have N8 := Fr.snoc X8 N7 g_o7
  have K8 : Keep h0 h8 [o7] := (Keep.refl h0 [o7]).wr W8 (Or.inl (List.mem_of_getElem? (i := 0) rfl))
  refine ⟨T8, _, X8, N8, by rw [e8]; exact K8, by rw [e8]; exact Arv.set Ar_o7 q7 S7 M7 H7 G7 (fits_nar_char _) W8 10 rfl hvs, fun target kt => ?_⟩
  show Steps p.tables e below (T0.setTop (mkF m 104 #[s0, s1, .val (.long j2), .second, s4, s5, s6, .val (.ref o7), s8, s9, s10, s11, s12, s13, s14, s15, s16, s17, s18, s19, s20, s21, s22, s23] [])) _
  refine XS.aload X0.here hx rfl (hb hby at_104) rfl rfl ?_
  show Steps p.tables e below (T0.setTop (mkF m 106 #[s0, s1, .val (.long j2), .second, s4, s5, s6, .val (.ref o7), s8, s9, s10, s11, s12, s13, s14, s15, s16, s17, s18, s19, s20, s21, s22, s23] [(.ref o7)])) _
  refine XS.bipush X0.here hx rfl (hb hby at_106) ?_
  show Steps p.tables e below (T0.setTop (mkF m 108 #[s0, s1, .val (.long j2), .second, s4, s5, s6, .val (.ref o7), s8, s9, s10, s11, s12, s13, s14, s15, s16, s17, s18, s19, s20, s21, s22, s23] [(.int (10 : Int32)), (.ref o7)])) _
  refine XS.lloadN X0.here hx rfl (hb hby at_108) rfl ?_
  show Steps p.tables e below (T0.setTop (mkF m 109 #[s0, s1, .val (.long j2), .second, s4, s5, s6, .val (.ref o7), s8, s9, s10, s11, s12, s13, s14, s15, s16, s17, s18, s19, s20, s21, s22, s23] [(.long j2), (.int (10 : Int32)), (.ref o7)])) _
  refine XS.bipush X0.here hx rfl (hb hby at_109) ?_
  show Steps p.tables e below (T0.setTop (mkF m 111 #[s0, s1, .val (.long j2), .second, s4, s5, s6, .val (.ref o7), s8, s9, s10, s11, s12, s13, s14, s15, s16, s17, s18, s19, s20, s21, s22, s23] [(.int (10 : Int32)), (.long j2), (.int (10 : Int32)), (.ref o7)])) _
  refine st7 _ ?_
  show Steps p.tables e below (T7.setTop (mkF m 114 #[s0, s1, .val (.long j2), .second, s4, s5, s6, .val (.ref o7), s8, s9, s10, s11, s12, s13, s14, s15, s16, s17, s18, s19, s20, s21, s22, s23] [(.int (g (10 : Int32))), (.int (10 : Int32)), (.ref o7)])) _
  refine st8 _ ?_
  exact kt
set_option maxRecDepth 65536 in
set_option maxHeartbeats 40000000 in
theorem own_A11 {p : Program} {l : Launch} {e : Env} {s : State} {m : MethodId} {args : Array Value} {below : List Frame} {meth : Method} {c : Code} {T0 : State} {locs : List Loc} {cells slots : Nat} {Z : State} {a0 : Array Value} {h0 : Heap} (s0 : Slot) (s1 : Slot) (j2 : Int64) (s4 : Slot) (s5 : Slot) (s6 : Slot) (o7 : Addr) (s8 : Slot) (s9 : Slot) (s10 : Slot) (s11 : Slot) (s12 : Slot) (s13 : Slot) (s14 : Slot) (s15 : Slot) (s16 : Slot) (s17 : Slot) (s18 : Slot) (s19 : Slot) (s20 : Slot) (s21 : Slot) (s22 : Slot) (s23 : Slot) (g : Int32 → Int32) (kA : ClassId) (vs : List Value) (n0 : Nat)
    (X0 : Stand p l e room_1 s m args below meth c T0 locs cells slots) (hx : p.tables.exec = Jvm.exec) (hZ : Z.Warmed39 s.vm) (hw : ∀ d ∈ tables_1, d.before a0 Z = true) (hby : c.code = code) (hml : c.maxLocals = 24) (hown : s.vm.findClass "com/example/bandmark/bandmark/PlainDecimalIsCompactPinLaw" = some m.cls) (e0 : T0.heap = h0) (hg : ∀ k, own_dg j2 k = g k) (V : Arv Z h0 o7 kA .char (22 : Int32) vs (.int (0 : Int32))) (hvs : 11 < vs.length) (Z0 : n0 ≤ h0.size) (N0 : Fr n0 locs) (hcl : cells ≤ room_1.cells) (hsl : slots ≤ room_1.slots) (g_o7 : n0 ≤ o7) :
    ∃ (T' : State) (locs' : List Loc), Stand p l e room_1 s m args below meth c T' locs' cells slots ∧ Fr n0 locs' ∧ Keep h0 T'.heap [o7] ∧ Arv Z T'.heap o7 kA .char (22 : Int32) (vs.set 11 (.int (nar .char (g (11 : Int32))))) (.int (0 : Int32)) ∧
      ∀ target, Steps p.tables e below (T'.setTop (mkF m 126 #[s0, s1, .val (.long j2), .second, s4, s5, s6, .val (.ref o7), s8, s9, s10, s11, s12, s13, s14, s15, s16, s17, s18, s19, s20, s21, s22, s23] [])) target → Steps p.tables e below (T0.setTop (mkF m 115 #[s0, s1, .val (.long j2), .second, s4, s5, s6, .val (.ref o7), s8, s9, s10, s11, s12, s13, s14, s15, s16, s17, s18, s19, s20, s21, s22, s23] [])) target := by
  obtain ⟨cl_o7, Ar_o7, q7, S7, M7, H7, G7⟩ := V
  have hin125 : ¬ ((11 : Int32) < 0 ∨ cl_o7.slots.size ≤ ((11 : Int32)).toNatClampNeg) := inb_of S7 ⟨by decide, by decide⟩
  obtain ⟨_, _, ⟨T7, L7, k7, n7⟩, -, X7, ⟨Lc7, hQ7, l7, y7, z7⟩, st7⟩ := Jvm.LawKit.callS X0 hx (y := (⟨"com/example/bandmark/bandmark/PlainDecimalIsCompactPinLaw", "dg", "(JI)C"⟩ : MethodName)) hown (mvT hZ (hw _ (List.mem_of_getElem? (i := 1) rfl))) (mvT hZ (hw _ (List.mem_of_getElem? (i := 2) rfl))) (mvT hZ (hw _ (List.mem_of_getElem? (i := 3) rfl))) (mvT hZ (hw _ (List.mem_of_getElem? (i := 4) rfl))) (by decide) (backOf (W := 2) (r1g l Z a0 hw [] j2 (11 : Int32) (g (11 : Int32)) h0 n0 Z0 (hg _)) hZ (hw _ (List.mem_of_getElem? (i := 4) rfl)) (hw _ (List.mem_of_getElem? (i := 3) rfl)) (by decide) (by decide)) (g := (mkF m 122 #[s0, s1, .val (.long j2), .second, s4, s5, s6, .val (.ref o7), s8, s9, s10, s11, s12, s13, s14, s15, s16, s17, s18, s19, s20, s21, s22, s23] [(.int (11 : Int32)), (.long j2), (.int (11 : Int32)), (.ref o7)])) rfl (by rw [hml]; rfl) (argsL := [(.long j2), (.int (11 : Int32))]) (rest := [(.int (11 : Int32)), (.ref o7)]) (lenOf pd_0_0 rfl) rfl (by show 2 * 0 + _ ≤ _; exact Nat.le_of_eq rfl) (hb hby at_122) (fun _ _ => ⟨rfl, e0, hcl, hsl⟩)
  dsimp only [Pt.U, Pt.locs, Pt.cells, Pt.slots] at X7 l7 y7 z7 st7 hQ7
  subst l7 y7 z7
  obtain ⟨rfl, N7q, e7⟩ := hQ7
  have N7 := Fr.app N0 N7q
  obtain ⟨T8, h8, X8, e8, W8, st8⟩ := stC X7 hx hZ e7 Ar_o7 (j := (11 : Int32)) hin125 (g := (mkF m 125 #[s0, s1, .val (.long j2), .second, s4, s5, s6, .val (.ref o7), s8, s9, s10, s11, s12, s13, s14, s15, s16, s17, s18, s19, s20, s21, s22, s23] [(.int (g (11 : Int32))), (.int (11 : Int32)), (.ref o7)])) rfl rfl (hb hby at_125)
  have N8 := Fr.snoc X8 N7 g_o7
  have K8 : Keep h0 h8 [o7] := (Keep.refl h0 [o7]).wr W8 (Or.inl (List.mem_of_getElem? (i := 0) rfl))
  refine ⟨T8, _, X8, N8, by rw [e8]; exact K8, by rw [e8]; exact Arv.set Ar_o7 q7 S7 M7 H7 G7 (fits_nar_char _) W8 11 rfl hvs, fun target kt => ?_⟩
  show Steps p.tables e below (T0.setTop (mkF m 115 #[s0, s1, .val (.long j2), .second, s4, s5, s6, .val (.ref o7), s8, s9, s10, s11, s12, s13, s14, s15, s16, s17, s18, s19, s20, s21, s22, s23] [])) _
  refine XS.aload X0.here hx rfl (hb hby at_115) rfl rfl ?_
  show Steps p.tables e below (T0.setTop (mkF m 117 #[s0, s1, .val (.long j2), .second, s4, s5, s6, .val (.ref o7), s8, s9, s10, s11, s12, s13, s14, s15, s16, s17, s18, s19, s20, s21, s22, s23] [(.ref o7)])) _
  refine XS.bipush X0.here hx rfl (hb hby at_117) ?_
  show Steps p.tables e below (T0.setTop (mkF m 119 #[s0, s1, .val (.long j2), .second, s4, s5, s6, .val (.ref o7), s8, s9, s10, s11, s12, s13, s14, s15, s16, s17, s18, s19, s20, s21, s22, s23] [(.int (11 : Int32)), (.ref o7)])) _
  refine XS.lloadN X0.here hx rfl (hb hby at_119) rfl ?_
  show Steps p.tables e below (T0.setTop (mkF m 120 #[s0, s1, .val (.long j2), .second, s4, s5, s6, .val (.ref o7), s8, s9, s10, s11, s12, s13, s14, s15, s16, s17, s18, s19, s20, s21, s22, s23] [(.long j2), (.int (11 : Int32)), (.ref o7)])) _
  refine XS.bipush X0.here hx rfl (hb hby at_120) ?_
  show Steps p.tables e below (T0.setTop (mkF m 122 #[s0, s1, .val (.long j2), .second, s4, s5, s6, .val (.ref o7), s8, s9, s10, s11, s12, s13, s14, s15, s16, s17, s18, s19, s20, s21, s22, s23] [(.int (11 : Int32)), (.long j2), (.int (11 : Int32)), (.ref o7)])) _
  refine st7 _ ?_
  show Steps p.tables e below (T7.setTop (mkF m 125 #[s0, s1, .val (.long j2), .second, s4, s5, s6, .val (.ref o7), s8, s9, s10, s11, s12, s13, s14, s15, s16, s17, s18, s19, s20, s21, s22, s23] [(.int (g (11 : Int32))), (.int (11 : Int32)), (.ref o7)])) _
  refine st8 _ ?_
  exact kt
set_option maxRecDepth 65536 in
set_option maxHeartbeats 40000000 in
theorem own_A12 {p : Program} {l : Launch} {e : Env} {s : State} {m : MethodId} {args : Array Value} {below : List Frame} {meth : Method} {c : Code} {T0 : State} {locs : List Loc} {cells slots : Nat} {Z : State} {a0 : Array Value} {h0 : Heap} (s0 : Slot) (s1 : Slot) (j2 : Int64) (s4 : Slot) (s5 : Slot) (s6 : Slot) (o7 : Addr) (s8 : Slot) (s9 : Slot) (s10 : Slot) (s11 : Slot) (s12 : Slot) (s13 : Slot) (s14 : Slot) (s15 : Slot) (s16 : Slot) (s17 : Slot) (s18 : Slot) (s19 : Slot) (s20 : Slot) (s21 : Slot) (s22 : Slot) (s23 : Slot) (g : Int32 → Int32) (kA : ClassId) (vs : List Value) (n0 : Nat)
    (X0 : Stand p l e room_1 s m args below meth c T0 locs cells slots) (hx : p.tables.exec = Jvm.exec) (hZ : Z.Warmed39 s.vm) (hw : ∀ d ∈ tables_1, d.before a0 Z = true) (hby : c.code = code) (hml : c.maxLocals = 24) (hown : s.vm.findClass "com/example/bandmark/bandmark/PlainDecimalIsCompactPinLaw" = some m.cls) (e0 : T0.heap = h0) (hg : ∀ k, own_dg j2 k = g k) (V : Arv Z h0 o7 kA .char (22 : Int32) vs (.int (0 : Int32))) (hvs : 12 < vs.length) (Z0 : n0 ≤ h0.size) (N0 : Fr n0 locs) (hcl : cells ≤ room_1.cells) (hsl : slots ≤ room_1.slots) (g_o7 : n0 ≤ o7) :
    ∃ (T' : State) (locs' : List Loc), Stand p l e room_1 s m args below meth c T' locs' cells slots ∧ Fr n0 locs' ∧ Keep h0 T'.heap [o7] ∧ Arv Z T'.heap o7 kA .char (22 : Int32) (vs.set 12 (.int (nar .char (g (12 : Int32))))) (.int (0 : Int32)) ∧
      ∀ target, Steps p.tables e below (T'.setTop (mkF m 137 #[s0, s1, .val (.long j2), .second, s4, s5, s6, .val (.ref o7), s8, s9, s10, s11, s12, s13, s14, s15, s16, s17, s18, s19, s20, s21, s22, s23] [])) target → Steps p.tables e below (T0.setTop (mkF m 126 #[s0, s1, .val (.long j2), .second, s4, s5, s6, .val (.ref o7), s8, s9, s10, s11, s12, s13, s14, s15, s16, s17, s18, s19, s20, s21, s22, s23] [])) target := by
  obtain ⟨cl_o7, Ar_o7, q7, S7, M7, H7, G7⟩ := V
  have hin136 : ¬ ((12 : Int32) < 0 ∨ cl_o7.slots.size ≤ ((12 : Int32)).toNatClampNeg) := inb_of S7 ⟨by decide, by decide⟩
  obtain ⟨_, _, ⟨T7, L7, k7, n7⟩, -, X7, ⟨Lc7, hQ7, l7, y7, z7⟩, st7⟩ := Jvm.LawKit.callS X0 hx (y := (⟨"com/example/bandmark/bandmark/PlainDecimalIsCompactPinLaw", "dg", "(JI)C"⟩ : MethodName)) hown (mvT hZ (hw _ (List.mem_of_getElem? (i := 1) rfl))) (mvT hZ (hw _ (List.mem_of_getElem? (i := 2) rfl))) (mvT hZ (hw _ (List.mem_of_getElem? (i := 3) rfl))) (mvT hZ (hw _ (List.mem_of_getElem? (i := 4) rfl))) (by decide) (backOf (W := 2) (r1g l Z a0 hw [] j2 (12 : Int32) (g (12 : Int32)) h0 n0 Z0 (hg _)) hZ (hw _ (List.mem_of_getElem? (i := 4) rfl)) (hw _ (List.mem_of_getElem? (i := 3) rfl)) (by decide) (by decide)) (g := (mkF m 133 #[s0, s1, .val (.long j2), .second, s4, s5, s6, .val (.ref o7), s8, s9, s10, s11, s12, s13, s14, s15, s16, s17, s18, s19, s20, s21, s22, s23] [(.int (12 : Int32)), (.long j2), (.int (12 : Int32)), (.ref o7)])) rfl (by rw [hml]; rfl) (argsL := [(.long j2), (.int (12 : Int32))]) (rest := [(.int (12 : Int32)), (.ref o7)]) (lenOf pd_0_0 rfl) rfl (by show 2 * 0 + _ ≤ _; exact Nat.le_of_eq rfl) (hb hby at_133) (fun _ _ => ⟨rfl, e0, hcl, hsl⟩)
  dsimp only [Pt.U, Pt.locs, Pt.cells, Pt.slots] at X7 l7 y7 z7 st7 hQ7
  subst l7 y7 z7
  obtain ⟨rfl, N7q, e7⟩ := hQ7
  have N7 := Fr.app N0 N7q
  obtain ⟨T8, h8, X8, e8, W8, st8⟩ := stC X7 hx hZ e7 Ar_o7 (j := (12 : Int32)) hin136 (g := (mkF m 136 #[s0, s1, .val (.long j2), .second, s4, s5, s6, .val (.ref o7), s8, s9, s10, s11, s12, s13, s14, s15, s16, s17, s18, s19, s20, s21, s22, s23] [(.int (g (12 : Int32))), (.int (12 : Int32)), (.ref o7)])) rfl rfl (hb hby at_136)
  have N8 := Fr.snoc X8 N7 g_o7
  have K8 : Keep h0 h8 [o7] := (Keep.refl h0 [o7]).wr W8 (Or.inl (List.mem_of_getElem? (i := 0) rfl))
  refine ⟨T8, _, X8, N8, by rw [e8]; exact K8, by rw [e8]; exact Arv.set Ar_o7 q7 S7 M7 H7 G7 (fits_nar_char _) W8 12 rfl hvs, fun target kt => ?_⟩
  show Steps p.tables e below (T0.setTop (mkF m 126 #[s0, s1, .val (.long j2), .second, s4, s5, s6, .val (.ref o7), s8, s9, s10, s11, s12, s13, s14, s15, s16, s17, s18, s19, s20, s21, s22, s23] [])) _
  refine XS.aload X0.here hx rfl (hb hby at_126) rfl rfl ?_
  show Steps p.tables e below (T0.setTop (mkF m 128 #[s0, s1, .val (.long j2), .second, s4, s5, s6, .val (.ref o7), s8, s9, s10, s11, s12, s13, s14, s15, s16, s17, s18, s19, s20, s21, s22, s23] [(.ref o7)])) _
  refine XS.bipush X0.here hx rfl (hb hby at_128) ?_
  show Steps p.tables e below (T0.setTop (mkF m 130 #[s0, s1, .val (.long j2), .second, s4, s5, s6, .val (.ref o7), s8, s9, s10, s11, s12, s13, s14, s15, s16, s17, s18, s19, s20, s21, s22, s23] [(.int (12 : Int32)), (.ref o7)])) _
  refine XS.lloadN X0.here hx rfl (hb hby at_130) rfl ?_
  show Steps p.tables e below (T0.setTop (mkF m 131 #[s0, s1, .val (.long j2), .second, s4, s5, s6, .val (.ref o7), s8, s9, s10, s11, s12, s13, s14, s15, s16, s17, s18, s19, s20, s21, s22, s23] [(.long j2), (.int (12 : Int32)), (.ref o7)])) _
  refine XS.bipush X0.here hx rfl (hb hby at_131) ?_
  show Steps p.tables e below (T0.setTop (mkF m 133 #[s0, s1, .val (.long j2), .second, s4, s5, s6, .val (.ref o7), s8, s9, s10, s11, s12, s13, s14, s15, s16, s17, s18, s19, s20, s21, s22, s23] [(.int (12 : Int32)), (.long j2), (.int (12 : Int32)), (.ref o7)])) _
  refine st7 _ ?_
  show Steps p.tables e below (T7.setTop (mkF m 136 #[s0, s1, .val (.long j2), .second, s4, s5, s6, .val (.ref o7), s8, s9, s10, s11, s12, s13, s14, s15, s16, s17, s18, s19, s20, s21, s22, s23] [(.int (g (12 : Int32))), (.int (12 : Int32)), (.ref o7)])) _
  refine st8 _ ?_
  exact kt
set_option maxRecDepth 65536 in
set_option maxHeartbeats 40000000 in
theorem own_A13 {p : Program} {l : Launch} {e : Env} {s : State} {m : MethodId} {args : Array Value} {below : List Frame} {meth : Method} {c : Code} {T0 : State} {locs : List Loc} {cells slots : Nat} {Z : State} {a0 : Array Value} {h0 : Heap} (s0 : Slot) (s1 : Slot) (j2 : Int64) (s4 : Slot) (s5 : Slot) (s6 : Slot) (o7 : Addr) (s8 : Slot) (s9 : Slot) (s10 : Slot) (s11 : Slot) (s12 : Slot) (s13 : Slot) (s14 : Slot) (s15 : Slot) (s16 : Slot) (s17 : Slot) (s18 : Slot) (s19 : Slot) (s20 : Slot) (s21 : Slot) (s22 : Slot) (s23 : Slot) (g : Int32 → Int32) (kA : ClassId) (vs : List Value) (n0 : Nat)
    (X0 : Stand p l e room_1 s m args below meth c T0 locs cells slots) (hx : p.tables.exec = Jvm.exec) (hZ : Z.Warmed39 s.vm) (hw : ∀ d ∈ tables_1, d.before a0 Z = true) (hby : c.code = code) (hml : c.maxLocals = 24) (hown : s.vm.findClass "com/example/bandmark/bandmark/PlainDecimalIsCompactPinLaw" = some m.cls) (e0 : T0.heap = h0) (hg : ∀ k, own_dg j2 k = g k) (V : Arv Z h0 o7 kA .char (22 : Int32) vs (.int (0 : Int32))) (hvs : 13 < vs.length) (Z0 : n0 ≤ h0.size) (N0 : Fr n0 locs) (hcl : cells ≤ room_1.cells) (hsl : slots ≤ room_1.slots) (g_o7 : n0 ≤ o7) :
    ∃ (T' : State) (locs' : List Loc), Stand p l e room_1 s m args below meth c T' locs' cells slots ∧ Fr n0 locs' ∧ Keep h0 T'.heap [o7] ∧ Arv Z T'.heap o7 kA .char (22 : Int32) (vs.set 13 (.int (nar .char (g (13 : Int32))))) (.int (0 : Int32)) ∧
      ∀ target, Steps p.tables e below (T'.setTop (mkF m 148 #[s0, s1, .val (.long j2), .second, s4, s5, s6, .val (.ref o7), s8, s9, s10, s11, s12, s13, s14, s15, s16, s17, s18, s19, s20, s21, s22, s23] [])) target → Steps p.tables e below (T0.setTop (mkF m 137 #[s0, s1, .val (.long j2), .second, s4, s5, s6, .val (.ref o7), s8, s9, s10, s11, s12, s13, s14, s15, s16, s17, s18, s19, s20, s21, s22, s23] [])) target := by
  obtain ⟨cl_o7, Ar_o7, q7, S7, M7, H7, G7⟩ := V
  have hin147 : ¬ ((13 : Int32) < 0 ∨ cl_o7.slots.size ≤ ((13 : Int32)).toNatClampNeg) := inb_of S7 ⟨by decide, by decide⟩
  obtain ⟨_, _, ⟨T7, L7, k7, n7⟩, -, X7, ⟨Lc7, hQ7, l7, y7, z7⟩, st7⟩ := Jvm.LawKit.callS X0 hx (y := (⟨"com/example/bandmark/bandmark/PlainDecimalIsCompactPinLaw", "dg", "(JI)C"⟩ : MethodName)) hown (mvT hZ (hw _ (List.mem_of_getElem? (i := 1) rfl))) (mvT hZ (hw _ (List.mem_of_getElem? (i := 2) rfl))) (mvT hZ (hw _ (List.mem_of_getElem? (i := 3) rfl))) (mvT hZ (hw _ (List.mem_of_getElem? (i := 4) rfl))) (by decide) (backOf (W := 2) (r1g l Z a0 hw [] j2 (13 : Int32) (g (13 : Int32)) h0 n0 Z0 (hg _)) hZ (hw _ (List.mem_of_getElem? (i := 4) rfl)) (hw _ (List.mem_of_getElem? (i := 3) rfl)) (by decide) (by decide)) (g := (mkF m 144 #[s0, s1, .val (.long j2), .second, s4, s5, s6, .val (.ref o7), s8, s9, s10, s11, s12, s13, s14, s15, s16, s17, s18, s19, s20, s21, s22, s23] [(.int (13 : Int32)), (.long j2), (.int (13 : Int32)), (.ref o7)])) rfl (by rw [hml]; rfl) (argsL := [(.long j2), (.int (13 : Int32))]) (rest := [(.int (13 : Int32)), (.ref o7)]) (lenOf pd_0_0 rfl) rfl (by show 2 * 0 + _ ≤ _; exact Nat.le_of_eq rfl) (hb hby at_144) (fun _ _ => ⟨rfl, e0, hcl, hsl⟩)
  dsimp only [Pt.U, Pt.locs, Pt.cells, Pt.slots] at X7 l7 y7 z7 st7 hQ7
  subst l7 y7 z7
  obtain ⟨rfl, N7q, e7⟩ := hQ7
  have N7 := Fr.app N0 N7q
  obtain ⟨T8, h8, X8, e8, W8, st8⟩ := stC X7 hx hZ e7 Ar_o7 (j := (13 : Int32)) hin147 (g := (mkF m 147 #[s0, s1, .val (.long j2), .second, s4, s5, s6, .val (.ref o7), s8, s9, s10, s11, s12, s13, s14, s15, s16, s17, s18, s19, s20, s21, s22, s23] [(.int (g (13 : Int32))), (.int (13 : Int32)), (.ref o7)])) rfl rfl (hb hby at_147)
  have N8 := Fr.snoc X8 N7 g_o7
  have K8 : Keep h0 h8 [o7] := (Keep.refl h0 [o7]).wr W8 (Or.inl (List.mem_of_getElem? (i := 0) rfl))
  refine ⟨T8, _, X8, N8, by rw [e8]; exact K8, by rw [e8]; exact Arv.set Ar_o7 q7 S7 M7 H7 G7 (fits_nar_char _) W8 13 rfl hvs, fun target kt => ?_⟩
  show Steps p.tables e below (T0.setTop (mkF m 137 #[s0, s1, .val (.long j2), .second, s4, s5, s6, .val (.ref o7), s8, s9, s10, s11, s12, s13, s14, s15, s16, s17, s18, s19, s20, s21, s22, s23] [])) _
  refine XS.aload X0.here hx rfl (hb hby at_137) rfl rfl ?_
  show Steps p.tables e below (T0.setTop (mkF m 139 #[s0, s1, .val (.long j2), .second, s4, s5, s6, .val (.ref o7), s8, s9, s10, s11, s12, s13, s14, s15, s16, s17, s18, s19, s20, s21, s22, s23] [(.ref o7)])) _
  refine XS.bipush X0.here hx rfl (hb hby at_139) ?_
  show Steps p.tables e below (T0.setTop (mkF m 141 #[s0, s1, .val (.long j2), .second, s4, s5, s6, .val (.ref o7), s8, s9, s10, s11, s12, s13, s14, s15, s16, s17, s18, s19, s20, s21, s22, s23] [(.int (13 : Int32)), (.ref o7)])) _
  refine XS.lloadN X0.here hx rfl (hb hby at_141) rfl ?_
  show Steps p.tables e below (T0.setTop (mkF m 142 #[s0, s1, .val (.long j2), .second, s4, s5, s6, .val (.ref o7), s8, s9, s10, s11, s12, s13, s14, s15, s16, s17, s18, s19, s20, s21, s22, s23] [(.long j2), (.int (13 : Int32)), (.ref o7)])) _
  refine XS.bipush X0.here hx rfl (hb hby at_142) ?_
  show Steps p.tables e below (T0.setTop (mkF m 144 #[s0, s1, .val (.long j2), .second, s4, s5, s6, .val (.ref o7), s8, s9, s10, s11, s12, s13, s14, s15, s16, s17, s18, s19, s20, s21, s22, s23] [(.int (13 : Int32)), (.long j2), (.int (13 : Int32)), (.ref o7)])) _
  refine st7 _ ?_
  show Steps p.tables e below (T7.setTop (mkF m 147 #[s0, s1, .val (.long j2), .second, s4, s5, s6, .val (.ref o7), s8, s9, s10, s11, s12, s13, s14, s15, s16, s17, s18, s19, s20, s21, s22, s23] [(.int (g (13 : Int32))), (.int (13 : Int32)), (.ref o7)])) _
  refine st8 _ ?_
  exact kt
set_option maxRecDepth 65536 in
set_option maxHeartbeats 40000000 in
theorem own_A14 {p : Program} {l : Launch} {e : Env} {s : State} {m : MethodId} {args : Array Value} {below : List Frame} {meth : Method} {c : Code} {T0 : State} {locs : List Loc} {cells slots : Nat} {Z : State} {a0 : Array Value} {h0 : Heap} (s0 : Slot) (s1 : Slot) (j2 : Int64) (s4 : Slot) (s5 : Slot) (s6 : Slot) (o7 : Addr) (s8 : Slot) (s9 : Slot) (s10 : Slot) (s11 : Slot) (s12 : Slot) (s13 : Slot) (s14 : Slot) (s15 : Slot) (s16 : Slot) (s17 : Slot) (s18 : Slot) (s19 : Slot) (s20 : Slot) (s21 : Slot) (s22 : Slot) (s23 : Slot) (g : Int32 → Int32) (kA : ClassId) (vs : List Value) (n0 : Nat)
    (X0 : Stand p l e room_1 s m args below meth c T0 locs cells slots) (hx : p.tables.exec = Jvm.exec) (hZ : Z.Warmed39 s.vm) (hw : ∀ d ∈ tables_1, d.before a0 Z = true) (hby : c.code = code) (hml : c.maxLocals = 24) (hown : s.vm.findClass "com/example/bandmark/bandmark/PlainDecimalIsCompactPinLaw" = some m.cls) (e0 : T0.heap = h0) (hg : ∀ k, own_dg j2 k = g k) (V : Arv Z h0 o7 kA .char (22 : Int32) vs (.int (0 : Int32))) (hvs : 14 < vs.length) (Z0 : n0 ≤ h0.size) (N0 : Fr n0 locs) (hcl : cells ≤ room_1.cells) (hsl : slots ≤ room_1.slots) (g_o7 : n0 ≤ o7) :
    ∃ (T' : State) (locs' : List Loc), Stand p l e room_1 s m args below meth c T' locs' cells slots ∧ Fr n0 locs' ∧ Keep h0 T'.heap [o7] ∧ Arv Z T'.heap o7 kA .char (22 : Int32) (vs.set 14 (.int (nar .char (g (14 : Int32))))) (.int (0 : Int32)) ∧
      ∀ target, Steps p.tables e below (T'.setTop (mkF m 159 #[s0, s1, .val (.long j2), .second, s4, s5, s6, .val (.ref o7), s8, s9, s10, s11, s12, s13, s14, s15, s16, s17, s18, s19, s20, s21, s22, s23] [])) target → Steps p.tables e below (T0.setTop (mkF m 148 #[s0, s1, .val (.long j2), .second, s4, s5, s6, .val (.ref o7), s8, s9, s10, s11, s12, s13, s14, s15, s16, s17, s18, s19, s20, s21, s22, s23] [])) target := by
  obtain ⟨cl_o7, Ar_o7, q7, S7, M7, H7, G7⟩ := V
  have hin158 : ¬ ((14 : Int32) < 0 ∨ cl_o7.slots.size ≤ ((14 : Int32)).toNatClampNeg) := inb_of S7 ⟨by decide, by decide⟩
  obtain ⟨_, _, ⟨T7, L7, k7, n7⟩, -, X7, ⟨Lc7, hQ7, l7, y7, z7⟩, st7⟩ := Jvm.LawKit.callS X0 hx (y := (⟨"com/example/bandmark/bandmark/PlainDecimalIsCompactPinLaw", "dg", "(JI)C"⟩ : MethodName)) hown (mvT hZ (hw _ (List.mem_of_getElem? (i := 1) rfl))) (mvT hZ (hw _ (List.mem_of_getElem? (i := 2) rfl))) (mvT hZ (hw _ (List.mem_of_getElem? (i := 3) rfl))) (mvT hZ (hw _ (List.mem_of_getElem? (i := 4) rfl))) (by decide) (backOf (W := 2) (r1g l Z a0 hw [] j2 (14 : Int32) (g (14 : Int32)) h0 n0 Z0 (hg _)) hZ (hw _ (List.mem_of_getElem? (i := 4) rfl)) (hw _ (List.mem_of_getElem? (i := 3) rfl)) (by decide) (by decide)) (g := (mkF m 155 #[s0, s1, .val (.long j2), .second, s4, s5, s6, .val (.ref o7), s8, s9, s10, s11, s12, s13, s14, s15, s16, s17, s18, s19, s20, s21, s22, s23] [(.int (14 : Int32)), (.long j2), (.int (14 : Int32)), (.ref o7)])) rfl (by rw [hml]; rfl) (argsL := [(.long j2), (.int (14 : Int32))]) (rest := [(.int (14 : Int32)), (.ref o7)]) (lenOf pd_0_0 rfl) rfl (by show 2 * 0 + _ ≤ _; exact Nat.le_of_eq rfl) (hb hby at_155) (fun _ _ => ⟨rfl, e0, hcl, hsl⟩)
  dsimp only [Pt.U, Pt.locs, Pt.cells, Pt.slots] at X7 l7 y7 z7 st7 hQ7
  subst l7 y7 z7
  obtain ⟨rfl, N7q, e7⟩ := hQ7
  have N7 := Fr.app N0 N7q
  obtain ⟨T8, h8, X8, e8, W8, st8⟩ := stC X7 hx hZ e7 Ar_o7 (j := (14 : Int32)) hin158 (g := (mkF m 158 #[s0, s1, .val (.long j2), .second, s4, s5, s6, .val (.ref o7), s8, s9, s10, s11, s12, s13, s14, s15, s16, s17, s18, s19, s20, s21, s22, s23] [(.int (g (14 : Int32))), (.int (14 : Int32)), (.ref o7)])) rfl rfl (hb hby at_158)
  have N8 := Fr.snoc X8 N7 g_o7
  have K8 : Keep h0 h8 [o7] := (Keep.refl h0 [o7]).wr W8 (Or.inl (List.mem_of_getElem? (i := 0) rfl))
  refine ⟨T8, _, X8, N8, by rw [e8]; exact K8, by rw [e8]; exact Arv.set Ar_o7 q7 S7 M7 H7 G7 (fits_nar_char _) W8 14 rfl hvs, fun target kt => ?_⟩
  show Steps p.tables e below (T0.setTop (mkF m 148 #[s0, s1, .val (.long j2), .second, s4, s5, s6, .val (.ref o7), s8, s9, s10, s11, s12, s13, s14, s15, s16, s17, s18, s19, s20, s21, s22, s23] [])) _
  refine XS.aload X0.here hx rfl (hb hby at_148) rfl rfl ?_
  show Steps p.tables e below (T0.setTop (mkF m 150 #[s0, s1, .val (.long j2), .second, s4, s5, s6, .val (.ref o7), s8, s9, s10, s11, s12, s13, s14, s15, s16, s17, s18, s19, s20, s21, s22, s23] [(.ref o7)])) _
  refine XS.bipush X0.here hx rfl (hb hby at_150) ?_
  show Steps p.tables e below (T0.setTop (mkF m 152 #[s0, s1, .val (.long j2), .second, s4, s5, s6, .val (.ref o7), s8, s9, s10, s11, s12, s13, s14, s15, s16, s17, s18, s19, s20, s21, s22, s23] [(.int (14 : Int32)), (.ref o7)])) _
  refine XS.lloadN X0.here hx rfl (hb hby at_152) rfl ?_
  show Steps p.tables e below (T0.setTop (mkF m 153 #[s0, s1, .val (.long j2), .second, s4, s5, s6, .val (.ref o7), s8, s9, s10, s11, s12, s13, s14, s15, s16, s17, s18, s19, s20, s21, s22, s23] [(.long j2), (.int (14 : Int32)), (.ref o7)])) _
  refine XS.bipush X0.here hx rfl (hb hby at_153) ?_
  show Steps p.tables e below (T0.setTop (mkF m 155 #[s0, s1, .val (.long j2), .second, s4, s5, s6, .val (.ref o7), s8, s9, s10, s11, s12, s13, s14, s15, s16, s17, s18, s19, s20, s21, s22, s23] [(.int (14 : Int32)), (.long j2), (.int (14 : Int32)), (.ref o7)])) _
  refine st7 _ ?_
  show Steps p.tables e below (T7.setTop (mkF m 158 #[s0, s1, .val (.long j2), .second, s4, s5, s6, .val (.ref o7), s8, s9, s10, s11, s12, s13, s14, s15, s16, s17, s18, s19, s20, s21, s22, s23] [(.int (g (14 : Int32))), (.int (14 : Int32)), (.ref o7)])) _
  refine st8 _ ?_
  exact kt
set_option maxRecDepth 65536 in
set_option maxHeartbeats 40000000 in
theorem own_A15 {p : Program} {l : Launch} {e : Env} {s : State} {m : MethodId} {args : Array Value} {below : List Frame} {meth : Method} {c : Code} {T0 : State} {locs : List Loc} {cells slots : Nat} {Z : State} {a0 : Array Value} {h0 : Heap} (s0 : Slot) (s1 : Slot) (j2 : Int64) (s4 : Slot) (s5 : Slot) (s6 : Slot) (o7 : Addr) (s8 : Slot) (s9 : Slot) (s10 : Slot) (s11 : Slot) (s12 : Slot) (s13 : Slot) (s14 : Slot) (s15 : Slot) (s16 : Slot) (s17 : Slot) (s18 : Slot) (s19 : Slot) (s20 : Slot) (s21 : Slot) (s22 : Slot) (s23 : Slot) (g : Int32 → Int32) (kA : ClassId) (vs : List Value) (n0 : Nat)
    (X0 : Stand p l e room_1 s m args below meth c T0 locs cells slots) (hx : p.tables.exec = Jvm.exec) (hZ : Z.Warmed39 s.vm) (hw : ∀ d ∈ tables_1, d.before a0 Z = true) (hby : c.code = code) (hml : c.maxLocals = 24) (hown : s.vm.findClass "com/example/bandmark/bandmark/PlainDecimalIsCompactPinLaw" = some m.cls) (e0 : T0.heap = h0) (hg : ∀ k, own_dg j2 k = g k) (V : Arv Z h0 o7 kA .char (22 : Int32) vs (.int (0 : Int32))) (hvs : 15 < vs.length) (Z0 : n0 ≤ h0.size) (N0 : Fr n0 locs) (hcl : cells ≤ room_1.cells) (hsl : slots ≤ room_1.slots) (g_o7 : n0 ≤ o7) :
    ∃ (T' : State) (locs' : List Loc), Stand p l e room_1 s m args below meth c T' locs' cells slots ∧ Fr n0 locs' ∧ Keep h0 T'.heap [o7] ∧ Arv Z T'.heap o7 kA .char (22 : Int32) (vs.set 15 (.int (nar .char (g (15 : Int32))))) (.int (0 : Int32)) ∧
      ∀ target, Steps p.tables e below (T'.setTop (mkF m 170 #[s0, s1, .val (.long j2), .second, s4, s5, s6, .val (.ref o7), s8, s9, s10, s11, s12, s13, s14, s15, s16, s17, s18, s19, s20, s21, s22, s23] [])) target → Steps p.tables e below (T0.setTop (mkF m 159 #[s0, s1, .val (.long j2), .second, s4, s5, s6, .val (.ref o7), s8, s9, s10, s11, s12, s13, s14, s15, s16, s17, s18, s19, s20, s21, s22, s23] [])) target := by
  obtain ⟨cl_o7, Ar_o7, q7, S7, M7, H7, G7⟩ := V
  have hin169 : ¬ ((15 : Int32) < 0 ∨ cl_o7.slots.size ≤ ((15 : Int32)).toNatClampNeg) := inb_of S7 ⟨by decide, by decide⟩
  obtain ⟨_, _, ⟨T7, L7, k7, n7⟩, -, X7, ⟨Lc7, hQ7, l7, y7, z7⟩, st7⟩ := Jvm.LawKit.callS X0 hx (y := (⟨"com/example/bandmark/bandmark/PlainDecimalIsCompactPinLaw", "dg", "(JI)C"⟩ : MethodName)) hown (mvT hZ (hw _ (List.mem_of_getElem? (i := 1) rfl))) (mvT hZ (hw _ (List.mem_of_getElem? (i := 2) rfl))) (mvT hZ (hw _ (List.mem_of_getElem? (i := 3) rfl))) (mvT hZ (hw _ (List.mem_of_getElem? (i := 4) rfl))) (by decide) (backOf (W := 2) (r1g l Z a0 hw [] j2 (15 : Int32) (g (15 : Int32)) h0 n0 Z0 (hg _)) hZ (hw _ (List.mem_of_getElem? (i := 4) rfl)) (hw _ (List.mem_of_getElem? (i := 3) rfl)) (by decide) (by decide)) (g := (mkF m 166 #[s0, s1, .val (.long j2), .second, s4, s5, s6, .val (.ref o7), s8, s9, s10, s11, s12, s13, s14, s15, s16, s17, s18, s19, s20, s21, s22, s23] [(.int (15 : Int32)), (.long j2), (.int (15 : Int32)), (.ref o7)])) rfl (by rw [hml]; rfl) (argsL := [(.long j2), (.int (15 : Int32))]) (rest := [(.int (15 : Int32)), (.ref o7)]) (lenOf pd_0_0 rfl) rfl (by show 2 * 0 + _ ≤ _; exact Nat.le_of_eq rfl) (hb hby at_166) (fun _ _ => ⟨rfl, e0, hcl, hsl⟩)
  dsimp only [Pt.U, Pt.locs, Pt.cells, Pt.slots] at X7 l7 y7 z7 st7 hQ7
  subst l7 y7 z7
  obtain ⟨rfl, N7q, e7⟩ := hQ7
  have N7 := Fr.app N0 N7q
  obtain ⟨T8, h8, X8, e8, W8, st8⟩ := stC X7 hx hZ e7 Ar_o7 (j := (15 : Int32)) hin169 (g := (mkF m 169 #[s0, s1, .val (.long j2), .second, s4, s5, s6, .val (.ref o7), s8, s9, s10, s11, s12, s13, s14, s15, s16, s17, s18, s19, s20, s21, s22, s23] [(.int (g (15 : Int32))), (.int (15 : Int32)), (.ref o7)])) rfl rfl (hb hby at_169)
  have N8 := Fr.snoc X8 N7 g_o7
  have K8 : Keep h0 h8 [o7] := (Keep.refl h0 [o7]).wr W8 (Or.inl (List.mem_of_getElem? (i := 0) rfl))
  refine ⟨T8, _, X8, N8, by rw [e8]; exact K8, by rw [e8]; exact Arv.set Ar_o7 q7 S7 M7 H7 G7 (fits_nar_char _) W8 15 rfl hvs, fun target kt => ?_⟩
  show Steps p.tables e below (T0.setTop (mkF m 159 #[s0, s1, .val (.long j2), .second, s4, s5, s6, .val (.ref o7), s8, s9, s10, s11, s12, s13, s14, s15, s16, s17, s18, s19, s20, s21, s22, s23] [])) _
  refine XS.aload X0.here hx rfl (hb hby at_159) rfl rfl ?_
  show Steps p.tables e below (T0.setTop (mkF m 161 #[s0, s1, .val (.long j2), .second, s4, s5, s6, .val (.ref o7), s8, s9, s10, s11, s12, s13, s14, s15, s16, s17, s18, s19, s20, s21, s22, s23] [(.ref o7)])) _
  refine XS.bipush X0.here hx rfl (hb hby at_161) ?_
  show Steps p.tables e below (T0.setTop (mkF m 163 #[s0, s1, .val (.long j2), .second, s4, s5, s6, .val (.ref o7), s8, s9, s10, s11, s12, s13, s14, s15, s16, s17, s18, s19, s20, s21, s22, s23] [(.int (15 : Int32)), (.ref o7)])) _
  refine XS.lloadN X0.here hx rfl (hb hby at_163) rfl ?_
  show Steps p.tables e below (T0.setTop (mkF m 164 #[s0, s1, .val (.long j2), .second, s4, s5, s6, .val (.ref o7), s8, s9, s10, s11, s12, s13, s14, s15, s16, s17, s18, s19, s20, s21, s22, s23] [(.long j2), (.int (15 : Int32)), (.ref o7)])) _
  refine XS.bipush X0.here hx rfl (hb hby at_164) ?_
  show Steps p.tables e below (T0.setTop (mkF m 166 #[s0, s1, .val (.long j2), .second, s4, s5, s6, .val (.ref o7), s8, s9, s10, s11, s12, s13, s14, s15, s16, s17, s18, s19, s20, s21, s22, s23] [(.int (15 : Int32)), (.long j2), (.int (15 : Int32)), (.ref o7)])) _
  refine st7 _ ?_
  show Steps p.tables e below (T7.setTop (mkF m 169 #[s0, s1, .val (.long j2), .second, s4, s5, s6, .val (.ref o7), s8, s9, s10, s11, s12, s13, s14, s15, s16, s17, s18, s19, s20, s21, s22, s23] [(.int (g (15 : Int32))), (.int (15 : Int32)), (.ref o7)])) _
  refine st8 _ ?_
  exact kt
set_option maxRecDepth 65536 in
set_option maxHeartbeats 40000000 in
theorem own_A16 {p : Program} {l : Launch} {e : Env} {s : State} {m : MethodId} {args : Array Value} {below : List Frame} {meth : Method} {c : Code} {T0 : State} {locs : List Loc} {cells slots : Nat} {Z : State} {a0 : Array Value} {h0 : Heap} (s0 : Slot) (s1 : Slot) (j2 : Int64) (s4 : Slot) (s5 : Slot) (s6 : Slot) (o7 : Addr) (s8 : Slot) (s9 : Slot) (s10 : Slot) (s11 : Slot) (s12 : Slot) (s13 : Slot) (s14 : Slot) (s15 : Slot) (s16 : Slot) (s17 : Slot) (s18 : Slot) (s19 : Slot) (s20 : Slot) (s21 : Slot) (s22 : Slot) (s23 : Slot) (g : Int32 → Int32) (kA : ClassId) (vs : List Value) (n0 : Nat)
    (X0 : Stand p l e room_1 s m args below meth c T0 locs cells slots) (hx : p.tables.exec = Jvm.exec) (hZ : Z.Warmed39 s.vm) (hw : ∀ d ∈ tables_1, d.before a0 Z = true) (hby : c.code = code) (hml : c.maxLocals = 24) (hown : s.vm.findClass "com/example/bandmark/bandmark/PlainDecimalIsCompactPinLaw" = some m.cls) (e0 : T0.heap = h0) (hg : ∀ k, own_dg j2 k = g k) (V : Arv Z h0 o7 kA .char (22 : Int32) vs (.int (0 : Int32))) (hvs : 16 < vs.length) (Z0 : n0 ≤ h0.size) (N0 : Fr n0 locs) (hcl : cells ≤ room_1.cells) (hsl : slots ≤ room_1.slots) (g_o7 : n0 ≤ o7) :
    ∃ (T' : State) (locs' : List Loc), Stand p l e room_1 s m args below meth c T' locs' cells slots ∧ Fr n0 locs' ∧ Keep h0 T'.heap [o7] ∧ Arv Z T'.heap o7 kA .char (22 : Int32) (vs.set 16 (.int (nar .char (g (16 : Int32))))) (.int (0 : Int32)) ∧
      ∀ target, Steps p.tables e below (T'.setTop (mkF m 181 #[s0, s1, .val (.long j2), .second, s4, s5, s6, .val (.ref o7), s8, s9, s10, s11, s12, s13, s14, s15, s16, s17, s18, s19, s20, s21, s22, s23] [])) target → Steps p.tables e below (T0.setTop (mkF m 170 #[s0, s1, .val (.long j2), .second, s4, s5, s6, .val (.ref o7), s8, s9, s10, s11, s12, s13, s14, s15, s16, s17, s18, s19, s20, s21, s22, s23] [])) target := by
  obtain ⟨cl_o7, Ar_o7, q7, S7, M7, H7, G7⟩ := V
  have hin180 : ¬ ((16 : Int32) < 0 ∨ cl_o7.slots.size ≤ ((16 : Int32)).toNatClampNeg) := inb_of S7 ⟨by decide, by decide⟩
  obtain ⟨_, _, ⟨T7, L7, k7, n7⟩, -, X7, ⟨Lc7, hQ7, l7, y7, z7⟩, st7⟩ := Jvm.LawKit.callS X0 hx (y := (⟨"com/example/bandmark/bandmark/PlainDecimalIsCompactPinLaw", "dg", "(JI)C"⟩ : MethodName)) hown (mvT hZ (hw _ (List.mem_of_getElem? (i := 1) rfl))) (mvT hZ (hw _ (List.mem_of_getElem? (i := 2) rfl))) (mvT hZ (hw _ (List.mem_of_getElem? (i := 3) rfl))) (mvT hZ (hw _ (List.mem_of_getElem? (i := 4) rfl))) (by decide) (backOf (W := 2) (r1g l Z a0 hw [] j2 (16 : Int32) (g (16 : Int32)) h0 n0 Z0 (hg _)) hZ (hw _ (List.mem_of_getElem? (i := 4) rfl)) (hw _ (List.mem_of_getElem? (i := 3) rfl)) (by decide) (by decide)) (g := (mkF m 177 #[s0, s1, .val (.long j2), .second, s4, s5, s6, .val (.ref o7), s8, s9, s10, s11, s12, s13, s14, s15, s16, s17, s18, s19, s20, s21, s22, s23] [(.int (16 : Int32)), (.long j2), (.int (16 : Int32)), (.ref o7)])) rfl (by rw [hml]; rfl) (argsL := [(.long j2), (.int (16 : Int32))]) (rest := [(.int (16 : Int32)), (.ref o7)]) (lenOf pd_0_0 rfl) rfl (by show 2 * 0 + _ ≤ _; exact Nat.le_of_eq rfl) (hb hby at_177) (fun _ _ => ⟨rfl, e0, hcl, hsl⟩)
  dsimp only [Pt.U, Pt.locs, Pt.cells, Pt.slots] at X7 l7 y7 z7 st7 hQ7
  subst l7 y7 z7
  obtain ⟨rfl, N7q, e7⟩ := hQ7
  have N7 := Fr.app N0 N7q
  obtain ⟨T8, h8, X8, e8, W8, st8⟩ := stC X7 hx hZ e7 Ar_o7 (j := (16 : Int32)) hin180 (g := (mkF m 180 #[s0, s1, .val (.long j2), .second, s4, s5, s6, .val (.ref o7), s8, s9, s10, s11, s12, s13, s14, s15, s16, s17, s18, s19, s20, s21, s22, s23] [(.int (g (16 : Int32))), (.int (16 : Int32)), (.ref o7)])) rfl rfl (hb hby at_180)
  have N8 := Fr.snoc X8 N7 g_o7
  have K8 : Keep h0 h8 [o7] := (Keep.refl h0 [o7]).wr W8 (Or.inl (List.mem_of_getElem? (i := 0) rfl))
  refine ⟨T8, _, X8, N8, by rw [e8]; exact K8, by rw [e8]; exact Arv.set Ar_o7 q7 S7 M7 H7 G7 (fits_nar_char _) W8 16 rfl hvs, fun target kt => ?_⟩
  show Steps p.tables e below (T0.setTop (mkF m 170 #[s0, s1, .val (.long j2), .second, s4, s5, s6, .val (.ref o7), s8, s9, s10, s11, s12, s13, s14, s15, s16, s17, s18, s19, s20, s21, s22, s23] [])) _
  refine XS.aload X0.here hx rfl (hb hby at_170) rfl rfl ?_
  show Steps p.tables e below (T0.setTop (mkF m 172 #[s0, s1, .val (.long j2), .second, s4, s5, s6, .val (.ref o7), s8, s9, s10, s11, s12, s13, s14, s15, s16, s17, s18, s19, s20, s21, s22, s23] [(.ref o7)])) _
  refine XS.bipush X0.here hx rfl (hb hby at_172) ?_
  show Steps p.tables e below (T0.setTop (mkF m 174 #[s0, s1, .val (.long j2), .second, s4, s5, s6, .val (.ref o7), s8, s9, s10, s11, s12, s13, s14, s15, s16, s17, s18, s19, s20, s21, s22, s23] [(.int (16 : Int32)), (.ref o7)])) _
  refine XS.lloadN X0.here hx rfl (hb hby at_174) rfl ?_
  show Steps p.tables e below (T0.setTop (mkF m 175 #[s0, s1, .val (.long j2), .second, s4, s5, s6, .val (.ref o7), s8, s9, s10, s11, s12, s13, s14, s15, s16, s17, s18, s19, s20, s21, s22, s23] [(.long j2), (.int (16 : Int32)), (.ref o7)])) _
  refine XS.bipush X0.here hx rfl (hb hby at_175) ?_
  show Steps p.tables e below (T0.setTop (mkF m 177 #[s0, s1, .val (.long j2), .second, s4, s5, s6, .val (.ref o7), s8, s9, s10, s11, s12, s13, s14, s15, s16, s17, s18, s19, s20, s21, s22, s23] [(.int (16 : Int32)), (.long j2), (.int (16 : Int32)), (.ref o7)])) _
  refine st7 _ ?_
  show Steps p.tables e below (T7.setTop (mkF m 180 #[s0, s1, .val (.long j2), .second, s4, s5, s6, .val (.ref o7), s8, s9, s10, s11, s12, s13, s14, s15, s16, s17, s18, s19, s20, s21, s22, s23] [(.int (g (16 : Int32))), (.int (16 : Int32)), (.ref o7)])) _
  refine st8 _ ?_
  exact kt
set_option maxRecDepth 65536 in
set_option maxHeartbeats 40000000 in
theorem own_A17 {p : Program} {l : Launch} {e : Env} {s : State} {m : MethodId} {args : Array Value} {below : List Frame} {meth : Method} {c : Code} {T0 : State} {locs : List Loc} {cells slots : Nat} {Z : State} {a0 : Array Value} {h0 : Heap} (s0 : Slot) (s1 : Slot) (j2 : Int64) (s4 : Slot) (s5 : Slot) (s6 : Slot) (o7 : Addr) (s8 : Slot) (s9 : Slot) (s10 : Slot) (s11 : Slot) (s12 : Slot) (s13 : Slot) (s14 : Slot) (s15 : Slot) (s16 : Slot) (s17 : Slot) (s18 : Slot) (s19 : Slot) (s20 : Slot) (s21 : Slot) (s22 : Slot) (s23 : Slot) (g : Int32 → Int32) (kA : ClassId) (vs : List Value) (n0 : Nat)
    (X0 : Stand p l e room_1 s m args below meth c T0 locs cells slots) (hx : p.tables.exec = Jvm.exec) (hZ : Z.Warmed39 s.vm) (hw : ∀ d ∈ tables_1, d.before a0 Z = true) (hby : c.code = code) (hml : c.maxLocals = 24) (hown : s.vm.findClass "com/example/bandmark/bandmark/PlainDecimalIsCompactPinLaw" = some m.cls) (e0 : T0.heap = h0) (hg : ∀ k, own_dg j2 k = g k) (V : Arv Z h0 o7 kA .char (22 : Int32) vs (.int (0 : Int32))) (hvs : 17 < vs.length) (Z0 : n0 ≤ h0.size) (N0 : Fr n0 locs) (hcl : cells ≤ room_1.cells) (hsl : slots ≤ room_1.slots) (g_o7 : n0 ≤ o7) :
    ∃ (T' : State) (locs' : List Loc), Stand p l e room_1 s m args below meth c T' locs' cells slots ∧ Fr n0 locs' ∧ Keep h0 T'.heap [o7] ∧ Arv Z T'.heap o7 kA .char (22 : Int32) (vs.set 17 (.int (nar .char (g (17 : Int32))))) (.int (0 : Int32)) ∧
      ∀ target, Steps p.tables e below (T'.setTop (mkF m 192 #[s0, s1, .val (.long j2), .second, s4, s5, s6, .val (.ref o7), s8, s9, s10, s11, s12, s13, s14, s15, s16, s17, s18, s19, s20, s21, s22, s23] [])) target → Steps p.tables e below (T0.setTop (mkF m 181 #[s0, s1, .val (.long j2), .second, s4, s5, s6, .val (.ref o7), s8, s9, s10, s11, s12, s13, s14, s15, s16, s17, s18, s19, s20, s21, s22, s23] [])) target := by
  obtain ⟨cl_o7, Ar_o7, q7, S7, M7, H7, G7⟩ := V
  have hin191 : ¬ ((17 : Int32) < 0 ∨ cl_o7.slots.size ≤ ((17 : Int32)).toNatClampNeg) := inb_of S7 ⟨by decide, by decide⟩
  obtain ⟨_, _, ⟨T7, L7, k7, n7⟩, -, X7, ⟨Lc7, hQ7, l7, y7, z7⟩, st7⟩ := Jvm.LawKit.callS X0 hx (y := (⟨"com/example/bandmark/bandmark/PlainDecimalIsCompactPinLaw", "dg", "(JI)C"⟩ : MethodName)) hown (mvT hZ (hw _ (List.mem_of_getElem? (i := 1) rfl))) (mvT hZ (hw _ (List.mem_of_getElem? (i := 2) rfl))) (mvT hZ (hw _ (List.mem_of_getElem? (i := 3) rfl))) (mvT hZ (hw _ (List.mem_of_getElem? (i := 4) rfl))) (by decide) (backOf (W := 2) (r1g l Z a0 hw [] j2 (17 : Int32) (g (17 : Int32)) h0 n0 Z0 (hg _)) hZ (hw _ (List.mem_of_getElem? (i := 4) rfl)) (hw _ (List.mem_of_getElem? (i := 3) rfl)) (by decide) (by decide)) (g := (mkF m 188 #[s0, s1, .val (.long j2), .second, s4, s5, s6, .val (.ref o7), s8, s9, s10, s11, s12, s13, s14, s15, s16, s17, s18, s19, s20, s21, s22, s23] [(.int (17 : Int32)), (.long j2), (.int (17 : Int32)), (.ref o7)])) rfl (by rw [hml]; rfl) (argsL := [(.long j2), (.int (17 : Int32))]) (rest := [(.int (17 : Int32)), (.ref o7)]) (lenOf pd_0_0 rfl) rfl (by show 2 * 0 + _ ≤ _; exact Nat.le_of_eq rfl) (hb hby at_188) (fun _ _ => ⟨rfl, e0, hcl, hsl⟩)
  dsimp only [Pt.U, Pt.locs, Pt.cells, Pt.slots] at X7 l7 y7 z7 st7 hQ7
  subst l7 y7 z7
  obtain ⟨rfl, N7q, e7⟩ := hQ7
  have N7 := Fr.app N0 N7q
  obtain ⟨T8, h8, X8, e8, W8, st8⟩ := stC X7 hx hZ e7 Ar_o7 (j := (17 : Int32)) hin191 (g := (mkF m 191 #[s0, s1, .val (.long j2), .second, s4, s5, s6, .val (.ref o7), s8, s9, s10, s11, s12, s13, s14, s15, s16, s17, s18, s19, s20, s21, s22, s23] [(.int (g (17 : Int32))), (.int (17 : Int32)), (.ref o7)])) rfl rfl (hb hby at_191)
  have N8 := Fr.snoc X8 N7 g_o7
  have K8 : Keep h0 h8 [o7] := (Keep.refl h0 [o7]).wr W8 (Or.inl (List.mem_of_getElem? (i := 0) rfl))
  refine ⟨T8, _, X8, N8, by rw [e8]; exact K8, by rw [e8]; exact Arv.set Ar_o7 q7 S7 M7 H7 G7 (fits_nar_char _) W8 17 rfl hvs, fun target kt => ?_⟩
  show Steps p.tables e below (T0.setTop (mkF m 181 #[s0, s1, .val (.long j2), .second, s4, s5, s6, .val (.ref o7), s8, s9, s10, s11, s12, s13, s14, s15, s16, s17, s18, s19, s20, s21, s22, s23] [])) _
  refine XS.aload X0.here hx rfl (hb hby at_181) rfl rfl ?_
  show Steps p.tables e below (T0.setTop (mkF m 183 #[s0, s1, .val (.long j2), .second, s4, s5, s6, .val (.ref o7), s8, s9, s10, s11, s12, s13, s14, s15, s16, s17, s18, s19, s20, s21, s22, s23] [(.ref o7)])) _
  refine XS.bipush X0.here hx rfl (hb hby at_183) ?_
  show Steps p.tables e below (T0.setTop (mkF m 185 #[s0, s1, .val (.long j2), .second, s4, s5, s6, .val (.ref o7), s8, s9, s10, s11, s12, s13, s14, s15, s16, s17, s18, s19, s20, s21, s22, s23] [(.int (17 : Int32)), (.ref o7)])) _
  refine XS.lloadN X0.here hx rfl (hb hby at_185) rfl ?_
  show Steps p.tables e below (T0.setTop (mkF m 186 #[s0, s1, .val (.long j2), .second, s4, s5, s6, .val (.ref o7), s8, s9, s10, s11, s12, s13, s14, s15, s16, s17, s18, s19, s20, s21, s22, s23] [(.long j2), (.int (17 : Int32)), (.ref o7)])) _
  refine XS.bipush X0.here hx rfl (hb hby at_186) ?_
  show Steps p.tables e below (T0.setTop (mkF m 188 #[s0, s1, .val (.long j2), .second, s4, s5, s6, .val (.ref o7), s8, s9, s10, s11, s12, s13, s14, s15, s16, s17, s18, s19, s20, s21, s22, s23] [(.int (17 : Int32)), (.long j2), (.int (17 : Int32)), (.ref o7)])) _
  refine st7 _ ?_
  show Steps p.tables e below (T7.setTop (mkF m 191 #[s0, s1, .val (.long j2), .second, s4, s5, s6, .val (.ref o7), s8, s9, s10, s11, s12, s13, s14, s15, s16, s17, s18, s19, s20, s21, s22, s23] [(.int (g (17 : Int32))), (.int (17 : Int32)), (.ref o7)])) _
  refine st8 _ ?_
  exact kt
set_option maxRecDepth 65536 in
set_option maxHeartbeats 40000000 in
theorem own_A18 {p : Program} {l : Launch} {e : Env} {s : State} {m : MethodId} {args : Array Value} {below : List Frame} {meth : Method} {c : Code} {T0 : State} {locs : List Loc} {cells slots : Nat} {Z : State} {a0 : Array Value} {h0 : Heap} (s0 : Slot) (s1 : Slot) (j2 : Int64) (s4 : Slot) (s5 : Slot) (s6 : Slot) (o7 : Addr) (s8 : Slot) (s9 : Slot) (s10 : Slot) (s11 : Slot) (s12 : Slot) (s13 : Slot) (s14 : Slot) (s15 : Slot) (s16 : Slot) (s17 : Slot) (s18 : Slot) (s19 : Slot) (s20 : Slot) (s21 : Slot) (s22 : Slot) (s23 : Slot) (g : Int32 → Int32) (kA : ClassId) (vs : List Value) (n0 : Nat)
    (X0 : Stand p l e room_1 s m args below meth c T0 locs cells slots) (hx : p.tables.exec = Jvm.exec) (hZ : Z.Warmed39 s.vm) (hw : ∀ d ∈ tables_1, d.before a0 Z = true) (hby : c.code = code) (hml : c.maxLocals = 24) (hown : s.vm.findClass "com/example/bandmark/bandmark/PlainDecimalIsCompactPinLaw" = some m.cls) (e0 : T0.heap = h0) (hg : ∀ k, own_dg j2 k = g k) (V : Arv Z h0 o7 kA .char (22 : Int32) vs (.int (0 : Int32))) (hvs : 18 < vs.length) (Z0 : n0 ≤ h0.size) (N0 : Fr n0 locs) (hcl : cells ≤ room_1.cells) (hsl : slots ≤ room_1.slots) (g_o7 : n0 ≤ o7) :
    ∃ (T' : State) (locs' : List Loc), Stand p l e room_1 s m args below meth c T' locs' cells slots ∧ Fr n0 locs' ∧ Keep h0 T'.heap [o7] ∧ Arv Z T'.heap o7 kA .char (22 : Int32) (vs.set 18 (.int (nar .char (g (18 : Int32))))) (.int (0 : Int32)) ∧
      ∀ target, Steps p.tables e below (T'.setTop (mkF m 203 #[s0, s1, .val (.long j2), .second, s4, s5, s6, .val (.ref o7), s8, s9, s10, s11, s12, s13, s14, s15, s16, s17, s18, s19, s20, s21, s22, s23] [])) target → Steps p.tables e below (T0.setTop (mkF m 192 #[s0, s1, .val (.long j2), .second, s4, s5, s6, .val (.ref o7), s8, s9, s10, s11, s12, s13, s14, s15, s16, s17, s18, s19, s20, s21, s22, s23] [])) target := by
  obtain ⟨cl_o7, Ar_o7, q7, S7, M7, H7, G7⟩ := V
  have hin202 : ¬ ((18 : Int32) < 0 ∨ cl_o7.slots.size ≤ ((18 : Int32)).toNatClampNeg) := inb_of S7 ⟨by decide, by decide⟩
  obtain ⟨_, _, ⟨T7, L7, k7, n7⟩, -, X7, ⟨Lc7, hQ7, l7, y7, z7⟩, st7⟩ := Jvm.LawKit.callS X0 hx (y := (⟨"com/example/bandmark/bandmark/PlainDecimalIsCompactPinLaw", "dg", "(JI)C"⟩ : MethodName)) hown (mvT hZ (hw _ (List.mem_of_getElem? (i := 1) rfl))) (mvT hZ (hw _ (List.mem_of_getElem? (i := 2) rfl))) (mvT hZ (hw _ (List.mem_of_getElem? (i := 3) rfl))) (mvT hZ (hw _ (List.mem_of_getElem? (i := 4) rfl))) (by decide) (backOf (W := 2) (r1g l Z a0 hw [] j2 (18 : Int32) (g (18 : Int32)) h0 n0 Z0 (hg _)) hZ (hw _ (List.mem_of_getElem? (i := 4) rfl)) (hw _ (List.mem_of_getElem? (i := 3) rfl)) (by decide) (by decide)) (g := (mkF m 199 #[s0, s1, .val (.long j2), .second, s4, s5, s6, .val (.ref o7), s8, s9, s10, s11, s12, s13, s14, s15, s16, s17, s18, s19, s20, s21, s22, s23] [(.int (18 : Int32)), (.long j2), (.int (18 : Int32)), (.ref o7)])) rfl (by rw [hml]; rfl) (argsL := [(.long j2), (.int (18 : Int32))]) (rest := [(.int (18 : Int32)), (.ref o7)]) (lenOf pd_0_0 rfl) rfl (by show 2 * 0 + _ ≤ _; exact Nat.le_of_eq rfl) (hb hby at_199) (fun _ _ => ⟨rfl, e0, hcl, hsl⟩)
  dsimp only [Pt.U, Pt.locs, Pt.cells, Pt.slots] at X7 l7 y7 z7 st7 hQ7
  subst l7 y7 z7
  obtain ⟨rfl, N7q, e7⟩ := hQ7
  have N7 := Fr.app N0 N7q
  obtain ⟨T8, h8, X8, e8, W8, st8⟩ := stC X7 hx hZ e7 Ar_o7 (j := (18 : Int32)) hin202 (g := (mkF m 202 #[s0, s1, .val (.long j2), .second, s4, s5, s6, .val (.ref o7), s8, s9, s10, s11, s12, s13, s14, s15, s16, s17, s18, s19, s20, s21, s22, s23] [(.int (g (18 : Int32))), (.int (18 : Int32)), (.ref o7)])) rfl rfl (hb hby at_202)
  have N8 := Fr.snoc X8 N7 g_o7
  have K8 : Keep h0 h8 [o7] := (Keep.refl h0 [o7]).wr W8 (Or.inl (List.mem_of_getElem? (i := 0) rfl))
  refine ⟨T8, _, X8, N8, by rw [e8]; exact K8, by rw [e8]; exact Arv.set Ar_o7 q7 S7 M7 H7 G7 (fits_nar_char _) W8 18 rfl hvs, fun target kt => ?_⟩
  show Steps p.tables e below (T0.setTop (mkF m 192 #[s0, s1, .val (.long j2), .second, s4, s5, s6, .val (.ref o7), s8, s9, s10, s11, s12, s13, s14, s15, s16, s17, s18, s19, s20, s21, s22, s23] [])) _
  refine XS.aload X0.here hx rfl (hb hby at_192) rfl rfl ?_
  show Steps p.tables e below (T0.setTop (mkF m 194 #[s0, s1, .val (.long j2), .second, s4, s5, s6, .val (.ref o7), s8, s9, s10, s11, s12, s13, s14, s15, s16, s17, s18, s19, s20, s21, s22, s23] [(.ref o7)])) _
  refine XS.bipush X0.here hx rfl (hb hby at_194) ?_
  show Steps p.tables e below (T0.setTop (mkF m 196 #[s0, s1, .val (.long j2), .second, s4, s5, s6, .val (.ref o7), s8, s9, s10, s11, s12, s13, s14, s15, s16, s17, s18, s19, s20, s21, s22, s23] [(.int (18 : Int32)), (.ref o7)])) _
  refine XS.lloadN X0.here hx rfl (hb hby at_196) rfl ?_
  show Steps p.tables e below (T0.setTop (mkF m 197 #[s0, s1, .val (.long j2), .second, s4, s5, s6, .val (.ref o7), s8, s9, s10, s11, s12, s13, s14, s15, s16, s17, s18, s19, s20, s21, s22, s23] [(.long j2), (.int (18 : Int32)), (.ref o7)])) _
  refine XS.bipush X0.here hx rfl (hb hby at_197) ?_
  show Steps p.tables e below (T0.setTop (mkF m 199 #[s0, s1, .val (.long j2), .second, s4, s5, s6, .val (.ref o7), s8, s9, s10, s11, s12, s13, s14, s15, s16, s17, s18, s19, s20, s21, s22, s23] [(.int (18 : Int32)), (.long j2), (.int (18 : Int32)), (.ref o7)])) _
  refine st7 _ ?_
  show Steps p.tables e below (T7.setTop (mkF m 202 #[s0, s1, .val (.long j2), .second, s4, s5, s6, .val (.ref o7), s8, s9, s10, s11, s12, s13, s14, s15, s16, s17, s18, s19, s20, s21, s22, s23] [(.int (g (18 : Int32))), (.int (18 : Int32)), (.ref o7)])) _
  refine st8 _ ?_
  exact kt
set_option maxRecDepth 65536 in
set_option maxHeartbeats 40000000 in
theorem own_A19 {p : Program} {l : Launch} {e : Env} {s : State} {m : MethodId} {args : Array Value} {below : List Frame} {meth : Method} {c : Code} {T0 : State} {locs : List Loc} {cells slots : Nat} {Z : State} {a0 : Array Value} {h0 : Heap} (s0 : Slot) (s1 : Slot) (j2 : Int64) (s4 : Slot) (s5 : Slot) (s6 : Slot) (o7 : Addr) (s8 : Slot) (s9 : Slot) (s10 : Slot) (s11 : Slot) (s12 : Slot) (s13 : Slot) (s14 : Slot) (s15 : Slot) (s16 : Slot) (s17 : Slot) (s18 : Slot) (s19 : Slot) (s20 : Slot) (s21 : Slot) (s22 : Slot) (s23 : Slot) (g : Int32 → Int32) (kA : ClassId) (vs : List Value) (n0 : Nat)
    (X0 : Stand p l e room_1 s m args below meth c T0 locs cells slots) (hx : p.tables.exec = Jvm.exec) (hZ : Z.Warmed39 s.vm) (hw : ∀ d ∈ tables_1, d.before a0 Z = true) (hby : c.code = code) (hml : c.maxLocals = 24) (hown : s.vm.findClass "com/example/bandmark/bandmark/PlainDecimalIsCompactPinLaw" = some m.cls) (e0 : T0.heap = h0) (hg : ∀ k, own_dg j2 k = g k) (V : Arv Z h0 o7 kA .char (22 : Int32) vs (.int (0 : Int32))) (hvs : 19 < vs.length) (Z0 : n0 ≤ h0.size) (N0 : Fr n0 locs) (hcl : cells ≤ room_1.cells) (hsl : slots ≤ room_1.slots) (g_o7 : n0 ≤ o7) :
    ∃ (T' : State) (locs' : List Loc), Stand p l e room_1 s m args below meth c T' locs' cells slots ∧ Fr n0 locs' ∧ Keep h0 T'.heap [o7] ∧ Arv Z T'.heap o7 kA .char (22 : Int32) (vs.set 19 (.int (nar .char (g (19 : Int32))))) (.int (0 : Int32)) ∧
      ∀ target, Steps p.tables e below (T'.setTop (mkF m 214 #[s0, s1, .val (.long j2), .second, s4, s5, s6, .val (.ref o7), s8, s9, s10, s11, s12, s13, s14, s15, s16, s17, s18, s19, s20, s21, s22, s23] [])) target → Steps p.tables e below (T0.setTop (mkF m 203 #[s0, s1, .val (.long j2), .second, s4, s5, s6, .val (.ref o7), s8, s9, s10, s11, s12, s13, s14, s15, s16, s17, s18, s19, s20, s21, s22, s23] [])) target := by
  obtain ⟨cl_o7, Ar_o7, q7, S7, M7, H7, G7⟩ := V
  have hin213 : ¬ ((19 : Int32) < 0 ∨ cl_o7.slots.size ≤ ((19 : Int32)).toNatClampNeg) := inb_of S7 ⟨by decide, by decide⟩
  obtain ⟨_, _, ⟨T7, L7, k7, n7⟩, -, X7, ⟨Lc7, hQ7, l7, y7, z7⟩, st7⟩ := Jvm.LawKit.callS X0 hx (y := (⟨"com/example/bandmark/bandmark/PlainDecimalIsCompactPinLaw", "dg", "(JI)C"⟩ : MethodName)) hown (mvT hZ (hw _ (List.mem_of_getElem? (i := 1) rfl))) (mvT hZ (hw _ (List.mem_of_getElem? (i := 2) rfl))) (mvT hZ (hw _ (List.mem_of_getElem? (i := 3) rfl))) (mvT hZ (hw _ (List.mem_of_getElem? (i := 4) rfl))) (by decide) (backOf (W := 2) (r1g l Z a0 hw [] j2 (19 : Int32) (g (19 : Int32)) h0 n0 Z0 (hg _)) hZ (hw _ (List.mem_of_getElem? (i := 4) rfl)) (hw _ (List.mem_of_getElem? (i := 3) rfl)) (by decide) (by decide)) (g := (mkF m 210 #[s0, s1, .val (.long j2), .second, s4, s5, s6, .val (.ref o7), s8, s9, s10, s11, s12, s13, s14, s15, s16, s17, s18, s19, s20, s21, s22, s23] [(.int (19 : Int32)), (.long j2), (.int (19 : Int32)), (.ref o7)])) rfl (by rw [hml]; rfl) (argsL := [(.long j2), (.int (19 : Int32))]) (rest := [(.int (19 : Int32)), (.ref o7)]) (lenOf pd_0_0 rfl) rfl (by show 2 * 0 + _ ≤ _; exact Nat.le_of_eq rfl) (hb hby at_210) (fun _ _ => ⟨rfl, e0, hcl, hsl⟩)
  dsimp only [Pt.U, Pt.locs, Pt.cells, Pt.slots] at X7 l7 y7 z7 st7 hQ7
  subst l7 y7 z7
  obtain ⟨rfl, N7q, e7⟩ := hQ7
  have N7 := Fr.app N0 N7q
  obtain ⟨T8, h8, X8, e8, W8, st8⟩ := stC X7 hx hZ e7 Ar_o7 (j := (19 : Int32)) hin213 (g := (mkF m 213 #[s0, s1, .val (.long j2), .second, s4, s5, s6, .val (.ref o7), s8, s9, s10, s11, s12, s13, s14, s15, s16, s17, s18, s19, s20, s21, s22, s23] [(.int (g (19 : Int32))), (.int (19 : Int32)), (.ref o7)])) rfl rfl (hb hby at_213)
  have N8 := Fr.snoc X8 N7 g_o7
  have K8 : Keep h0 h8 [o7] := (Keep.refl h0 [o7]).wr W8 (Or.inl (List.mem_of_getElem? (i := 0) rfl))
  refine ⟨T8, _, X8, N8, by rw [e8]; exact K8, by rw [e8]; exact Arv.set Ar_o7 q7 S7 M7 H7 G7 (fits_nar_char _) W8 19 rfl hvs, fun target kt => ?_⟩
  show Steps p.tables e below (T0.setTop (mkF m 203 #[s0, s1, .val (.long j2), .second, s4, s5, s6, .val (.ref o7), s8, s9, s10, s11, s12, s13, s14, s15, s16, s17, s18, s19, s20, s21, s22, s23] [])) _
  refine XS.aload X0.here hx rfl (hb hby at_203) rfl rfl ?_
  show Steps p.tables e below (T0.setTop (mkF m 205 #[s0, s1, .val (.long j2), .second, s4, s5, s6, .val (.ref o7), s8, s9, s10, s11, s12, s13, s14, s15, s16, s17, s18, s19, s20, s21, s22, s23] [(.ref o7)])) _
  refine XS.bipush X0.here hx rfl (hb hby at_205) ?_
  show Steps p.tables e below (T0.setTop (mkF m 207 #[s0, s1, .val (.long j2), .second, s4, s5, s6, .val (.ref o7), s8, s9, s10, s11, s12, s13, s14, s15, s16, s17, s18, s19, s20, s21, s22, s23] [(.int (19 : Int32)), (.ref o7)])) _
  refine XS.lloadN X0.here hx rfl (hb hby at_207) rfl ?_
  show Steps p.tables e below (T0.setTop (mkF m 208 #[s0, s1, .val (.long j2), .second, s4, s5, s6, .val (.ref o7), s8, s9, s10, s11, s12, s13, s14, s15, s16, s17, s18, s19, s20, s21, s22, s23] [(.long j2), (.int (19 : Int32)), (.ref o7)])) _
  refine XS.bipush X0.here hx rfl (hb hby at_208) ?_
  show Steps p.tables e below (T0.setTop (mkF m 210 #[s0, s1, .val (.long j2), .second, s4, s5, s6, .val (.ref o7), s8, s9, s10, s11, s12, s13, s14, s15, s16, s17, s18, s19, s20, s21, s22, s23] [(.int (19 : Int32)), (.long j2), (.int (19 : Int32)), (.ref o7)])) _
  refine st7 _ ?_
  show Steps p.tables e below (T7.setTop (mkF m 213 #[s0, s1, .val (.long j2), .second, s4, s5, s6, .val (.ref o7), s8, s9, s10, s11, s12, s13, s14, s15, s16, s17, s18, s19, s20, s21, s22, s23] [(.int (g (19 : Int32))), (.int (19 : Int32)), (.ref o7)])) _
  refine st8 _ ?_
  exact kt
set_option maxRecDepth 65536 in
set_option maxHeartbeats 40000000 in
theorem own_A20 {p : Program} {l : Launch} {e : Env} {s : State} {m : MethodId} {args : Array Value} {below : List Frame} {meth : Method} {c : Code} {T0 : State} {locs : List Loc} {cells slots : Nat} {Z : State} {a0 : Array Value} {h0 : Heap} (s0 : Slot) (s1 : Slot) (j2 : Int64) (s4 : Slot) (s5 : Slot) (s6 : Slot) (o7 : Addr) (s8 : Slot) (s9 : Slot) (s10 : Slot) (s11 : Slot) (s12 : Slot) (s13 : Slot) (s14 : Slot) (s15 : Slot) (s16 : Slot) (s17 : Slot) (s18 : Slot) (s19 : Slot) (s20 : Slot) (s21 : Slot) (s22 : Slot) (s23 : Slot) (g : Int32 → Int32) (kA : ClassId) (vs : List Value) (n0 : Nat)
    (X0 : Stand p l e room_1 s m args below meth c T0 locs cells slots) (hx : p.tables.exec = Jvm.exec) (hZ : Z.Warmed39 s.vm) (hw : ∀ d ∈ tables_1, d.before a0 Z = true) (hby : c.code = code) (hml : c.maxLocals = 24) (hown : s.vm.findClass "com/example/bandmark/bandmark/PlainDecimalIsCompactPinLaw" = some m.cls) (e0 : T0.heap = h0) (hg : ∀ k, own_dg j2 k = g k) (V : Arv Z h0 o7 kA .char (22 : Int32) vs (.int (0 : Int32))) (hvs : 20 < vs.length) (Z0 : n0 ≤ h0.size) (N0 : Fr n0 locs) (hcl : cells ≤ room_1.cells) (hsl : slots ≤ room_1.slots) (g_o7 : n0 ≤ o7) :
    ∃ (T' : State) (locs' : List Loc), Stand p l e room_1 s m args below meth c T' locs' cells slots ∧ Fr n0 locs' ∧ Keep h0 T'.heap [o7] ∧ Arv Z T'.heap o7 kA .char (22 : Int32) (vs.set 20 (.int (nar .char (g (20 : Int32))))) (.int (0 : Int32)) ∧
      ∀ target, Steps p.tables e below (T'.setTop (mkF m 225 #[s0, s1, .val (.long j2), .second, s4, s5, s6, .val (.ref o7), s8, s9, s10, s11, s12, s13, s14, s15, s16, s17, s18, s19, s20, s21, s22, s23] [])) target → Steps p.tables e below (T0.setTop (mkF m 214 #[s0, s1, .val (.long j2), .second, s4, s5, s6, .val (.ref o7), s8, s9, s10, s11, s12, s13, s14, s15, s16, s17, s18, s19, s20, s21, s22, s23] [])) target := by
  obtain ⟨cl_o7, Ar_o7, q7, S7, M7, H7, G7⟩ := V
  have hin224 : ¬ ((20 : Int32) < 0 ∨ cl_o7.slots.size ≤ ((20 : Int32)).toNatClampNeg) := inb_of S7 ⟨by decide, by decide⟩
  obtain ⟨_, _, ⟨T7, L7, k7, n7⟩, -, X7, ⟨Lc7, hQ7, l7, y7, z7⟩, st7⟩ := Jvm.LawKit.callS X0 hx (y := (⟨"com/example/bandmark/bandmark/PlainDecimalIsCompactPinLaw", "dg", "(JI)C"⟩ : MethodName)) hown (mvT hZ (hw _ (List.mem_of_getElem? (i := 1) rfl))) (mvT hZ (hw _ (List.mem_of_getElem? (i := 2) rfl))) (mvT hZ (hw _ (List.mem_of_getElem? (i := 3) rfl))) (mvT hZ (hw _ (List.mem_of_getElem? (i := 4) rfl))) (by decide) (backOf (W := 2) (r1g l Z a0 hw [] j2 (20 : Int32) (g (20 : Int32)) h0 n0 Z0 (hg _)) hZ (hw _ (List.mem_of_getElem? (i := 4) rfl)) (hw _ (List.mem_of_getElem? (i := 3) rfl)) (by decide) (by decide)) (g := (mkF m 221 #[s0, s1, .val (.long j2), .second, s4, s5, s6, .val (.ref o7), s8, s9, s10, s11, s12, s13, s14, s15, s16, s17, s18, s19, s20, s21, s22, s23] [(.int (20 : Int32)), (.long j2), (.int (20 : Int32)), (.ref o7)])) rfl (by rw [hml]; rfl) (argsL := [(.long j2), (.int (20 : Int32))]) (rest := [(.int (20 : Int32)), (.ref o7)]) (lenOf pd_0_0 rfl) rfl (by show 2 * 0 + _ ≤ _; exact Nat.le_of_eq rfl) (hb hby at_221) (fun _ _ => ⟨rfl, e0, hcl, hsl⟩)
  dsimp only [Pt.U, Pt.locs, Pt.cells, Pt.slots] at X7 l7 y7 z7 st7 hQ7
  subst l7 y7 z7
  obtain ⟨rfl, N7q, e7⟩ := hQ7
  have N7 := Fr.app N0 N7q
  obtain ⟨T8, h8, X8, e8, W8, st8⟩ := stC X7 hx hZ e7 Ar_o7 (j := (20 : Int32)) hin224 (g := (mkF m 224 #[s0, s1, .val (.long j2), .second, s4, s5, s6, .val (.ref o7), s8, s9, s10, s11, s12, s13, s14, s15, s16, s17, s18, s19, s20, s21, s22, s23] [(.int (g (20 : Int32))), (.int (20 : Int32)), (.ref o7)])) rfl rfl (hb hby at_224)
  have N8 := Fr.snoc X8 N7 g_o7
  have K8 : Keep h0 h8 [o7] := (Keep.refl h0 [o7]).wr W8 (Or.inl (List.mem_of_getElem? (i := 0) rfl))
  refine ⟨T8, _, X8, N8, by rw [e8]; exact K8, by rw [e8]; exact Arv.set Ar_o7 q7 S7 M7 H7 G7 (fits_nar_char _) W8 20 rfl hvs, fun target kt => ?_⟩
  show Steps p.tables e below (T0.setTop (mkF m 214 #[s0, s1, .val (.long j2), .second, s4, s5, s6, .val (.ref o7), s8, s9, s10, s11, s12, s13, s14, s15, s16, s17, s18, s19, s20, s21, s22, s23] [])) _
  refine XS.aload X0.here hx rfl (hb hby at_214) rfl rfl ?_
  show Steps p.tables e below (T0.setTop (mkF m 216 #[s0, s1, .val (.long j2), .second, s4, s5, s6, .val (.ref o7), s8, s9, s10, s11, s12, s13, s14, s15, s16, s17, s18, s19, s20, s21, s22, s23] [(.ref o7)])) _
  refine XS.bipush X0.here hx rfl (hb hby at_216) ?_
  show Steps p.tables e below (T0.setTop (mkF m 218 #[s0, s1, .val (.long j2), .second, s4, s5, s6, .val (.ref o7), s8, s9, s10, s11, s12, s13, s14, s15, s16, s17, s18, s19, s20, s21, s22, s23] [(.int (20 : Int32)), (.ref o7)])) _
  refine XS.lloadN X0.here hx rfl (hb hby at_218) rfl ?_
  show Steps p.tables e below (T0.setTop (mkF m 219 #[s0, s1, .val (.long j2), .second, s4, s5, s6, .val (.ref o7), s8, s9, s10, s11, s12, s13, s14, s15, s16, s17, s18, s19, s20, s21, s22, s23] [(.long j2), (.int (20 : Int32)), (.ref o7)])) _
  refine XS.bipush X0.here hx rfl (hb hby at_219) ?_
  show Steps p.tables e below (T0.setTop (mkF m 221 #[s0, s1, .val (.long j2), .second, s4, s5, s6, .val (.ref o7), s8, s9, s10, s11, s12, s13, s14, s15, s16, s17, s18, s19, s20, s21, s22, s23] [(.int (20 : Int32)), (.long j2), (.int (20 : Int32)), (.ref o7)])) _
  refine st7 _ ?_
  show Steps p.tables e below (T7.setTop (mkF m 224 #[s0, s1, .val (.long j2), .second, s4, s5, s6, .val (.ref o7), s8, s9, s10, s11, s12, s13, s14, s15, s16, s17, s18, s19, s20, s21, s22, s23] [(.int (g (20 : Int32))), (.int (20 : Int32)), (.ref o7)])) _
  refine st8 _ ?_
  exact kt
set_option maxRecDepth 65536 in
set_option maxHeartbeats 40000000 in
theorem own_A21 {p : Program} {l : Launch} {e : Env} {s : State} {m : MethodId} {args : Array Value} {below : List Frame} {meth : Method} {c : Code} {T0 : State} {locs : List Loc} {cells slots : Nat} {Z : State} {a0 : Array Value} {h0 : Heap} (s0 : Slot) (s1 : Slot) (j2 : Int64) (s4 : Slot) (s5 : Slot) (s6 : Slot) (o7 : Addr) (s8 : Slot) (s9 : Slot) (s10 : Slot) (s11 : Slot) (s12 : Slot) (s13 : Slot) (s14 : Slot) (s15 : Slot) (s16 : Slot) (s17 : Slot) (s18 : Slot) (s19 : Slot) (s20 : Slot) (s21 : Slot) (s22 : Slot) (s23 : Slot) (g : Int32 → Int32) (kA : ClassId) (vs : List Value) (n0 : Nat)
    (X0 : Stand p l e room_1 s m args below meth c T0 locs cells slots) (hx : p.tables.exec = Jvm.exec) (hZ : Z.Warmed39 s.vm) (hw : ∀ d ∈ tables_1, d.before a0 Z = true) (hby : c.code = code) (hml : c.maxLocals = 24) (hown : s.vm.findClass "com/example/bandmark/bandmark/PlainDecimalIsCompactPinLaw" = some m.cls) (e0 : T0.heap = h0) (hg : ∀ k, own_dg j2 k = g k) (V : Arv Z h0 o7 kA .char (22 : Int32) vs (.int (0 : Int32))) (hvs : 21 < vs.length) (Z0 : n0 ≤ h0.size) (N0 : Fr n0 locs) (hcl : cells ≤ room_1.cells) (hsl : slots ≤ room_1.slots) (g_o7 : n0 ≤ o7) :
    ∃ (T' : State) (locs' : List Loc), Stand p l e room_1 s m args below meth c T' locs' cells slots ∧ Fr n0 locs' ∧ Keep h0 T'.heap [o7] ∧ Arv Z T'.heap o7 kA .char (22 : Int32) (vs.set 21 (.int (nar .char (g (21 : Int32))))) (.int (0 : Int32)) ∧
      ∀ target, Steps p.tables e below (T'.setTop (mkF m 236 #[s0, s1, .val (.long j2), .second, s4, s5, s6, .val (.ref o7), s8, s9, s10, s11, s12, s13, s14, s15, s16, s17, s18, s19, s20, s21, s22, s23] [])) target → Steps p.tables e below (T0.setTop (mkF m 225 #[s0, s1, .val (.long j2), .second, s4, s5, s6, .val (.ref o7), s8, s9, s10, s11, s12, s13, s14, s15, s16, s17, s18, s19, s20, s21, s22, s23] [])) target := by
  obtain ⟨cl_o7, Ar_o7, q7, S7, M7, H7, G7⟩ := V
  have hin235 : ¬ ((21 : Int32) < 0 ∨ cl_o7.slots.size ≤ ((21 : Int32)).toNatClampNeg) := inb_of S7 ⟨by decide, by decide⟩
  obtain ⟨_, _, ⟨T7, L7, k7, n7⟩, -, X7, ⟨Lc7, hQ7, l7, y7, z7⟩, st7⟩ := Jvm.LawKit.callS X0 hx (y := (⟨"com/example/bandmark/bandmark/PlainDecimalIsCompactPinLaw", "dg", "(JI)C"⟩ : MethodName)) hown (mvT hZ (hw _ (List.mem_of_getElem? (i := 1) rfl))) (mvT hZ (hw _ (List.mem_of_getElem? (i := 2) rfl))) (mvT hZ (hw _ (List.mem_of_getElem? (i := 3) rfl))) (mvT hZ (hw _ (List.mem_of_getElem? (i := 4) rfl))) (by decide) (backOf (W := 2) (r1g l Z a0 hw [] j2 (21 : Int32) (g (21 : Int32)) h0 n0 Z0 (hg _)) hZ (hw _ (List.mem_of_getElem? (i := 4) rfl)) (hw _ (List.mem_of_getElem? (i := 3) rfl)) (by decide) (by decide)) (g := (mkF m 232 #[s0, s1, .val (.long j2), .second, s4, s5, s6, .val (.ref o7), s8, s9, s10, s11, s12, s13, s14, s15, s16, s17, s18, s19, s20, s21, s22, s23] [(.int (21 : Int32)), (.long j2), (.int (21 : Int32)), (.ref o7)])) rfl (by rw [hml]; rfl) (argsL := [(.long j2), (.int (21 : Int32))]) (rest := [(.int (21 : Int32)), (.ref o7)]) (lenOf pd_0_0 rfl) rfl (by show 2 * 0 + _ ≤ _; exact Nat.le_of_eq rfl) (hb hby at_232) (fun _ _ => ⟨rfl, e0, hcl, hsl⟩)
  dsimp only [Pt.U, Pt.locs, Pt.cells, Pt.slots] at X7 l7 y7 z7 st7 hQ7
  subst l7 y7 z7
  obtain ⟨rfl, N7q, e7⟩ := hQ7
  have N7 := Fr.app N0 N7q
  obtain ⟨T8, h8, X8, e8, W8, st8⟩ := stC X7 hx hZ e7 Ar_o7 (j := (21 : Int32)) hin235 (g := (mkF m 235 #[s0, s1, .val (.long j2), .second, s4, s5, s6, .val (.ref o7), s8, s9, s10, s11, s12, s13, s14, s15, s16, s17, s18, s19, s20, s21, s22, s23] [(.int (g (21 : Int32))), (.int (21 : Int32)), (.ref o7)])) rfl rfl (hb hby at_235)
  have N8 := Fr.snoc X8 N7 g_o7
  have K8 : Keep h0 h8 [o7] := (Keep.refl h0 [o7]).wr W8 (Or.inl (List.mem_of_getElem? (i := 0) rfl))
  refine ⟨T8, _, X8, N8, by rw [e8]; exact K8, by rw [e8]; exact Arv.set Ar_o7 q7 S7 M7 H7 G7 (fits_nar_char _) W8 21 rfl hvs, fun target kt => ?_⟩
  show Steps p.tables e below (T0.setTop (mkF m 225 #[s0, s1, .val (.long j2), .second, s4, s5, s6, .val (.ref o7), s8, s9, s10, s11, s12, s13, s14, s15, s16, s17, s18, s19, s20, s21, s22, s23] [])) _
  refine XS.aload X0.here hx rfl (hb hby at_225) rfl rfl ?_
  show Steps p.tables e below (T0.setTop (mkF m 227 #[s0, s1, .val (.long j2), .second, s4, s5, s6, .val (.ref o7), s8, s9, s10, s11, s12, s13, s14, s15, s16, s17, s18, s19, s20, s21, s22, s23] [(.ref o7)])) _
  refine XS.bipush X0.here hx rfl (hb hby at_227) ?_
  show Steps p.tables e below (T0.setTop (mkF m 229 #[s0, s1, .val (.long j2), .second, s4, s5, s6, .val (.ref o7), s8, s9, s10, s11, s12, s13, s14, s15, s16, s17, s18, s19, s20, s21, s22, s23] [(.int (21 : Int32)), (.ref o7)])) _
  refine XS.lloadN X0.here hx rfl (hb hby at_229) rfl ?_
  show Steps p.tables e below (T0.setTop (mkF m 230 #[s0, s1, .val (.long j2), .second, s4, s5, s6, .val (.ref o7), s8, s9, s10, s11, s12, s13, s14, s15, s16, s17, s18, s19, s20, s21, s22, s23] [(.long j2), (.int (21 : Int32)), (.ref o7)])) _
  refine XS.bipush X0.here hx rfl (hb hby at_230) ?_
  show Steps p.tables e below (T0.setTop (mkF m 232 #[s0, s1, .val (.long j2), .second, s4, s5, s6, .val (.ref o7), s8, s9, s10, s11, s12, s13, s14, s15, s16, s17, s18, s19, s20, s21, s22, s23] [(.int (21 : Int32)), (.long j2), (.int (21 : Int32)), (.ref o7)])) _
  refine st7 _ ?_
  show Steps p.tables e below (T7.setTop (mkF m 235 #[s0, s1, .val (.long j2), .second, s4, s5, s6, .val (.ref o7), s8, s9, s10, s11, s12, s13, s14, s15, s16, s17, s18, s19, s20, s21, s22, s23] [(.int (g (21 : Int32))), (.int (21 : Int32)), (.ref o7)])) _
  refine st8 _ ?_
  exact kt
theorem own_A {p : Program} {l : Launch} {e : Env} {s : State} {m : MethodId} {args : Array Value} {below : List Frame} {meth : Method} {c : Code} {T0 : State} {locs : List Loc} {Z : State} {a0 : Array Value} {h0 : Heap} (s0 s1 : Slot) (j2 : Int64) (s4 s5 s6 s8 s9 s10 s11 s12 s13 s14 s15 s16 s17 s18 s19 s20 s21 s22 s23 : Slot) (g : Int32 → Int32) (n0 : Nat)
    (X0 : Stand p l e room_1 s m args below meth c T0 locs 0 0) (hx : p.tables.exec = Jvm.exec) (hZ : Z.Warmed39 s.vm) (hw : ∀ d ∈ tables_1, d.before a0 Z = true) (hby : c.code = code) (hml : c.maxLocals = 24) (hown : s.vm.findClass "com/example/bandmark/bandmark/PlainDecimalIsCompactPinLaw" = some m.cls) (e0 : T0.heap = h0) (hg : ∀ k, own_dg j2 k = g k) (Z0 : n0 ≤ h0.size) (N0 : Fr n0 locs) :
    ∃ (T' : State) (locs' : List Loc) (b7 : Addr) (k7 : ClassId), Stand p l e room_1 s m args below meth c T' locs' 1 22 ∧ Fr n0 locs' ∧ Keep h0 T'.heap [] ∧ n0 ≤ b7 ∧ Arv Z T'.heap b7 k7 .char (22 : Int32) ((own_cs g).map Value.int) (.int (0 : Int32)) ∧
      ∀ target, Steps p.tables e below (T'.setTop (mkF m 236 #[s0, s1, .val (.long j2), .second, s4, s5, s6, .val (.ref b7), s8, s9, s10, s11, s12, s13, s14, s15, s16, s17, s18, s19, s20, s21, s22, s23] [])) target → Steps p.tables e below (T0.setTop (mkF m 0 #[s0, s1, .val (.long j2), .second, s4, s5, s6, .unset, s8, s9, s10, s11, s12, s13, s14, s15, s16, s17, s18, s19, s20, s21, s22, s23] [])) target := by
  obtain ⟨T7, h7, k7, X7, e7, E7, A7, st7⟩ := newP X0 hx hZ (hw _ (List.mem_of_getElem? (i := 0) rfl)) e0 (g := (mkF m 2 #[s0, s1, .val (.long j2), .second, s4, s5, s6, .unset, s8, s9, s10, s11, s12, s13, s14, s15, s16, s17, s18, s19, s20, s21, s22, s23] [(.int (22 : Int32))])) rfl (hb hby at_2) rfl (by decide) (cap := 22) (by decide) (by decide) (by decide) (by decide)
  obtain ⟨b7, g7⟩ : ∃ z, z = h0.size := ⟨_, rfl⟩
  rw [← g7] at A7 st7
  have V0 : Arv Z h7 b7 k7 .char (22 : Int32) [(.int (0 : Int32)), (.int (0 : Int32)), (.int (0 : Int32)), (.int (0 : Int32)), (.int (0 : Int32)), (.int (0 : Int32)), (.int (0 : Int32)), (.int (0 : Int32)), (.int (0 : Int32)), (.int (0 : Int32)), (.int (0 : Int32)), (.int (0 : Int32)), (.int (0 : Int32)), (.int (0 : Int32)), (.int (0 : Int32)), (.int (0 : Int32)), (.int (0 : Int32)), (.int (0 : Int32)), (.int (0 : Int32)), (.int (0 : Int32)), (.int (0 : Int32)), (.int (0 : Int32))] (.int (0 : Int32)) := (Arv.new A7 (by decide)).pad (pad_rep [] (.int (0 : Int32)) 22)
  have gb : n0 ≤ b7 := Nat.le_trans Z0 (Nat.le_of_eq g7.symm)
  have sz : h0.size ≤ b7 := Nat.le_of_eq g7.symm
  have K0 : Keep h0 h7 [] := (Keep.refl h0 []).ext E7
  obtain ⟨U1, L1, Y1, M1, J1, W1, t1⟩ := own_A0 s0 s1 j2 s4 s5 s6 b7 s8 s9 s10 s11 s12 s13 s14 s15 s16 s17 s18 s19 s20 s21 s22 s23 g k7 [(.int (0 : Int32)), (.int (0 : Int32)), (.int (0 : Int32)), (.int (0 : Int32)), (.int (0 : Int32)), (.int (0 : Int32)), (.int (0 : Int32)), (.int (0 : Int32)), (.int (0 : Int32)), (.int (0 : Int32)), (.int (0 : Int32)), (.int (0 : Int32)), (.int (0 : Int32)), (.int (0 : Int32)), (.int (0 : Int32)), (.int (0 : Int32)), (.int (0 : Int32)), (.int (0 : Int32)), (.int (0 : Int32)), (.int (0 : Int32)), (.int (0 : Int32)), (.int (0 : Int32))] n0 X7 hx hZ hw hby hml hown e7 hg V0 (Nat.le_of_ble_eq_true rfl) (Nat.le_trans Z0 K0.1) N0 (by decide) (by decide) gb
  have V1 : Arv Z U1.heap b7 k7 .char (22 : Int32) [(.int (nar .char (g (0 : Int32)))), (.int (0 : Int32)), (.int (0 : Int32)), (.int (0 : Int32)), (.int (0 : Int32)), (.int (0 : Int32)), (.int (0 : Int32)), (.int (0 : Int32)), (.int (0 : Int32)), (.int (0 : Int32)), (.int (0 : Int32)), (.int (0 : Int32)), (.int (0 : Int32)), (.int (0 : Int32)), (.int (0 : Int32)), (.int (0 : Int32)), (.int (0 : Int32)), (.int (0 : Int32)), (.int (0 : Int32)), (.int (0 : Int32)), (.int (0 : Int32)), (.int (0 : Int32))] (.int (0 : Int32)) := W1
  have K1 : Keep h0 U1.heap [] := K0.trans J1 (allS (Or.inr sz) all0)
  obtain ⟨U2, L2, Y2, M2, J2, W2, t2⟩ := own_A1 s0 s1 j2 s4 s5 s6 b7 s8 s9 s10 s11 s12 s13 s14 s15 s16 s17 s18 s19 s20 s21 s22 s23 g k7 [(.int (nar .char (g (0 : Int32)))), (.int (0 : Int32)), (.int (0 : Int32)), (.int (0 : Int32)), (.int (0 : Int32)), (.int (0 : Int32)), (.int (0 : Int32)), (.int (0 : Int32)), (.int (0 : Int32)), (.int (0 : Int32)), (.int (0 : Int32)), (.int (0 : Int32)), (.int (0 : Int32)), (.int (0 : Int32)), (.int (0 : Int32)), (.int (0 : Int32)), (.int (0 : Int32)), (.int (0 : Int32)), (.int (0 : Int32)), (.int (0 : Int32)), (.int (0 : Int32)), (.int (0 : Int32))] n0 Y1 hx hZ hw hby hml hown rfl hg V1 (Nat.le_of_ble_eq_true rfl) (Nat.le_trans Z0 K1.1) M1 (by decide) (by decide) gb
  have V2 : Arv Z U2.heap b7 k7 .char (22 : Int32) [(.int (nar .char (g (0 : Int32)))), (.int (nar .char (g (1 : Int32)))), (.int (0 : Int32)), (.int (0 : Int32)), (.int (0 : Int32)), (.int (0 : Int32)), (.int (0 : Int32)), (.int (0 : Int32)), (.int (0 : Int32)), (.int (0 : Int32)), (.int (0 : Int32)), (.int (0 : Int32)), (.int (0 : Int32)), (.int (0 : Int32)), (.int (0 : Int32)), (.int (0 : Int32)), (.int (0 : Int32)), (.int (0 : Int32)), (.int (0 : Int32)), (.int (0 : Int32)), (.int (0 : Int32)), (.int (0 : Int32))] (.int (0 : Int32)) := W2
  have K2 : Keep h0 U2.heap [] := K1.trans J2 (allS (Or.inr sz) all0)
  obtain ⟨U3, L3, Y3, M3, J3, W3, t3⟩ := own_A2 s0 s1 j2 s4 s5 s6 b7 s8 s9 s10 s11 s12 s13 s14 s15 s16 s17 s18 s19 s20 s21 s22 s23 g k7 [(.int (nar .char (g (0 : Int32)))), (.int (nar .char (g (1 : Int32)))), (.int (0 : Int32)), (.int (0 : Int32)), (.int (0 : Int32)), (.int (0 : Int32)), (.int (0 : Int32)), (.int (0 : Int32)), (.int (0 : Int32)), (.int (0 : Int32)), (.int (0 : Int32)), (.int (0 : Int32)), (.int (0 : Int32)), (.int (0 : Int32)), (.int (0 : Int32)), (.int (0 : Int32)), (.int (0 : Int32)), (.int (0 : Int32)), (.int (0 : Int32)), (.int (0 : Int32)), (.int (0 : Int32)), (.int (0 : Int32))] n0 Y2 hx hZ hw hby hml hown rfl hg V2 (Nat.le_of_ble_eq_true rfl) (Nat.le_trans Z0 K2.1) M2 (by decide) (by decide) gb
  have V3 : Arv Z U3.heap b7 k7 .char (22 : Int32) [(.int (nar .char (g (0 : Int32)))), (.int (nar .char (g (1 : Int32)))), (.int (nar .char (g (2 : Int32)))), (.int (0 : Int32)), (.int (0 : Int32)), (.int (0 : Int32)), (.int (0 : Int32)), (.int (0 : Int32)), (.int (0 : Int32)), (.int (0 : Int32)), (.int (0 : Int32)), (.int (0 : Int32)), (.int (0 : Int32)), (.int (0 : Int32)), (.int (0 : Int32)), (.int (0 : Int32)), (.int (0 : Int32)), (.int (0 : Int32)), (.int (0 : Int32)), (.int (0 : Int32)), (.int (0 : Int32)), (.int (0 : Int32))] (.int (0 : Int32)) := W3
  have K3 : Keep h0 U3.heap [] := K2.trans J3 (allS (Or.inr sz) all0)
  obtain ⟨U4, L4, Y4, M4, J4, W4, t4⟩ := own_A3 s0 s1 j2 s4 s5 s6 b7 s8 s9 s10 s11 s12 s13 s14 s15 s16 s17 s18 s19 s20 s21 s22 s23 g k7 [(.int (nar .char (g (0 : Int32)))), (.int (nar .char (g (1 : Int32)))), (.int (nar .char (g (2 : Int32)))), (.int (0 : Int32)), (.int (0 : Int32)), (.int (0 : Int32)), (.int (0 : Int32)), (.int (0 : Int32)), (.int (0 : Int32)), (.int (0 : Int32)), (.int (0 : Int32)), (.int (0 : Int32)), (.int (0 : Int32)), (.int (0 : Int32)), (.int (0 : Int32)), (.int (0 : Int32)), (.int (0 : Int32)), (.int (0 : Int32)), (.int (0 : Int32)), (.int (0 : Int32)), (.int (0 : Int32)), (.int (0 : Int32))] n0 Y3 hx hZ hw hby hml hown rfl hg V3 (Nat.le_of_ble_eq_true rfl) (Nat.le_trans Z0 K3.1) M3 (by decide) (by decide) gb
  have V4 : Arv Z U4.heap b7 k7 .char (22 : Int32) [(.int (nar .char (g (0 : Int32)))), (.int (nar .char (g (1 : Int32)))), (.int (nar .char (g (2 : Int32)))), (.int (nar .char (g (3 : Int32)))), (.int (0 : Int32)), (.int (0 : Int32)), (.int (0 : Int32)), (.int (0 : Int32)), (.int (0 : Int32)), (.int (0 : Int32)), (.int (0 : Int32)), (.int (0 : Int32)), (.int (0 : Int32)), (.int (0 : Int32)), (.int (0 : Int32)), (.int (0 : Int32)), (.int (0 : Int32)), (.int (0 : Int32)), (.int (0 : Int32)), (.int (0 : Int32)), (.int (0 : Int32)), (.int (0 : Int32))] (.int (0 : Int32)) := W4
  have K4 : Keep h0 U4.heap [] := K3.trans J4 (allS (Or.inr sz) all0)
  obtain ⟨U5, L5, Y5, M5, J5, W5, t5⟩ := own_A4 s0 s1 j2 s4 s5 s6 b7 s8 s9 s10 s11 s12 s13 s14 s15 s16 s17 s18 s19 s20 s21 s22 s23 g k7 [(.int (nar .char (g (0 : Int32)))), (.int (nar .char (g (1 : Int32)))), (.int (nar .char (g (2 : Int32)))), (.int (nar .char (g (3 : Int32)))), (.int (0 : Int32)), (.int (0 : Int32)), (.int (0 : Int32)), (.int (0 : Int32)), (.int (0 : Int32)), (.int (0 : Int32)), (.int (0 : Int32)), (.int (0 : Int32)), (.int (0 : Int32)), (.int (0 : Int32)), (.int (0 : Int32)), (.int (0 : Int32)), (.int (0 : Int32)), (.int (0 : Int32)), (.int (0 : Int32)), (.int (0 : Int32)), (.int (0 : Int32)), (.int (0 : Int32))] n0 Y4 hx hZ hw hby hml hown rfl hg V4 (Nat.le_of_ble_eq_true rfl) (Nat.le_trans Z0 K4.1) M4 (by decide) (by decide) gb
  have V5 : Arv Z U5.heap b7 k7 .char (22 : Int32) [(.int (nar .char (g (0 : Int32)))), (.int (nar .char (g (1 : Int32)))), (.int (nar .char (g (2 : Int32)))), (.int (nar .char (g (3 : Int32)))), (.int (nar .char (g (4 : Int32)))), (.int (0 : Int32)), (.int (0 : Int32)), (.int (0 : Int32)), (.int (0 : Int32)), (.int (0 : Int32)), (.int (0 : Int32)), (.int (0 : Int32)), (.int (0 : Int32)), (.int (0 : Int32)), (.int (0 : Int32)), (.int (0 : Int32)), (.int (0 : Int32)), (.int (0 : Int32)), (.int (0 : Int32)), (.int (0 : Int32)), (.int (0 : Int32)), (.int (0 : Int32))] (.int (0 : Int32)) := W5
  have K5 : Keep h0 U5.heap [] := K4.trans J5 (allS (Or.inr sz) all0)
  obtain ⟨U6, L6, Y6, M6, J6, W6, t6⟩ := own_A5 s0 s1 j2 s4 s5 s6 b7 s8 s9 s10 s11 s12 s13 s14 s15 s16 s17 s18 s19 s20 s21 s22 s23 g k7 [(.int (nar .char (g (0 : Int32)))), (.int (nar .char (g (1 : Int32)))), (.int (nar .char (g (2 : Int32)))), (.int (nar .char (g (3 : Int32)))), (.int (nar .char (g (4 : Int32)))), (.int (0 : Int32)), (.int (0 : Int32)), (.int (0 : Int32)), (.int (0 : Int32)), (.int (0 : Int32)), (.int (0 : Int32)), (.int (0 : Int32)), (.int (0 : Int32)), (.int (0 : Int32)), (.int (0 : Int32)), (.int (0 : Int32)), (.int (0 : Int32)), (.int (0 : Int32)), (.int (0 : Int32)), (.int (0 : Int32)), (.int (0 : Int32)), (.int (0 : Int32))] n0 Y5 hx hZ hw hby hml hown rfl hg V5 (Nat.le_of_ble_eq_true rfl) (Nat.le_trans Z0 K5.1) M5 (by decide) (by decide) gb
  have V6 : Arv Z U6.heap b7 k7 .char (22 : Int32) [(.int (nar .char (g (0 : Int32)))), (.int (nar .char (g (1 : Int32)))), (.int (nar .char (g (2 : Int32)))), (.int (nar .char (g (3 : Int32)))), (.int (nar .char (g (4 : Int32)))), (.int (nar .char (g (5 : Int32)))), (.int (0 : Int32)), (.int (0 : Int32)), (.int (0 : Int32)), (.int (0 : Int32)), (.int (0 : Int32)), (.int (0 : Int32)), (.int (0 : Int32)), (.int (0 : Int32)), (.int (0 : Int32)), (.int (0 : Int32)), (.int (0 : Int32)), (.int (0 : Int32)), (.int (0 : Int32)), (.int (0 : Int32)), (.int (0 : Int32)), (.int (0 : Int32))] (.int (0 : Int32)) := W6
  have K6 : Keep h0 U6.heap [] := K5.trans J6 (allS (Or.inr sz) all0)
  obtain ⟨U7, L7, Y7, M7, J7, W7, t7⟩ := own_A6 s0 s1 j2 s4 s5 s6 b7 s8 s9 s10 s11 s12 s13 s14 s15 s16 s17 s18 s19 s20 s21 s22 s23 g k7 [(.int (nar .char (g (0 : Int32)))), (.int (nar .char (g (1 : Int32)))), (.int (nar .char (g (2 : Int32)))), (.int (nar .char (g (3 : Int32)))), (.int (nar .char (g (4 : Int32)))), (.int (nar .char (g (5 : Int32)))), (.int (0 : Int32)), (.int (0 : Int32)), (.int (0 : Int32)), (.int (0 : Int32)), (.int (0 : Int32)), (.int (0 : Int32)), (.int (0 : Int32)), (.int (0 : Int32)), (.int (0 : Int32)), (.int (0 : Int32)), (.int (0 : Int32)), (.int (0 : Int32)), (.int (0 : Int32)), (.int (0 : Int32)), (.int (0 : Int32)), (.int (0 : Int32))] n0 Y6 hx hZ hw hby hml hown rfl hg V6 (Nat.le_of_ble_eq_true rfl) (Nat.le_trans Z0 K6.1) M6 (by decide) (by decide) gb
  have V7 : Arv Z U7.heap b7 k7 .char (22 : Int32) [(.int (nar .char (g (0 : Int32)))), (.int (nar .char (g (1 : Int32)))), (.int (nar .char (g (2 : Int32)))), (.int (nar .char (g (3 : Int32)))), (.int (nar .char (g (4 : Int32)))), (.int (nar .char (g (5 : Int32)))), (.int (nar .char (g (6 : Int32)))), (.int (0 : Int32)), (.int (0 : Int32)), (.int (0 : Int32)), (.int (0 : Int32)), (.int (0 : Int32)), (.int (0 : Int32)), (.int (0 : Int32)), (.int (0 : Int32)), (.int (0 : Int32)), (.int (0 : Int32)), (.int (0 : Int32)), (.int (0 : Int32)), (.int (0 : Int32)), (.int (0 : Int32)), (.int (0 : Int32))] (.int (0 : Int32)) := W7
  have K7 : Keep h0 U7.heap [] := K6.trans J7 (allS (Or.inr sz) all0)
  obtain ⟨U8, L8, Y8, M8, J8, W8, t8⟩ := own_A7 s0 s1 j2 s4 s5 s6 b7 s8 s9 s10 s11 s12 s13 s14 s15 s16 s17 s18 s19 s20 s21 s22 s23 g k7 [(.int (nar .char (g (0 : Int32)))), (.int (nar .char (g (1 : Int32)))), (.int (nar .char (g (2 : Int32)))), (.int (nar .char (g (3 : Int32)))), (.int (nar .char (g (4 : Int32)))), (.int (nar .char (g (5 : Int32)))), (.int (nar .char (g (6 : Int32)))), (.int (0 : Int32)), (.int (0 : Int32)), (.int (0 : Int32)), (.int (0 : Int32)), (.int (0 : Int32)), (.int (0 : Int32)), (.int (0 : Int32)), (.int (0 : Int32)), (.int (0 : Int32)), (.int (0 : Int32)), (.int (0 : Int32)), (.int (0 : Int32)), (.int (0 : Int32)), (.int (0 : Int32)), (.int (0 : Int32))] n0 Y7 hx hZ hw hby hml hown rfl hg V7 (Nat.le_of_ble_eq_true rfl) (Nat.le_trans Z0 K7.1) M7 (by decide) (by decide) gb
  have V8 : Arv Z U8.heap b7 k7 .char (22 : Int32) [(.int (nar .char (g (0 : Int32)))), (.int (nar .char (g (1 : Int32)))), (.int (nar .char (g (2 : Int32)))), (.int (nar .char (g (3 : Int32)))), (.int (nar .char (g (4 : Int32)))), (.int (nar .char (g (5 : Int32)))), (.int (nar .char (g (6 : Int32)))), (.int (nar .char (g (7 : Int32)))), (.int (0 : Int32)), (.int (0 : Int32)), (.int (0 : Int32)), (.int (0 : Int32)), (.int (0 : Int32)), (.int (0 : Int32)), (.int (0 : Int32)), (.int (0 : Int32)), (.int (0 : Int32)), (.int (0 : Int32)), (.int (0 : Int32)), (.int (0 : Int32)), (.int (0 : Int32)), (.int (0 : Int32))] (.int (0 : Int32)) := W8
  have K8 : Keep h0 U8.heap [] := K7.trans J8 (allS (Or.inr sz) all0)
  obtain ⟨U9, L9, Y9, M9, J9, W9, t9⟩ := own_A8 s0 s1 j2 s4 s5 s6 b7 s8 s9 s10 s11 s12 s13 s14 s15 s16 s17 s18 s19 s20 s21 s22 s23 g k7 [(.int (nar .char (g (0 : Int32)))), (.int (nar .char (g (1 : Int32)))), (.int (nar .char (g (2 : Int32)))), (.int (nar .char (g (3 : Int32)))), (.int (nar .char (g (4 : Int32)))), (.int (nar .char (g (5 : Int32)))), (.int (nar .char (g (6 : Int32)))), (.int (nar .char (g (7 : Int32)))), (.int (0 : Int32)), (.int (0 : Int32)), (.int (0 : Int32)), (.int (0 : Int32)), (.int (0 : Int32)), (.int (0 : Int32)), (.int (0 : Int32)), (.int (0 : Int32)), (.int (0 : Int32)), (.int (0 : Int32)), (.int (0 : Int32)), (.int (0 : Int32)), (.int (0 : Int32)), (.int (0 : Int32))] n0 Y8 hx hZ hw hby hml hown rfl hg V8 (Nat.le_of_ble_eq_true rfl) (Nat.le_trans Z0 K8.1) M8 (by decide) (by decide) gb
  have V9 : Arv Z U9.heap b7 k7 .char (22 : Int32) [(.int (nar .char (g (0 : Int32)))), (.int (nar .char (g (1 : Int32)))), (.int (nar .char (g (2 : Int32)))), (.int (nar .char (g (3 : Int32)))), (.int (nar .char (g (4 : Int32)))), (.int (nar .char (g (5 : Int32)))), (.int (nar .char (g (6 : Int32)))), (.int (nar .char (g (7 : Int32)))), (.int (nar .char (g (8 : Int32)))), (.int (0 : Int32)), (.int (0 : Int32)), (.int (0 : Int32)), (.int (0 : Int32)), (.int (0 : Int32)), (.int (0 : Int32)), (.int (0 : Int32)), (.int (0 : Int32)), (.int (0 : Int32)), (.int (0 : Int32)), (.int (0 : Int32)), (.int (0 : Int32)), (.int (0 : Int32))] (.int (0 : Int32)) := W9
  have K9 : Keep h0 U9.heap [] := K8.trans J9 (allS (Or.inr sz) all0)
  obtain ⟨U10, L10, Y10, M10, J10, W10, t10⟩ := own_A9 s0 s1 j2 s4 s5 s6 b7 s8 s9 s10 s11 s12 s13 s14 s15 s16 s17 s18 s19 s20 s21 s22 s23 g k7 [(.int (nar .char (g (0 : Int32)))), (.int (nar .char (g (1 : Int32)))), (.int (nar .char (g (2 : Int32)))), (.int (nar .char (g (3 : Int32)))), (.int (nar .char (g (4 : Int32)))), (.int (nar .char (g (5 : Int32)))), (.int (nar .char (g (6 : Int32)))), (.int (nar .char (g (7 : Int32)))), (.int (nar .char (g (8 : Int32)))), (.int (0 : Int32)), (.int (0 : Int32)), (.int (0 : Int32)), (.int (0 : Int32)), (.int (0 : Int32)), (.int (0 : Int32)), (.int (0 : Int32)), (.int (0 : Int32)), (.int (0 : Int32)), (.int (0 : Int32)), (.int (0 : Int32)), (.int (0 : Int32)), (.int (0 : Int32))] n0 Y9 hx hZ hw hby hml hown rfl hg V9 (Nat.le_of_ble_eq_true rfl) (Nat.le_trans Z0 K9.1) M9 (by decide) (by decide) gb
  have V10 : Arv Z U10.heap b7 k7 .char (22 : Int32) [(.int (nar .char (g (0 : Int32)))), (.int (nar .char (g (1 : Int32)))), (.int (nar .char (g (2 : Int32)))), (.int (nar .char (g (3 : Int32)))), (.int (nar .char (g (4 : Int32)))), (.int (nar .char (g (5 : Int32)))), (.int (nar .char (g (6 : Int32)))), (.int (nar .char (g (7 : Int32)))), (.int (nar .char (g (8 : Int32)))), (.int (nar .char (g (9 : Int32)))), (.int (0 : Int32)), (.int (0 : Int32)), (.int (0 : Int32)), (.int (0 : Int32)), (.int (0 : Int32)), (.int (0 : Int32)), (.int (0 : Int32)), (.int (0 : Int32)), (.int (0 : Int32)), (.int (0 : Int32)), (.int (0 : Int32)), (.int (0 : Int32))] (.int (0 : Int32)) := W10
  have K10 : Keep h0 U10.heap [] := K9.trans J10 (allS (Or.inr sz) all0)
  obtain ⟨U11, L11, Y11, M11, J11, W11, t11⟩ := own_A10 s0 s1 j2 s4 s5 s6 b7 s8 s9 s10 s11 s12 s13 s14 s15 s16 s17 s18 s19 s20 s21 s22 s23 g k7 [(.int (nar .char (g (0 : Int32)))), (.int (nar .char (g (1 : Int32)))), (.int (nar .char (g (2 : Int32)))), (.int (nar .char (g (3 : Int32)))), (.int (nar .char (g (4 : Int32)))), (.int (nar .char (g (5 : Int32)))), (.int (nar .char (g (6 : Int32)))), (.int (nar .char (g (7 : Int32)))), (.int (nar .char (g (8 : Int32)))), (.int (nar .char (g (9 : Int32)))), (.int (0 : Int32)), (.int (0 : Int32)), (.int (0 : Int32)), (.int (0 : Int32)), (.int (0 : Int32)), (.int (0 : Int32)), (.int (0 : Int32)), (.int (0 : Int32)), (.int (0 : Int32)), (.int (0 : Int32)), (.int (0 : Int32)), (.int (0 : Int32))] n0 Y10 hx hZ hw hby hml hown rfl hg V10 (Nat.le_of_ble_eq_true rfl) (Nat.le_trans Z0 K10.1) M10 (by decide) (by decide) gb
  have V11 : Arv Z U11.heap b7 k7 .char (22 : Int32) [(.int (nar .char (g (0 : Int32)))), (.int (nar .char (g (1 : Int32)))), (.int (nar .char (g (2 : Int32)))), (.int (nar .char (g (3 : Int32)))), (.int (nar .char (g (4 : Int32)))), (.int (nar .char (g (5 : Int32)))), (.int (nar .char (g (6 : Int32)))), (.int (nar .char (g (7 : Int32)))), (.int (nar .char (g (8 : Int32)))), (.int (nar .char (g (9 : Int32)))), (.int (nar .char (g (10 : Int32)))), (.int (0 : Int32)), (.int (0 : Int32)), (.int (0 : Int32)), (.int (0 : Int32)), (.int (0 : Int32)), (.int (0 : Int32)), (.int (0 : Int32)), (.int (0 : Int32)), (.int (0 : Int32)), (.int (0 : Int32)), (.int (0 : Int32))] (.int (0 : Int32)) := W11
  have K11 : Keep h0 U11.heap [] := K10.trans J11 (allS (Or.inr sz) all0)
  obtain ⟨U12, L12, Y12, M12, J12, W12, t12⟩ := own_A11 s0 s1 j2 s4 s5 s6 b7 s8 s9 s10 s11 s12 s13 s14 s15 s16 s17 s18 s19 s20 s21 s22 s23 g k7 [(.int (nar .char (g (0 : Int32)))), (.int (nar .char (g (1 : Int32)))), (.int (nar .char (g (2 : Int32)))), (.int (nar .char (g (3 : Int32)))), (.int (nar .char (g (4 : Int32)))), (.int (nar .char (g (5 : Int32)))), (.int (nar .char (g (6 : Int32)))), (.int (nar .char (g (7 : Int32)))), (.int (nar .char (g (8 : Int32)))), (.int (nar .char (g (9 : Int32)))), (.int (nar .char (g (10 : Int32)))), (.int (0 : Int32)), (.int (0 : Int32)), (.int (0 : Int32)), (.int (0 : Int32)), (.int (0 : Int32)), (.int (0 : Int32)), (.int (0 : Int32)), (.int (0 : Int32)), (.int (0 : Int32)), (.int (0 : Int32)), (.int (0 : Int32))] n0 Y11 hx hZ hw hby hml hown rfl hg V11 (Nat.le_of_ble_eq_true rfl) (Nat.le_trans Z0 K11.1) M11 (by decide) (by decide) gb
  have V12 : Arv Z U12.heap b7 k7 .char (22 : Int32) [(.int (nar .char (g (0 : Int32)))), (.int (nar .char (g (1 : Int32)))), (.int (nar .char (g (2 : Int32)))), (.int (nar .char (g (3 : Int32)))), (.int (nar .char (g (4 : Int32)))), (.int (nar .char (g (5 : Int32)))), (.int (nar .char (g (6 : Int32)))), (.int (nar .char (g (7 : Int32)))), (.int (nar .char (g (8 : Int32)))), (.int (nar .char (g (9 : Int32)))), (.int (nar .char (g (10 : Int32)))), (.int (nar .char (g (11 : Int32)))), (.int (0 : Int32)), (.int (0 : Int32)), (.int (0 : Int32)), (.int (0 : Int32)), (.int (0 : Int32)), (.int (0 : Int32)), (.int (0 : Int32)), (.int (0 : Int32)), (.int (0 : Int32)), (.int (0 : Int32))] (.int (0 : Int32)) := W12
  have K12 : Keep h0 U12.heap [] := K11.trans J12 (allS (Or.inr sz) all0)
  obtain ⟨U13, L13, Y13, M13, J13, W13, t13⟩ := own_A12 s0 s1 j2 s4 s5 s6 b7 s8 s9 s10 s11 s12 s13 s14 s15 s16 s17 s18 s19 s20 s21 s22 s23 g k7 [(.int (nar .char (g (0 : Int32)))), (.int (nar .char (g (1 : Int32)))), (.int (nar .char (g (2 : Int32)))), (.int (nar .char (g (3 : Int32)))), (.int (nar .char (g (4 : Int32)))), (.int (nar .char (g (5 : Int32)))), (.int (nar .char (g (6 : Int32)))), (.int (nar .char (g (7 : Int32)))), (.int (nar .char (g (8 : Int32)))), (.int (nar .char (g (9 : Int32)))), (.int (nar .char (g (10 : Int32)))), (.int (nar .char (g (11 : Int32)))), (.int (0 : Int32)), (.int (0 : Int32)), (.int (0 : Int32)), (.int (0 : Int32)), (.int (0 : Int32)), (.int (0 : Int32)), (.int (0 : Int32)), (.int (0 : Int32)), (.int (0 : Int32)), (.int (0 : Int32))] n0 Y12 hx hZ hw hby hml hown rfl hg V12 (Nat.le_of_ble_eq_true rfl) (Nat.le_trans Z0 K12.1) M12 (by decide) (by decide) gb
  have V13 : Arv Z U13.heap b7 k7 .char (22 : Int32) [(.int (nar .char (g (0 : Int32)))), (.int (nar .char (g (1 : Int32)))), (.int (nar .char (g (2 : Int32)))), (.int (nar .char (g (3 : Int32)))), (.int (nar .char (g (4 : Int32)))), (.int (nar .char (g (5 : Int32)))), (.int (nar .char (g (6 : Int32)))), (.int (nar .char (g (7 : Int32)))), (.int (nar .char (g (8 : Int32)))), (.int (nar .char (g (9 : Int32)))), (.int (nar .char (g (10 : Int32)))), (.int (nar .char (g (11 : Int32)))), (.int (nar .char (g (12 : Int32)))), (.int (0 : Int32)), (.int (0 : Int32)), (.int (0 : Int32)), (.int (0 : Int32)), (.int (0 : Int32)), (.int (0 : Int32)), (.int (0 : Int32)), (.int (0 : Int32)), (.int (0 : Int32))] (.int (0 : Int32)) := W13
  have K13 : Keep h0 U13.heap [] := K12.trans J13 (allS (Or.inr sz) all0)
  obtain ⟨U14, L14, Y14, M14, J14, W14, t14⟩ := own_A13 s0 s1 j2 s4 s5 s6 b7 s8 s9 s10 s11 s12 s13 s14 s15 s16 s17 s18 s19 s20 s21 s22 s23 g k7 [(.int (nar .char (g (0 : Int32)))), (.int (nar .char (g (1 : Int32)))), (.int (nar .char (g (2 : Int32)))), (.int (nar .char (g (3 : Int32)))), (.int (nar .char (g (4 : Int32)))), (.int (nar .char (g (5 : Int32)))), (.int (nar .char (g (6 : Int32)))), (.int (nar .char (g (7 : Int32)))), (.int (nar .char (g (8 : Int32)))), (.int (nar .char (g (9 : Int32)))), (.int (nar .char (g (10 : Int32)))), (.int (nar .char (g (11 : Int32)))), (.int (nar .char (g (12 : Int32)))), (.int (0 : Int32)), (.int (0 : Int32)), (.int (0 : Int32)), (.int (0 : Int32)), (.int (0 : Int32)), (.int (0 : Int32)), (.int (0 : Int32)), (.int (0 : Int32)), (.int (0 : Int32))] n0 Y13 hx hZ hw hby hml hown rfl hg V13 (Nat.le_of_ble_eq_true rfl) (Nat.le_trans Z0 K13.1) M13 (by decide) (by decide) gb
  have V14 : Arv Z U14.heap b7 k7 .char (22 : Int32) [(.int (nar .char (g (0 : Int32)))), (.int (nar .char (g (1 : Int32)))), (.int (nar .char (g (2 : Int32)))), (.int (nar .char (g (3 : Int32)))), (.int (nar .char (g (4 : Int32)))), (.int (nar .char (g (5 : Int32)))), (.int (nar .char (g (6 : Int32)))), (.int (nar .char (g (7 : Int32)))), (.int (nar .char (g (8 : Int32)))), (.int (nar .char (g (9 : Int32)))), (.int (nar .char (g (10 : Int32)))), (.int (nar .char (g (11 : Int32)))), (.int (nar .char (g (12 : Int32)))), (.int (nar .char (g (13 : Int32)))), (.int (0 : Int32)), (.int (0 : Int32)), (.int (0 : Int32)), (.int (0 : Int32)), (.int (0 : Int32)), (.int (0 : Int32)), (.int (0 : Int32)), (.int (0 : Int32))] (.int (0 : Int32)) := W14
  have K14 : Keep h0 U14.heap [] := K13.trans J14 (allS (Or.inr sz) all0)
  obtain ⟨U15, L15, Y15, M15, J15, W15, t15⟩ := own_A14 s0 s1 j2 s4 s5 s6 b7 s8 s9 s10 s11 s12 s13 s14 s15 s16 s17 s18 s19 s20 s21 s22 s23 g k7 [(.int (nar .char (g (0 : Int32)))), (.int (nar .char (g (1 : Int32)))), (.int (nar .char (g (2 : Int32)))), (.int (nar .char (g (3 : Int32)))), (.int (nar .char (g (4 : Int32)))), (.int (nar .char (g (5 : Int32)))), (.int (nar .char (g (6 : Int32)))), (.int (nar .char (g (7 : Int32)))), (.int (nar .char (g (8 : Int32)))), (.int (nar .char (g (9 : Int32)))), (.int (nar .char (g (10 : Int32)))), (.int (nar .char (g (11 : Int32)))), (.int (nar .char (g (12 : Int32)))), (.int (nar .char (g (13 : Int32)))), (.int (0 : Int32)), (.int (0 : Int32)), (.int (0 : Int32)), (.int (0 : Int32)), (.int (0 : Int32)), (.int (0 : Int32)), (.int (0 : Int32)), (.int (0 : Int32))] n0 Y14 hx hZ hw hby hml hown rfl hg V14 (Nat.le_of_ble_eq_true rfl) (Nat.le_trans Z0 K14.1) M14 (by decide) (by decide) gb
  have V15 : Arv Z U15.heap b7 k7 .char (22 : Int32) [(.int (nar .char (g (0 : Int32)))), (.int (nar .char (g (1 : Int32)))), (.int (nar .char (g (2 : Int32)))), (.int (nar .char (g (3 : Int32)))), (.int (nar .char (g (4 : Int32)))), (.int (nar .char (g (5 : Int32)))), (.int (nar .char (g (6 : Int32)))), (.int (nar .char (g (7 : Int32)))), (.int (nar .char (g (8 : Int32)))), (.int (nar .char (g (9 : Int32)))), (.int (nar .char (g (10 : Int32)))), (.int (nar .char (g (11 : Int32)))), (.int (nar .char (g (12 : Int32)))), (.int (nar .char (g (13 : Int32)))), (.int (nar .char (g (14 : Int32)))), (.int (0 : Int32)), (.int (0 : Int32)), (.int (0 : Int32)), (.int (0 : Int32)), (.int (0 : Int32)), (.int (0 : Int32)), (.int (0 : Int32))] (.int (0 : Int32)) := W15
  have K15 : Keep h0 U15.heap [] := K14.trans J15 (allS (Or.inr sz) all0)
  obtain ⟨U16, L16, Y16, M16, J16, W16, t16⟩ := own_A15 s0 s1 j2 s4 s5 s6 b7 s8 s9 s10 s11 s12 s13 s14 s15 s16 s17 s18 s19 s20 s21 s22 s23 g k7 [(.int (nar .char (g (0 : Int32)))), (.int (nar .char (g (1 : Int32)))), (.int (nar .char (g (2 : Int32)))), (.int (nar .char (g (3 : Int32)))), (.int (nar .char (g (4 : Int32)))), (.int (nar .char (g (5 : Int32)))), (.int (nar .char (g (6 : Int32)))), (.int (nar .char (g (7 : Int32)))), (.int (nar .char (g (8 : Int32)))), (.int (nar .char (g (9 : Int32)))), (.int (nar .char (g (10 : Int32)))), (.int (nar .char (g (11 : Int32)))), (.int (nar .char (g (12 : Int32)))), (.int (nar .char (g (13 : Int32)))), (.int (nar .char (g (14 : Int32)))), (.int (0 : Int32)), (.int (0 : Int32)), (.int (0 : Int32)), (.int (0 : Int32)), (.int (0 : Int32)), (.int (0 : Int32)), (.int (0 : Int32))] n0 Y15 hx hZ hw hby hml hown rfl hg V15 (Nat.le_of_ble_eq_true rfl) (Nat.le_trans Z0 K15.1) M15 (by decide) (by decide) gb
  have V16 : Arv Z U16.heap b7 k7 .char (22 : Int32) [(.int (nar .char (g (0 : Int32)))), (.int (nar .char (g (1 : Int32)))), (.int (nar .char (g (2 : Int32)))), (.int (nar .char (g (3 : Int32)))), (.int (nar .char (g (4 : Int32)))), (.int (nar .char (g (5 : Int32)))), (.int (nar .char (g (6 : Int32)))), (.int (nar .char (g (7 : Int32)))), (.int (nar .char (g (8 : Int32)))), (.int (nar .char (g (9 : Int32)))), (.int (nar .char (g (10 : Int32)))), (.int (nar .char (g (11 : Int32)))), (.int (nar .char (g (12 : Int32)))), (.int (nar .char (g (13 : Int32)))), (.int (nar .char (g (14 : Int32)))), (.int (nar .char (g (15 : Int32)))), (.int (0 : Int32)), (.int (0 : Int32)), (.int (0 : Int32)), (.int (0 : Int32)), (.int (0 : Int32)), (.int (0 : Int32))] (.int (0 : Int32)) := W16
  have K16 : Keep h0 U16.heap [] := K15.trans J16 (allS (Or.inr sz) all0)
  obtain ⟨U17, L17, Y17, M17, J17, W17, t17⟩ := own_A16 s0 s1 j2 s4 s5 s6 b7 s8 s9 s10 s11 s12 s13 s14 s15 s16 s17 s18 s19 s20 s21 s22 s23 g k7 [(.int (nar .char (g (0 : Int32)))), (.int (nar .char (g (1 : Int32)))), (.int (nar .char (g (2 : Int32)))), (.int (nar .char (g (3 : Int32)))), (.int (nar .char (g (4 : Int32)))), (.int (nar .char (g (5 : Int32)))), (.int (nar .char (g (6 : Int32)))), (.int (nar .char (g (7 : Int32)))), (.int (nar .char (g (8 : Int32)))), (.int (nar .char (g (9 : Int32)))), (.int (nar .char (g (10 : Int32)))), (.int (nar .char (g (11 : Int32)))), (.int (nar .char (g (12 : Int32)))), (.int (nar .char (g (13 : Int32)))), (.int (nar .char (g (14 : Int32)))), (.int (nar .char (g (15 : Int32)))), (.int (0 : Int32)), (.int (0 : Int32)), (.int (0 : Int32)), (.int (0 : Int32)), (.int (0 : Int32)), (.int (0 : Int32))] n0 Y16 hx hZ hw hby hml hown rfl hg V16 (Nat.le_of_ble_eq_true rfl) (Nat.le_trans Z0 K16.1) M16 (by decide) (by decide) gb
  have V17 : Arv Z U17.heap b7 k7 .char (22 : Int32) [(.int (nar .char (g (0 : Int32)))), (.int (nar .char (g (1 : Int32)))), (.int (nar .char (g (2 : Int32)))), (.int (nar .char (g (3 : Int32)))), (.int (nar .char (g (4 : Int32)))), (.int (nar .char (g (5 : Int32)))), (.int (nar .char (g (6 : Int32)))), (.int (nar .char (g (7 : Int32)))), (.int (nar .char (g (8 : Int32)))), (.int (nar .char (g (9 : Int32)))), (.int (nar .char (g (10 : Int32)))), (.int (nar .char (g (11 : Int32)))), (.int (nar .char (g (12 : Int32)))), (.int (nar .char (g (13 : Int32)))), (.int (nar .char (g (14 : Int32)))), (.int (nar .char (g (15 : Int32)))), (.int (nar .char (g (16 : Int32)))), (.int (0 : Int32)), (.int (0 : Int32)), (.int (0 : Int32)), (.int (0 : Int32)), (.int (0 : Int32))] (.int (0 : Int32)) := W17
  have K17 : Keep h0 U17.heap [] := K16.trans J17 (allS (Or.inr sz) all0)
  obtain ⟨U18, L18, Y18, M18, J18, W18, t18⟩ := own_A17 s0 s1 j2 s4 s5 s6 b7 s8 s9 s10 s11 s12 s13 s14 s15 s16 s17 s18 s19 s20 s21 s22 s23 g k7 [(.int (nar .char (g (0 : Int32)))), (.int (nar .char (g (1 : Int32)))), (.int (nar .char (g (2 : Int32)))), (.int (nar .char (g (3 : Int32)))), (.int (nar .char (g (4 : Int32)))), (.int (nar .char (g (5 : Int32)))), (.int (nar .char (g (6 : Int32)))), (.int (nar .char (g (7 : Int32)))), (.int (nar .char (g (8 : Int32)))), (.int (nar .char (g (9 : Int32)))), (.int (nar .char (g (10 : Int32)))), (.int (nar .char (g (11 : Int32)))), (.int (nar .char (g (12 : Int32)))), (.int (nar .char (g (13 : Int32)))), (.int (nar .char (g (14 : Int32)))), (.int (nar .char (g (15 : Int32)))), (.int (nar .char (g (16 : Int32)))), (.int (0 : Int32)), (.int (0 : Int32)), (.int (0 : Int32)), (.int (0 : Int32)), (.int (0 : Int32))] n0 Y17 hx hZ hw hby hml hown rfl hg V17 (Nat.le_of_ble_eq_true rfl) (Nat.le_trans Z0 K17.1) M17 (by decide) (by decide) gb
  have V18 : Arv Z U18.heap b7 k7 .char (22 : Int32) [(.int (nar .char (g (0 : Int32)))), (.int (nar .char (g (1 : Int32)))), (.int (nar .char (g (2 : Int32)))), (.int (nar .char (g (3 : Int32)))), (.int (nar .char (g (4 : Int32)))), (.int (nar .char (g (5 : Int32)))), (.int (nar .char (g (6 : Int32)))), (.int (nar .char (g (7 : Int32)))), (.int (nar .char (g (8 : Int32)))), (.int (nar .char (g (9 : Int32)))), (.int (nar .char (g (10 : Int32)))), (.int (nar .char (g (11 : Int32)))), (.int (nar .char (g (12 : Int32)))), (.int (nar .char (g (13 : Int32)))), (.int (nar .char (g (14 : Int32)))), (.int (nar .char (g (15 : Int32)))), (.int (nar .char (g (16 : Int32)))), (.int (nar .char (g (17 : Int32)))), (.int (0 : Int32)), (.int (0 : Int32)), (.int (0 : Int32)), (.int (0 : Int32))] (.int (0 : Int32)) := W18
  have K18 : Keep h0 U18.heap [] := K17.trans J18 (allS (Or.inr sz) all0)
  obtain ⟨U19, L19, Y19, M19, J19, W19, t19⟩ := own_A18 s0 s1 j2 s4 s5 s6 b7 s8 s9 s10 s11 s12 s13 s14 s15 s16 s17 s18 s19 s20 s21 s22 s23 g k7 [(.int (nar .char (g (0 : Int32)))), (.int (nar .char (g (1 : Int32)))), (.int (nar .char (g (2 : Int32)))), (.int (nar .char (g (3 : Int32)))), (.int (nar .char (g (4 : Int32)))), (.int (nar .char (g (5 : Int32)))), (.int (nar .char (g (6 : Int32)))), (.int (nar .char (g (7 : Int32)))), (.int (nar .char (g (8 : Int32)))), (.int (nar .char (g (9 : Int32)))), (.int (nar .char (g (10 : Int32)))), (.int (nar .char (g (11 : Int32)))), (.int (nar .char (g (12 : Int32)))), (.int (nar .char (g (13 : Int32)))), (.int (nar .char (g (14 : Int32)))), (.int (nar .char (g (15 : Int32)))), (.int (nar .char (g (16 : Int32)))), (.int (nar .char (g (17 : Int32)))), (.int (0 : Int32)), (.int (0 : Int32)), (.int (0 : Int32)), (.int (0 : Int32))] n0 Y18 hx hZ hw hby hml hown rfl hg V18 (Nat.le_of_ble_eq_true rfl) (Nat.le_trans Z0 K18.1) M18 (by decide) (by decide) gb
  have V19 : Arv Z U19.heap b7 k7 .char (22 : Int32) [(.int (nar .char (g (0 : Int32)))), (.int (nar .char (g (1 : Int32)))), (.int (nar .char (g (2 : Int32)))), (.int (nar .char (g (3 : Int32)))), (.int (nar .char (g (4 : Int32)))), (.int (nar .char (g (5 : Int32)))), (.int (nar .char (g (6 : Int32)))), (.int (nar .char (g (7 : Int32)))), (.int (nar .char (g (8 : Int32)))), (.int (nar .char (g (9 : Int32)))), (.int (nar .char (g (10 : Int32)))), (.int (nar .char (g (11 : Int32)))), (.int (nar .char (g (12 : Int32)))), (.int (nar .char (g (13 : Int32)))), (.int (nar .char (g (14 : Int32)))), (.int (nar .char (g (15 : Int32)))), (.int (nar .char (g (16 : Int32)))), (.int (nar .char (g (17 : Int32)))), (.int (nar .char (g (18 : Int32)))), (.int (0 : Int32)), (.int (0 : Int32)), (.int (0 : Int32))] (.int (0 : Int32)) := W19
  have K19 : Keep h0 U19.heap [] := K18.trans J19 (allS (Or.inr sz) all0)
  obtain ⟨U20, L20, Y20, M20, J20, W20, t20⟩ := own_A19 s0 s1 j2 s4 s5 s6 b7 s8 s9 s10 s11 s12 s13 s14 s15 s16 s17 s18 s19 s20 s21 s22 s23 g k7 [(.int (nar .char (g (0 : Int32)))), (.int (nar .char (g (1 : Int32)))), (.int (nar .char (g (2 : Int32)))), (.int (nar .char (g (3 : Int32)))), (.int (nar .char (g (4 : Int32)))), (.int (nar .char (g (5 : Int32)))), (.int (nar .char (g (6 : Int32)))), (.int (nar .char (g (7 : Int32)))), (.int (nar .char (g (8 : Int32)))), (.int (nar .char (g (9 : Int32)))), (.int (nar .char (g (10 : Int32)))), (.int (nar .char (g (11 : Int32)))), (.int (nar .char (g (12 : Int32)))), (.int (nar .char (g (13 : Int32)))), (.int (nar .char (g (14 : Int32)))), (.int (nar .char (g (15 : Int32)))), (.int (nar .char (g (16 : Int32)))), (.int (nar .char (g (17 : Int32)))), (.int (nar .char (g (18 : Int32)))), (.int (0 : Int32)), (.int (0 : Int32)), (.int (0 : Int32))] n0 Y19 hx hZ hw hby hml hown rfl hg V19 (Nat.le_of_ble_eq_true rfl) (Nat.le_trans Z0 K19.1) M19 (by decide) (by decide) gb
  have V20 : Arv Z U20.heap b7 k7 .char (22 : Int32) [(.int (nar .char (g (0 : Int32)))), (.int (nar .char (g (1 : Int32)))), (.int (nar .char (g (2 : Int32)))), (.int (nar .char (g (3 : Int32)))), (.int (nar .char (g (4 : Int32)))), (.int (nar .char (g (5 : Int32)))), (.int (nar .char (g (6 : Int32)))), (.int (nar .char (g (7 : Int32)))), (.int (nar .char (g (8 : Int32)))), (.int (nar .char (g (9 : Int32)))), (.int (nar .char (g (10 : Int32)))), (.int (nar .char (g (11 : Int32)))), (.int (nar .char (g (12 : Int32)))), (.int (nar .char (g (13 : Int32)))), (.int (nar .char (g (14 : Int32)))), (.int (nar .char (g (15 : Int32)))), (.int (nar .char (g (16 : Int32)))), (.int (nar .char (g (17 : Int32)))), (.int (nar .char (g (18 : Int32)))), (.int (nar .char (g (19 : Int32)))), (.int (0 : Int32)), (.int (0 : Int32))] (.int (0 : Int32)) := W20
  have K20 : Keep h0 U20.heap [] := K19.trans J20 (allS (Or.inr sz) all0)
  obtain ⟨U21, L21, Y21, M21, J21, W21, t21⟩ := own_A20 s0 s1 j2 s4 s5 s6 b7 s8 s9 s10 s11 s12 s13 s14 s15 s16 s17 s18 s19 s20 s21 s22 s23 g k7 [(.int (nar .char (g (0 : Int32)))), (.int (nar .char (g (1 : Int32)))), (.int (nar .char (g (2 : Int32)))), (.int (nar .char (g (3 : Int32)))), (.int (nar .char (g (4 : Int32)))), (.int (nar .char (g (5 : Int32)))), (.int (nar .char (g (6 : Int32)))), (.int (nar .char (g (7 : Int32)))), (.int (nar .char (g (8 : Int32)))), (.int (nar .char (g (9 : Int32)))), (.int (nar .char (g (10 : Int32)))), (.int (nar .char (g (11 : Int32)))), (.int (nar .char (g (12 : Int32)))), (.int (nar .char (g (13 : Int32)))), (.int (nar .char (g (14 : Int32)))), (.int (nar .char (g (15 : Int32)))), (.int (nar .char (g (16 : Int32)))), (.int (nar .char (g (17 : Int32)))), (.int (nar .char (g (18 : Int32)))), (.int (nar .char (g (19 : Int32)))), (.int (0 : Int32)), (.int (0 : Int32))] n0 Y20 hx hZ hw hby hml hown rfl hg V20 (Nat.le_of_ble_eq_true rfl) (Nat.le_trans Z0 K20.1) M20 (by decide) (by decide) gb
  have V21 : Arv Z U21.heap b7 k7 .char (22 : Int32) [(.int (nar .char (g (0 : Int32)))), (.int (nar .char (g (1 : Int32)))), (.int (nar .char (g (2 : Int32)))), (.int (nar .char (g (3 : Int32)))), (.int (nar .char (g (4 : Int32)))), (.int (nar .char (g (5 : Int32)))), (.int (nar .char (g (6 : Int32)))), (.int (nar .char (g (7 : Int32)))), (.int (nar .char (g (8 : Int32)))), (.int (nar .char (g (9 : Int32)))), (.int (nar .char (g (10 : Int32)))), (.int (nar .char (g (11 : Int32)))), (.int (nar .char (g (12 : Int32)))), (.int (nar .char (g (13 : Int32)))), (.int (nar .char (g (14 : Int32)))), (.int (nar .char (g (15 : Int32)))), (.int (nar .char (g (16 : Int32)))), (.int (nar .char (g (17 : Int32)))), (.int (nar .char (g (18 : Int32)))), (.int (nar .char (g (19 : Int32)))), (.int (nar .char (g (20 : Int32)))), (.int (0 : Int32))] (.int (0 : Int32)) := W21
  have K21 : Keep h0 U21.heap [] := K20.trans J21 (allS (Or.inr sz) all0)
  obtain ⟨U22, L22, Y22, M22, J22, W22, t22⟩ := own_A21 s0 s1 j2 s4 s5 s6 b7 s8 s9 s10 s11 s12 s13 s14 s15 s16 s17 s18 s19 s20 s21 s22 s23 g k7 [(.int (nar .char (g (0 : Int32)))), (.int (nar .char (g (1 : Int32)))), (.int (nar .char (g (2 : Int32)))), (.int (nar .char (g (3 : Int32)))), (.int (nar .char (g (4 : Int32)))), (.int (nar .char (g (5 : Int32)))), (.int (nar .char (g (6 : Int32)))), (.int (nar .char (g (7 : Int32)))), (.int (nar .char (g (8 : Int32)))), (.int (nar .char (g (9 : Int32)))), (.int (nar .char (g (10 : Int32)))), (.int (nar .char (g (11 : Int32)))), (.int (nar .char (g (12 : Int32)))), (.int (nar .char (g (13 : Int32)))), (.int (nar .char (g (14 : Int32)))), (.int (nar .char (g (15 : Int32)))), (.int (nar .char (g (16 : Int32)))), (.int (nar .char (g (17 : Int32)))), (.int (nar .char (g (18 : Int32)))), (.int (nar .char (g (19 : Int32)))), (.int (nar .char (g (20 : Int32)))), (.int (0 : Int32))] n0 Y21 hx hZ hw hby hml hown rfl hg V21 (Nat.le_of_ble_eq_true rfl) (Nat.le_trans Z0 K21.1) M21 (by decide) (by decide) gb
  have V22 : Arv Z U22.heap b7 k7 .char (22 : Int32) [(.int (nar .char (g (0 : Int32)))), (.int (nar .char (g (1 : Int32)))), (.int (nar .char (g (2 : Int32)))), (.int (nar .char (g (3 : Int32)))), (.int (nar .char (g (4 : Int32)))), (.int (nar .char (g (5 : Int32)))), (.int (nar .char (g (6 : Int32)))), (.int (nar .char (g (7 : Int32)))), (.int (nar .char (g (8 : Int32)))), (.int (nar .char (g (9 : Int32)))), (.int (nar .char (g (10 : Int32)))), (.int (nar .char (g (11 : Int32)))), (.int (nar .char (g (12 : Int32)))), (.int (nar .char (g (13 : Int32)))), (.int (nar .char (g (14 : Int32)))), (.int (nar .char (g (15 : Int32)))), (.int (nar .char (g (16 : Int32)))), (.int (nar .char (g (17 : Int32)))), (.int (nar .char (g (18 : Int32)))), (.int (nar .char (g (19 : Int32)))), (.int (nar .char (g (20 : Int32)))), (.int (nar .char (g (21 : Int32))))] (.int (0 : Int32)) := W22
  have K22 : Keep h0 U22.heap [] := K21.trans J22 (allS (Or.inr sz) all0)
  refine ⟨U22, L22, b7, k7, Y22, M22, K22, gb, V22, fun target kt => ?_⟩
  refine XS.bipush X0.here hx rfl (hb hby at_0) ?_
  show Steps p.tables e below (T0.setTop (mkF m 2 #[s0, s1, .val (.long j2), .second, s4, s5, s6, .unset, s8, s9, s10, s11, s12, s13, s14, s15, s16, s17, s18, s19, s20, s21, s22, s23] [(.int (22 : Int32))])) _
  refine st7 _ ?_
  show Steps p.tables e below (T7.setTop (mkF m 4 #[s0, s1, .val (.long j2), .second, s4, s5, s6, .unset, s8, s9, s10, s11, s12, s13, s14, s15, s16, s17, s18, s19, s20, s21, s22, s23] [(.ref b7)])) _
  refine XS.astore X7.here hx rfl (hb hby at_4) rfl rfl (l' := #[s0, s1, .val (.long j2), .second, s4, s5, s6, .val (.ref b7), s8, s9, s10, s11, s12, s13, s14, s15, s16, s17, s18, s19, s20, s21, s22, s23]) rfl ?_
  exact (t1 _ (t2 _ (t3 _ (t4 _ (t5 _ (t6 _ (t7 _ (t8 _ (t9 _ (t10 _ (t11 _ (t12 _ (t13 _ (t14 _ (t15 _ (t16 _ (t17 _ (t18 _ (t19 _ (t20 _ (t21 _ (t22 _ kt))))))))))))))))))))))
theorem own_clamp (a : Nat) (ha : a < 32) : (Int32.ofNat a).toNatClampNeg = a := (by decide +kernel : ∀ a : Fin 32, (Int32.ofNat a.val).toNatClampNeg = a.val) ⟨a, ha⟩
theorem own_in (a : Nat) (ha : a < 22) : ¬ Int32.ofNat a < 0 ∧ Int32.ofNat a < 22 := (by decide +kernel : ∀ a : Fin 22, ¬ Int32.ofNat a.val < 0 ∧ Int32.ofNat a.val < 22) ⟨a, ha⟩
theorem own_and (x m : Int32) : ∃ n, n ≤ m.toBitVec.toNat ∧ (x &&& m) = Int32.ofNat n := by
  refine ⟨(x &&& m).toBitVec.toNat, ?_, ?_⟩
  · simp only [Int32.toBitVec_and, BitVec.toNat_and]
    exact Nat.and_le_right
  · apply Int32.toBitVec_inj.mp
    show _ = BitVec.ofNat 32 _
    rw [BitVec.ofNat_toNat]; simp
theorem own_ofInt (x : Int32) (h : 0 ≤ x.toInt) : x = Int32.ofNat x.toInt.toNat := by
  apply Int32.toInt_inj.mp
  have h2 := x.toInt_lt
  rw [Int32.toInt_ofNat_of_lt (by omega)]
  omega
theorem own_sub (a b : Nat) (hab : a ≤ b) (hb : b < 32) : Int32.ofNat b - Int32.ofNat a = Int32.ofNat (b - a) := (by decide +kernel : ∀ a b : Fin 32, a.val ≤ b.val → Int32.ofNat b.val - Int32.ofNat a.val = Int32.ofNat (b.val - a.val)) ⟨a, by omega⟩ ⟨b, hb⟩ hab
def own_cs1 (n : Nat) (cs : List Int32) : List Int32 := if n = 0 then cs.set 0 45 else if n = 1 then cs.set 0 43 else cs
def own_sg (n : Nat) : Int32 := if n < 2 then 1 else 0
def own_hp (q : Nat) : Bool := decide (1 ≤ q ∧ q ≤ 21)
def own_cs2 (q : Nat) (cs : List Int32) : List Int32 := if own_hp q = true then cs.set q 46 else cs
theorem os0_239_B0 {z0 : Value} {s1 : Slot} {s2 : Slot} {s3 : Slot} {s4 : Slot} {s5 : Slot} {s6 : Slot} {z7 : Value} {s8 : Slot} {s9 : Slot} {s10 : Slot} {s11 : Slot} {s12 : Slot} {s13 : Slot} {s14 : Slot} {s15 : Slot} {s16 : Slot} {s17 : Slot} {s18 : Slot} {s19 : Slot} {s20 : Slot} {s21 : Slot} {s22 : Slot} {s23 : Slot} {v : Int32} (h : One s8) : storeLocals #[.val z0, s1, s2, s3, s4, s5, s6, .val z7, s8, s9, s10, s11, s12, s13, s14, s15, s16, s17, s18, s19, s20, s21, s22, s23] 8 (.int v) = some #[.val z0, s1, s2, s3, s4, s5, s6, .val z7, .val (.int v), s9, s10, s11, s12, s13, s14, s15, s16, s17, s18, s19, s20, s21, s22, s23] := by
  rcases h with rfl | ⟨w, rfl, hw⟩
  · rfl
  · cases w <;> first | rfl | (simp [Value.category] at hw)
theorem os0_252_B0 {z0 : Value} {s1 : Slot} {s2 : Slot} {s3 : Slot} {s4 : Slot} {s5 : Slot} {s6 : Slot} {z7 : Value} {z8 : Value} {s9 : Slot} {s10 : Slot} {s11 : Slot} {s12 : Slot} {s13 : Slot} {s14 : Slot} {s15 : Slot} {s16 : Slot} {s17 : Slot} {s18 : Slot} {s19 : Slot} {s20 : Slot} {s21 : Slot} {s22 : Slot} {s23 : Slot} {v : Int32} (h : One s9) : storeLocals #[.val z0, s1, s2, s3, s4, s5, s6, .val z7, .val z8, s9, s10, s11, s12, s13, s14, s15, s16, s17, s18, s19, s20, s21, s22, s23] 9 (.int v) = some #[.val z0, s1, s2, s3, s4, s5, s6, .val z7, .val z8, .val (.int v), s10, s11, s12, s13, s14, s15, s16, s17, s18, s19, s20, s21, s22, s23] := by
  rcases h with rfl | ⟨w, rfl, hw⟩
  · rfl
  · cases w <;> first | rfl | (simp [Value.category] at hw)
set_option maxRecDepth 65536 in
set_option maxHeartbeats 40000000 in
theorem B0 {p : Program} {l : Launch} {e : Env} {s : State} {m : MethodId} {args : Array Value} {below : List Frame} {meth : Method} {c : Code} {T0 : State} {locs : List Loc} {cells slots : Nat} {Z : State} {a0 : Array Value} {h0 : Heap} (i0 : Int32) (s1 : Slot) (s2 : Slot) (s3 : Slot) (s4 : Slot) (s5 : Slot) (s6 : Slot) (o7 : Addr) (s8 : Slot) (s9 : Slot) (s10 : Slot) (s11 : Slot) (s12 : Slot) (s13 : Slot) (s14 : Slot) (s15 : Slot) (s16 : Slot) (s17 : Slot) (s18 : Slot) (s19 : Slot) (s20 : Slot) (s21 : Slot) (s22 : Slot) (s23 : Slot) (kA : ClassId) (cs : List Int32) (n0 : Nat)
    (X0 : Stand p l e room_1 s m args below meth c T0 locs cells slots) (hx : p.tables.exec = Jvm.exec) (hZ : Z.Warmed39 s.vm) (hw : ∀ d ∈ tables_1, d.before a0 Z = true) (hby : c.code = code) (hml : c.maxLocals = 24) (hown : s.vm.findClass "com/example/bandmark/bandmark/PlainDecimalIsCompactPinLaw" = some m.cls) (e0 : T0.heap = h0) (V : Arv Z h0 o7 kA .char (22 : Int32) (cs.map Value.int) (.int (0 : Int32))) (hcs : cs.length = 22) (Z0 : n0 ≤ h0.size) (N0 : Fr n0 locs) (hcl : cells ≤ room_1.cells) (hsl : slots ≤ room_1.slots) (hs8 : One s8) (hs9 : One s9) (g_o7 : n0 ≤ o7) (hc244 : (i0 &&& (3 : Int32)) < (2 : Int32)) (hc256 : (i0 &&& (3 : Int32)) = (0 : Int32)) :
    ∃ (T' : State) (locs' : List Loc), Stand p l e room_1 s m args below meth c T' locs' cells slots ∧ Fr n0 locs' ∧ Keep h0 T'.heap [o7] ∧ Arv Z T'.heap o7 kA .char (22 : Int32) ((cs.set 0 45).map Value.int) (.int (0 : Int32)) ∧
      ∀ target, Steps p.tables e below (T'.setTop (mkF m 280 #[.val (.int i0), s1, s2, s3, s4, s5, s6, .val (.ref o7), .val (.int (i0 &&& (3 : Int32))), .val (.int (1 : Int32)), s10, s11, s12, s13, s14, s15, s16, s17, s18, s19, s20, s21, s22, s23] [])) target → Steps p.tables e below (T0.setTop (mkF m 236 #[.val (.int i0), s1, s2, s3, s4, s5, s6, .val (.ref o7), s8, s9, s10, s11, s12, s13, s14, s15, s16, s17, s18, s19, s20, s21, s22, s23] [])) target := by
  obtain ⟨cl_o7, Ar_o7, q7, S7, M7, H7, G7⟩ := V
  have hqc : ((0 : Int32)).toNatClampNeg = 0 := rfl
  have hin264 : ¬ ((0 : Int32) < 0 ∨ cl_o7.slots.size ≤ ((0 : Int32)).toNatClampNeg) := inb_of S7 ⟨by decide, by decide⟩
  obtain ⟨T7, h7, X7, e7, W7, st7⟩ := stC X0 hx hZ e0 Ar_o7 (j := (0 : Int32)) hin264 (g := (mkF m 264 #[.val (.int i0), s1, s2, s3, s4, s5, s6, .val (.ref o7), .val (.int (i0 &&& (3 : Int32))), .val (.int (1 : Int32)), s10, s11, s12, s13, s14, s15, s16, s17, s18, s19, s20, s21, s22, s23] [(.int (45 : Int32)), (.int (0 : Int32)), (.ref o7)])) rfl rfl (hb hby at_264)
  have N7 := Fr.snoc X7 N0 g_o7
  have K7 : Keep h0 h7 [o7] := (Keep.refl h0 [o7]).wr W7 (Or.inl (List.mem_of_getElem? (i := 0) rfl))
  refine ⟨T7, _, X7, N7, by rw [e7]; exact K7, by rw [e7, List.map_set]; exact Arv.set Ar_o7 q7 S7 M7 H7 G7 (fits_nar_char _) W7 0 hqc (by rw [List.length_map, hcs]; decide), fun target kt => ?_⟩
  show Steps p.tables e below (T0.setTop (mkF m 236 #[.val (.int i0), s1, s2, s3, s4, s5, s6, .val (.ref o7), s8, s9, s10, s11, s12, s13, s14, s15, s16, s17, s18, s19, s20, s21, s22, s23] [])) _
  refine XS.iloadN X0.here hx rfl (hb hby at_236) rfl ?_
  show Steps p.tables e below (T0.setTop (mkF m 237 #[.val (.int i0), s1, s2, s3, s4, s5, s6, .val (.ref o7), s8, s9, s10, s11, s12, s13, s14, s15, s16, s17, s18, s19, s20, s21, s22, s23] [(.int i0)])) _
  refine XS.iconst X0.here hx rfl (hb hby at_237) ?_
  show Steps p.tables e below (T0.setTop (mkF m 238 #[.val (.int i0), s1, s2, s3, s4, s5, s6, .val (.ref o7), s8, s9, s10, s11, s12, s13, s14, s15, s16, s17, s18, s19, s20, s21, s22, s23] [(.int (3 : Int32)), (.int i0)])) _
  refine XS.iand X0.here hx rfl (hb hby at_238) rfl ?_
  show Steps p.tables e below (T0.setTop (mkF m 239 #[.val (.int i0), s1, s2, s3, s4, s5, s6, .val (.ref o7), s8, s9, s10, s11, s12, s13, s14, s15, s16, s17, s18, s19, s20, s21, s22, s23] [(.int (i0 &&& (3 : Int32)))])) _
  refine XS.istore X0.here hx rfl (hb hby at_239) rfl (l' := #[.val (.int i0), s1, s2, s3, s4, s5, s6, .val (.ref o7), .val (.int (i0 &&& (3 : Int32))), s9, s10, s11, s12, s13, s14, s15, s16, s17, s18, s19, s20, s21, s22, s23]) (os0_239_B0 hs8) ?_
  show Steps p.tables e below (T0.setTop (mkF m 241 #[.val (.int i0), s1, s2, s3, s4, s5, s6, .val (.ref o7), .val (.int (i0 &&& (3 : Int32))), s9, s10, s11, s12, s13, s14, s15, s16, s17, s18, s19, s20, s21, s22, s23] [])) _
  refine XS.iload X0.here hx rfl (hb hby at_241) rfl ?_
  show Steps p.tables e below (T0.setTop (mkF m 243 #[.val (.int i0), s1, s2, s3, s4, s5, s6, .val (.ref o7), .val (.int (i0 &&& (3 : Int32))), s9, s10, s11, s12, s13, s14, s15, s16, s17, s18, s19, s20, s21, s22, s23] [(.int (i0 &&& (3 : Int32)))])) _
  refine XS.iconst X0.here hx rfl (hb hby at_243) ?_
  show Steps p.tables e below (T0.setTop (mkF m 244 #[.val (.int i0), s1, s2, s3, s4, s5, s6, .val (.ref o7), .val (.int (i0 &&& (3 : Int32))), s9, s10, s11, s12, s13, s14, s15, s16, s17, s18, s19, s20, s21, s22, s23] [(.int (2 : Int32)), (.int (i0 &&& (3 : Int32)))])) _
  refine XS.icmpNo X0.here hx rfl (hb hby at_244) rfl (tlt hc244).2.1 ?_
  show Steps p.tables e below (T0.setTop (mkF m 247 #[.val (.int i0), s1, s2, s3, s4, s5, s6, .val (.ref o7), .val (.int (i0 &&& (3 : Int32))), s9, s10, s11, s12, s13, s14, s15, s16, s17, s18, s19, s20, s21, s22, s23] [])) _
  refine XS.iconst X0.here hx rfl (hb hby at_247) ?_
  show Steps p.tables e below (T0.setTop (mkF m 248 #[.val (.int i0), s1, s2, s3, s4, s5, s6, .val (.ref o7), .val (.int (i0 &&& (3 : Int32))), s9, s10, s11, s12, s13, s14, s15, s16, s17, s18, s19, s20, s21, s22, s23] [(.int (1 : Int32))])) _
  refine XS.goto X0.here hx rfl (pc0 := 248) (pc' := 252) rfl (hb hby at_248) (by decide) (by decide) ?_
  show Steps p.tables e below (T0.setTop (mkF m 252 #[.val (.int i0), s1, s2, s3, s4, s5, s6, .val (.ref o7), .val (.int (i0 &&& (3 : Int32))), s9, s10, s11, s12, s13, s14, s15, s16, s17, s18, s19, s20, s21, s22, s23] [(.int (1 : Int32))])) _
  refine XS.istore X0.here hx rfl (hb hby at_252) rfl (l' := #[.val (.int i0), s1, s2, s3, s4, s5, s6, .val (.ref o7), .val (.int (i0 &&& (3 : Int32))), .val (.int (1 : Int32)), s10, s11, s12, s13, s14, s15, s16, s17, s18, s19, s20, s21, s22, s23]) (os0_252_B0 hs9) ?_
  show Steps p.tables e below (T0.setTop (mkF m 254 #[.val (.int i0), s1, s2, s3, s4, s5, s6, .val (.ref o7), .val (.int (i0 &&& (3 : Int32))), .val (.int (1 : Int32)), s10, s11, s12, s13, s14, s15, s16, s17, s18, s19, s20, s21, s22, s23] [])) _
  refine XS.iload X0.here hx rfl (hb hby at_254) rfl ?_
  show Steps p.tables e below (T0.setTop (mkF m 256 #[.val (.int i0), s1, s2, s3, s4, s5, s6, .val (.ref o7), .val (.int (i0 &&& (3 : Int32))), .val (.int (1 : Int32)), s10, s11, s12, s13, s14, s15, s16, s17, s18, s19, s20, s21, s22, s23] [(.int (i0 &&& (3 : Int32)))])) _
  refine XS.ifNo X0.here hx rfl (hb hby at_256) rfl ((if0 _ _).trans (teq hc256).2) ?_
  show Steps p.tables e below (T0.setTop (mkF m 259 #[.val (.int i0), s1, s2, s3, s4, s5, s6, .val (.ref o7), .val (.int (i0 &&& (3 : Int32))), .val (.int (1 : Int32)), s10, s11, s12, s13, s14, s15, s16, s17, s18, s19, s20, s21, s22, s23] [])) _
  refine XS.aload X0.here hx rfl (hb hby at_259) rfl rfl ?_
  show Steps p.tables e below (T0.setTop (mkF m 261 #[.val (.int i0), s1, s2, s3, s4, s5, s6, .val (.ref o7), .val (.int (i0 &&& (3 : Int32))), .val (.int (1 : Int32)), s10, s11, s12, s13, s14, s15, s16, s17, s18, s19, s20, s21, s22, s23] [(.ref o7)])) _
  refine XS.iconst X0.here hx rfl (hb hby at_261) ?_
  show Steps p.tables e below (T0.setTop (mkF m 262 #[.val (.int i0), s1, s2, s3, s4, s5, s6, .val (.ref o7), .val (.int (i0 &&& (3 : Int32))), .val (.int (1 : Int32)), s10, s11, s12, s13, s14, s15, s16, s17, s18, s19, s20, s21, s22, s23] [(.int (0 : Int32)), (.ref o7)])) _
  refine XS.bipush X0.here hx rfl (hb hby at_262) ?_
  show Steps p.tables e below (T0.setTop (mkF m 264 #[.val (.int i0), s1, s2, s3, s4, s5, s6, .val (.ref o7), .val (.int (i0 &&& (3 : Int32))), .val (.int (1 : Int32)), s10, s11, s12, s13, s14, s15, s16, s17, s18, s19, s20, s21, s22, s23] [(.int (45 : Int32)), (.int (0 : Int32)), (.ref o7)])) _
  refine st7 _ ?_
  show Steps p.tables e below (T7.setTop (mkF m 265 #[.val (.int i0), s1, s2, s3, s4, s5, s6, .val (.ref o7), .val (.int (i0 &&& (3 : Int32))), .val (.int (1 : Int32)), s10, s11, s12, s13, s14, s15, s16, s17, s18, s19, s20, s21, s22, s23] [])) _
  refine XS.goto X7.here hx rfl (pc0 := 265) (pc' := 280) rfl (hb hby at_265) (by decide) (by decide) ?_
  exact kt
theorem os0_239_B1 {z0 : Value} {s1 : Slot} {s2 : Slot} {s3 : Slot} {s4 : Slot} {s5 : Slot} {s6 : Slot} {z7 : Value} {s8 : Slot} {s9 : Slot} {s10 : Slot} {s11 : Slot} {s12 : Slot} {s13 : Slot} {s14 : Slot} {s15 : Slot} {s16 : Slot} {s17 : Slot} {s18 : Slot} {s19 : Slot} {s20 : Slot} {s21 : Slot} {s22 : Slot} {s23 : Slot} {v : Int32} (h : One s8) : storeLocals #[.val z0, s1, s2, s3, s4, s5, s6, .val z7, s8, s9, s10, s11, s12, s13, s14, s15, s16, s17, s18, s19, s20, s21, s22, s23] 8 (.int v) = some #[.val z0, s1, s2, s3, s4, s5, s6, .val z7, .val (.int v), s9, s10, s11, s12, s13, s14, s15, s16, s17, s18, s19, s20, s21, s22, s23] := by
  rcases h with rfl | ⟨w, rfl, hw⟩
  · rfl
  · cases w <;> first | rfl | (simp [Value.category] at hw)
theorem os0_252_B1 {z0 : Value} {s1 : Slot} {s2 : Slot} {s3 : Slot} {s4 : Slot} {s5 : Slot} {s6 : Slot} {z7 : Value} {z8 : Value} {s9 : Slot} {s10 : Slot} {s11 : Slot} {s12 : Slot} {s13 : Slot} {s14 : Slot} {s15 : Slot} {s16 : Slot} {s17 : Slot} {s18 : Slot} {s19 : Slot} {s20 : Slot} {s21 : Slot} {s22 : Slot} {s23 : Slot} {v : Int32} (h : One s9) : storeLocals #[.val z0, s1, s2, s3, s4, s5, s6, .val z7, .val z8, s9, s10, s11, s12, s13, s14, s15, s16, s17, s18, s19, s20, s21, s22, s23] 9 (.int v) = some #[.val z0, s1, s2, s3, s4, s5, s6, .val z7, .val z8, .val (.int v), s10, s11, s12, s13, s14, s15, s16, s17, s18, s19, s20, s21, s22, s23] := by
  rcases h with rfl | ⟨w, rfl, hw⟩
  · rfl
  · cases w <;> first | rfl | (simp [Value.category] at hw)
set_option maxRecDepth 65536 in
set_option maxHeartbeats 40000000 in
theorem B1 {p : Program} {l : Launch} {e : Env} {s : State} {m : MethodId} {args : Array Value} {below : List Frame} {meth : Method} {c : Code} {T0 : State} {locs : List Loc} {cells slots : Nat} {Z : State} {a0 : Array Value} {h0 : Heap} (i0 : Int32) (s1 : Slot) (s2 : Slot) (s3 : Slot) (s4 : Slot) (s5 : Slot) (s6 : Slot) (o7 : Addr) (s8 : Slot) (s9 : Slot) (s10 : Slot) (s11 : Slot) (s12 : Slot) (s13 : Slot) (s14 : Slot) (s15 : Slot) (s16 : Slot) (s17 : Slot) (s18 : Slot) (s19 : Slot) (s20 : Slot) (s21 : Slot) (s22 : Slot) (s23 : Slot) (kA : ClassId) (cs : List Int32) (n0 : Nat)
    (X0 : Stand p l e room_1 s m args below meth c T0 locs cells slots) (hx : p.tables.exec = Jvm.exec) (hZ : Z.Warmed39 s.vm) (hw : ∀ d ∈ tables_1, d.before a0 Z = true) (hby : c.code = code) (hml : c.maxLocals = 24) (hown : s.vm.findClass "com/example/bandmark/bandmark/PlainDecimalIsCompactPinLaw" = some m.cls) (e0 : T0.heap = h0) (V : Arv Z h0 o7 kA .char (22 : Int32) (cs.map Value.int) (.int (0 : Int32))) (hcs : cs.length = 22) (Z0 : n0 ≤ h0.size) (N0 : Fr n0 locs) (hcl : cells ≤ room_1.cells) (hsl : slots ≤ room_1.slots) (hs8 : One s8) (hs9 : One s9) (g_o7 : n0 ≤ o7) (hc244 : (i0 &&& (3 : Int32)) < (2 : Int32)) (hc256 : ¬ ((i0 &&& (3 : Int32)) = (0 : Int32))) (hc271 : (i0 &&& (3 : Int32)) = (1 : Int32)) :
    ∃ (T' : State) (locs' : List Loc), Stand p l e room_1 s m args below meth c T' locs' cells slots ∧ Fr n0 locs' ∧ Keep h0 T'.heap [o7] ∧ Arv Z T'.heap o7 kA .char (22 : Int32) ((cs.set 0 43).map Value.int) (.int (0 : Int32)) ∧
      ∀ target, Steps p.tables e below (T'.setTop (mkF m 280 #[.val (.int i0), s1, s2, s3, s4, s5, s6, .val (.ref o7), .val (.int (i0 &&& (3 : Int32))), .val (.int (1 : Int32)), s10, s11, s12, s13, s14, s15, s16, s17, s18, s19, s20, s21, s22, s23] [])) target → Steps p.tables e below (T0.setTop (mkF m 236 #[.val (.int i0), s1, s2, s3, s4, s5, s6, .val (.ref o7), s8, s9, s10, s11, s12, s13, s14, s15, s16, s17, s18, s19, s20, s21, s22, s23] [])) target := by
  obtain ⟨cl_o7, Ar_o7, q7, S7, M7, H7, G7⟩ := V
  have hqc : ((0 : Int32)).toNatClampNeg = 0 := rfl
  have hin279 : ¬ ((0 : Int32) < 0 ∨ cl_o7.slots.size ≤ ((0 : Int32)).toNatClampNeg) := inb_of S7 ⟨by decide, by decide⟩
  obtain ⟨T7, h7, X7, e7, W7, st7⟩ := stC X0 hx hZ e0 Ar_o7 (j := (0 : Int32)) hin279 (g := (mkF m 279 #[.val (.int i0), s1, s2, s3, s4, s5, s6, .val (.ref o7), .val (.int (i0 &&& (3 : Int32))), .val (.int (1 : Int32)), s10, s11, s12, s13, s14, s15, s16, s17, s18, s19, s20, s21, s22, s23] [(.int (43 : Int32)), (.int (0 : Int32)), (.ref o7)])) rfl rfl (hb hby at_279)
  have N7 := Fr.snoc X7 N0 g_o7
  have K7 : Keep h0 h7 [o7] := (Keep.refl h0 [o7]).wr W7 (Or.inl (List.mem_of_getElem? (i := 0) rfl))
  refine ⟨T7, _, X7, N7, by rw [e7]; exact K7, by rw [e7, List.map_set]; exact Arv.set Ar_o7 q7 S7 M7 H7 G7 (fits_nar_char _) W7 0 hqc (by rw [List.length_map, hcs]; decide), fun target kt => ?_⟩
  show Steps p.tables e below (T0.setTop (mkF m 236 #[.val (.int i0), s1, s2, s3, s4, s5, s6, .val (.ref o7), s8, s9, s10, s11, s12, s13, s14, s15, s16, s17, s18, s19, s20, s21, s22, s23] [])) _
  refine XS.iloadN X0.here hx rfl (hb hby at_236) rfl ?_
  show Steps p.tables e below (T0.setTop (mkF m 237 #[.val (.int i0), s1, s2, s3, s4, s5, s6, .val (.ref o7), s8, s9, s10, s11, s12, s13, s14, s15, s16, s17, s18, s19, s20, s21, s22, s23] [(.int i0)])) _
  refine XS.iconst X0.here hx rfl (hb hby at_237) ?_
  show Steps p.tables e below (T0.setTop (mkF m 238 #[.val (.int i0), s1, s2, s3, s4, s5, s6, .val (.ref o7), s8, s9, s10, s11, s12, s13, s14, s15, s16, s17, s18, s19, s20, s21, s22, s23] [(.int (3 : Int32)), (.int i0)])) _
  refine XS.iand X0.here hx rfl (hb hby at_238) rfl ?_
  show Steps p.tables e below (T0.setTop (mkF m 239 #[.val (.int i0), s1, s2, s3, s4, s5, s6, .val (.ref o7), s8, s9, s10, s11, s12, s13, s14, s15, s16, s17, s18, s19, s20, s21, s22, s23] [(.int (i0 &&& (3 : Int32)))])) _
  refine XS.istore X0.here hx rfl (hb hby at_239) rfl (l' := #[.val (.int i0), s1, s2, s3, s4, s5, s6, .val (.ref o7), .val (.int (i0 &&& (3 : Int32))), s9, s10, s11, s12, s13, s14, s15, s16, s17, s18, s19, s20, s21, s22, s23]) (os0_239_B1 hs8) ?_
  show Steps p.tables e below (T0.setTop (mkF m 241 #[.val (.int i0), s1, s2, s3, s4, s5, s6, .val (.ref o7), .val (.int (i0 &&& (3 : Int32))), s9, s10, s11, s12, s13, s14, s15, s16, s17, s18, s19, s20, s21, s22, s23] [])) _
  refine XS.iload X0.here hx rfl (hb hby at_241) rfl ?_
  show Steps p.tables e below (T0.setTop (mkF m 243 #[.val (.int i0), s1, s2, s3, s4, s5, s6, .val (.ref o7), .val (.int (i0 &&& (3 : Int32))), s9, s10, s11, s12, s13, s14, s15, s16, s17, s18, s19, s20, s21, s22, s23] [(.int (i0 &&& (3 : Int32)))])) _
  refine XS.iconst X0.here hx rfl (hb hby at_243) ?_
  show Steps p.tables e below (T0.setTop (mkF m 244 #[.val (.int i0), s1, s2, s3, s4, s5, s6, .val (.ref o7), .val (.int (i0 &&& (3 : Int32))), s9, s10, s11, s12, s13, s14, s15, s16, s17, s18, s19, s20, s21, s22, s23] [(.int (2 : Int32)), (.int (i0 &&& (3 : Int32)))])) _
  refine XS.icmpNo X0.here hx rfl (hb hby at_244) rfl (tlt hc244).2.1 ?_
  show Steps p.tables e below (T0.setTop (mkF m 247 #[.val (.int i0), s1, s2, s3, s4, s5, s6, .val (.ref o7), .val (.int (i0 &&& (3 : Int32))), s9, s10, s11, s12, s13, s14, s15, s16, s17, s18, s19, s20, s21, s22, s23] [])) _
  refine XS.iconst X0.here hx rfl (hb hby at_247) ?_
  show Steps p.tables e below (T0.setTop (mkF m 248 #[.val (.int i0), s1, s2, s3, s4, s5, s6, .val (.ref o7), .val (.int (i0 &&& (3 : Int32))), s9, s10, s11, s12, s13, s14, s15, s16, s17, s18, s19, s20, s21, s22, s23] [(.int (1 : Int32))])) _
  refine XS.goto X0.here hx rfl (pc0 := 248) (pc' := 252) rfl (hb hby at_248) (by decide) (by decide) ?_
  show Steps p.tables e below (T0.setTop (mkF m 252 #[.val (.int i0), s1, s2, s3, s4, s5, s6, .val (.ref o7), .val (.int (i0 &&& (3 : Int32))), s9, s10, s11, s12, s13, s14, s15, s16, s17, s18, s19, s20, s21, s22, s23] [(.int (1 : Int32))])) _
  refine XS.istore X0.here hx rfl (hb hby at_252) rfl (l' := #[.val (.int i0), s1, s2, s3, s4, s5, s6, .val (.ref o7), .val (.int (i0 &&& (3 : Int32))), .val (.int (1 : Int32)), s10, s11, s12, s13, s14, s15, s16, s17, s18, s19, s20, s21, s22, s23]) (os0_252_B1 hs9) ?_
  show Steps p.tables e below (T0.setTop (mkF m 254 #[.val (.int i0), s1, s2, s3, s4, s5, s6, .val (.ref o7), .val (.int (i0 &&& (3 : Int32))), .val (.int (1 : Int32)), s10, s11, s12, s13, s14, s15, s16, s17, s18, s19, s20, s21, s22, s23] [])) _
  refine XS.iload X0.here hx rfl (hb hby at_254) rfl ?_
  show Steps p.tables e below (T0.setTop (mkF m 256 #[.val (.int i0), s1, s2, s3, s4, s5, s6, .val (.ref o7), .val (.int (i0 &&& (3 : Int32))), .val (.int (1 : Int32)), s10, s11, s12, s13, s14, s15, s16, s17, s18, s19, s20, s21, s22, s23] [(.int (i0 &&& (3 : Int32)))])) _
  refine XS.ifYes X0.here hx rfl (pc0 := 256) (pc' := 268) rfl (hb hby at_256) rfl ((if0 _ _).trans (feq hc256).2) (by decide) (by decide) ?_
  show Steps p.tables e below (T0.setTop (mkF m 268 #[.val (.int i0), s1, s2, s3, s4, s5, s6, .val (.ref o7), .val (.int (i0 &&& (3 : Int32))), .val (.int (1 : Int32)), s10, s11, s12, s13, s14, s15, s16, s17, s18, s19, s20, s21, s22, s23] [])) _
  refine XS.iload X0.here hx rfl (hb hby at_268) rfl ?_
  show Steps p.tables e below (T0.setTop (mkF m 270 #[.val (.int i0), s1, s2, s3, s4, s5, s6, .val (.ref o7), .val (.int (i0 &&& (3 : Int32))), .val (.int (1 : Int32)), s10, s11, s12, s13, s14, s15, s16, s17, s18, s19, s20, s21, s22, s23] [(.int (i0 &&& (3 : Int32)))])) _
  refine XS.iconst X0.here hx rfl (hb hby at_270) ?_
  show Steps p.tables e below (T0.setTop (mkF m 271 #[.val (.int i0), s1, s2, s3, s4, s5, s6, .val (.ref o7), .val (.int (i0 &&& (3 : Int32))), .val (.int (1 : Int32)), s10, s11, s12, s13, s14, s15, s16, s17, s18, s19, s20, s21, s22, s23] [(.int (1 : Int32)), (.int (i0 &&& (3 : Int32)))])) _
  refine XS.icmpNo X0.here hx rfl (hb hby at_271) rfl (teq hc271).2 ?_
  show Steps p.tables e below (T0.setTop (mkF m 274 #[.val (.int i0), s1, s2, s3, s4, s5, s6, .val (.ref o7), .val (.int (i0 &&& (3 : Int32))), .val (.int (1 : Int32)), s10, s11, s12, s13, s14, s15, s16, s17, s18, s19, s20, s21, s22, s23] [])) _
  refine XS.aload X0.here hx rfl (hb hby at_274) rfl rfl ?_
  show Steps p.tables e below (T0.setTop (mkF m 276 #[.val (.int i0), s1, s2, s3, s4, s5, s6, .val (.ref o7), .val (.int (i0 &&& (3 : Int32))), .val (.int (1 : Int32)), s10, s11, s12, s13, s14, s15, s16, s17, s18, s19, s20, s21, s22, s23] [(.ref o7)])) _
  refine XS.iconst X0.here hx rfl (hb hby at_276) ?_
  show Steps p.tables e below (T0.setTop (mkF m 277 #[.val (.int i0), s1, s2, s3, s4, s5, s6, .val (.ref o7), .val (.int (i0 &&& (3 : Int32))), .val (.int (1 : Int32)), s10, s11, s12, s13, s14, s15, s16, s17, s18, s19, s20, s21, s22, s23] [(.int (0 : Int32)), (.ref o7)])) _
  refine XS.bipush X0.here hx rfl (hb hby at_277) ?_
  show Steps p.tables e below (T0.setTop (mkF m 279 #[.val (.int i0), s1, s2, s3, s4, s5, s6, .val (.ref o7), .val (.int (i0 &&& (3 : Int32))), .val (.int (1 : Int32)), s10, s11, s12, s13, s14, s15, s16, s17, s18, s19, s20, s21, s22, s23] [(.int (43 : Int32)), (.int (0 : Int32)), (.ref o7)])) _
  refine st7 _ ?_
  exact kt
theorem os0_239_B2 {z0 : Value} {s1 : Slot} {s2 : Slot} {s3 : Slot} {s4 : Slot} {s5 : Slot} {s6 : Slot} {s7 : Slot} {s8 : Slot} {s9 : Slot} {s10 : Slot} {s11 : Slot} {s12 : Slot} {s13 : Slot} {s14 : Slot} {s15 : Slot} {s16 : Slot} {s17 : Slot} {s18 : Slot} {s19 : Slot} {s20 : Slot} {s21 : Slot} {s22 : Slot} {s23 : Slot} {v : Int32} (h : One s8) : storeLocals #[.val z0, s1, s2, s3, s4, s5, s6, s7, s8, s9, s10, s11, s12, s13, s14, s15, s16, s17, s18, s19, s20, s21, s22, s23] 8 (.int v) = some #[.val z0, s1, s2, s3, s4, s5, s6, s7, .val (.int v), s9, s10, s11, s12, s13, s14, s15, s16, s17, s18, s19, s20, s21, s22, s23] := by
  rcases h with rfl | ⟨w, rfl, hw⟩
  · rfl
  · cases w <;> first | rfl | (simp [Value.category] at hw)
theorem os0_252_B2 {z0 : Value} {s1 : Slot} {s2 : Slot} {s3 : Slot} {s4 : Slot} {s5 : Slot} {s6 : Slot} {s7 : Slot} {z8 : Value} {s9 : Slot} {s10 : Slot} {s11 : Slot} {s12 : Slot} {s13 : Slot} {s14 : Slot} {s15 : Slot} {s16 : Slot} {s17 : Slot} {s18 : Slot} {s19 : Slot} {s20 : Slot} {s21 : Slot} {s22 : Slot} {s23 : Slot} {v : Int32} (h : One s9) : storeLocals #[.val z0, s1, s2, s3, s4, s5, s6, s7, .val z8, s9, s10, s11, s12, s13, s14, s15, s16, s17, s18, s19, s20, s21, s22, s23] 9 (.int v) = some #[.val z0, s1, s2, s3, s4, s5, s6, s7, .val z8, .val (.int v), s10, s11, s12, s13, s14, s15, s16, s17, s18, s19, s20, s21, s22, s23] := by
  rcases h with rfl | ⟨w, rfl, hw⟩
  · rfl
  · cases w <;> first | rfl | (simp [Value.category] at hw)
set_option maxRecDepth 65536 in
set_option maxHeartbeats 40000000 in
theorem B2 {p : Program} {l : Launch} {e : Env} {s : State} {m : MethodId} {args : Array Value} {below : List Frame} {meth : Method} {c : Code} {T0 : State} {locs : List Loc} {cells slots : Nat} {Z : State} {a0 : Array Value} {h0 : Heap} (i0 : Int32) (s1 : Slot) (s2 : Slot) (s3 : Slot) (s4 : Slot) (s5 : Slot) (s6 : Slot) (s7 : Slot) (s8 : Slot) (s9 : Slot) (s10 : Slot) (s11 : Slot) (s12 : Slot) (s13 : Slot) (s14 : Slot) (s15 : Slot) (s16 : Slot) (s17 : Slot) (s18 : Slot) (s19 : Slot) (s20 : Slot) (s21 : Slot) (s22 : Slot) (s23 : Slot)
    (X0 : Stand p l e room_1 s m args below meth c T0 locs cells slots) (hx : p.tables.exec = Jvm.exec) (hZ : Z.Warmed39 s.vm) (hw : ∀ d ∈ tables_1, d.before a0 Z = true) (hby : c.code = code) (hml : c.maxLocals = 24) (hown : s.vm.findClass "com/example/bandmark/bandmark/PlainDecimalIsCompactPinLaw" = some m.cls) (e0 : T0.heap = h0) (hs8 : One s8) (hs9 : One s9) (hc244 : ¬ ((i0 &&& (3 : Int32)) < (2 : Int32))) (hc256 : ¬ ((i0 &&& (3 : Int32)) = (0 : Int32))) (hc271 : ¬ ((i0 &&& (3 : Int32)) = (1 : Int32))) :
    ∃ (T' : State), Stand p l e room_1 s m args below meth c T' locs cells slots ∧ T'.heap = h0 ∧
      ∀ target, Steps p.tables e below (T'.setTop (mkF m 280 #[.val (.int i0), s1, s2, s3, s4, s5, s6, s7, .val (.int (i0 &&& (3 : Int32))), .val (.int (0 : Int32)), s10, s11, s12, s13, s14, s15, s16, s17, s18, s19, s20, s21, s22, s23] [])) target → Steps p.tables e below (T0.setTop (mkF m 236 #[.val (.int i0), s1, s2, s3, s4, s5, s6, s7, s8, s9, s10, s11, s12, s13, s14, s15, s16, s17, s18, s19, s20, s21, s22, s23] [])) target := by
  refine ⟨T0, X0, e0, fun target kt => ?_⟩
  show Steps p.tables e below (T0.setTop (mkF m 236 #[.val (.int i0), s1, s2, s3, s4, s5, s6, s7, s8, s9, s10, s11, s12, s13, s14, s15, s16, s17, s18, s19, s20, s21, s22, s23] [])) _
  refine XS.iloadN X0.here hx rfl (hb hby at_236) rfl ?_
  show Steps p.tables e below (T0.setTop (mkF m 237 #[.val (.int i0), s1, s2, s3, s4, s5, s6, s7, s8, s9, s10, s11, s12, s13, s14, s15, s16, s17, s18, s19, s20, s21, s22, s23] [(.int i0)])) _
  refine XS.iconst X0.here hx rfl (hb hby at_237) ?_
  show Steps p.tables e below (T0.setTop (mkF m 238 #[.val (.int i0), s1, s2, s3, s4, s5, s6, s7, s8, s9, s10, s11, s12, s13, s14, s15, s16, s17, s18, s19, s20, s21, s22, s23] [(.int (3 : Int32)), (.int i0)])) _
  refine XS.iand X0.here hx rfl (hb hby at_238) rfl ?_
  show Steps p.tables e below (T0.setTop (mkF m 239 #[.val (.int i0), s1, s2, s3, s4, s5, s6, s7, s8, s9, s10, s11, s12, s13, s14, s15, s16, s17, s18, s19, s20, s21, s22, s23] [(.int (i0 &&& (3 : Int32)))])) _
  refine XS.istore X0.here hx rfl (hb hby at_239) rfl (l' := #[.val (.int i0), s1, s2, s3, s4, s5, s6, s7, .val (.int (i0 &&& (3 : Int32))), s9, s10, s11, s12, s13, s14, s15, s16, s17, s18, s19, s20, s21, s22, s23]) (os0_239_B2 hs8) ?_
  show Steps p.tables e below (T0.setTop (mkF m 241 #[.val (.int i0), s1, s2, s3, s4, s5, s6, s7, .val (.int (i0 &&& (3 : Int32))), s9, s10, s11, s12, s13, s14, s15, s16, s17, s18, s19, s20, s21, s22, s23] [])) _
  refine XS.iload X0.here hx rfl (hb hby at_241) rfl ?_
  show Steps p.tables e below (T0.setTop (mkF m 243 #[.val (.int i0), s1, s2, s3, s4, s5, s6, s7, .val (.int (i0 &&& (3 : Int32))), s9, s10, s11, s12, s13, s14, s15, s16, s17, s18, s19, s20, s21, s22, s23] [(.int (i0 &&& (3 : Int32)))])) _
  refine XS.iconst X0.here hx rfl (hb hby at_243) ?_
  show Steps p.tables e below (T0.setTop (mkF m 244 #[.val (.int i0), s1, s2, s3, s4, s5, s6, s7, .val (.int (i0 &&& (3 : Int32))), s9, s10, s11, s12, s13, s14, s15, s16, s17, s18, s19, s20, s21, s22, s23] [(.int (2 : Int32)), (.int (i0 &&& (3 : Int32)))])) _
  refine XS.icmpYes X0.here hx rfl (pc0 := 244) (pc' := 251) rfl (hb hby at_244) rfl (flt hc244).2.1 (by decide) (by decide) ?_
  show Steps p.tables e below (T0.setTop (mkF m 251 #[.val (.int i0), s1, s2, s3, s4, s5, s6, s7, .val (.int (i0 &&& (3 : Int32))), s9, s10, s11, s12, s13, s14, s15, s16, s17, s18, s19, s20, s21, s22, s23] [])) _
  refine XS.iconst X0.here hx rfl (hb hby at_251) ?_
  show Steps p.tables e below (T0.setTop (mkF m 252 #[.val (.int i0), s1, s2, s3, s4, s5, s6, s7, .val (.int (i0 &&& (3 : Int32))), s9, s10, s11, s12, s13, s14, s15, s16, s17, s18, s19, s20, s21, s22, s23] [(.int (0 : Int32))])) _
  refine XS.istore X0.here hx rfl (hb hby at_252) rfl (l' := #[.val (.int i0), s1, s2, s3, s4, s5, s6, s7, .val (.int (i0 &&& (3 : Int32))), .val (.int (0 : Int32)), s10, s11, s12, s13, s14, s15, s16, s17, s18, s19, s20, s21, s22, s23]) (os0_252_B2 hs9) ?_
  show Steps p.tables e below (T0.setTop (mkF m 254 #[.val (.int i0), s1, s2, s3, s4, s5, s6, s7, .val (.int (i0 &&& (3 : Int32))), .val (.int (0 : Int32)), s10, s11, s12, s13, s14, s15, s16, s17, s18, s19, s20, s21, s22, s23] [])) _
  refine XS.iload X0.here hx rfl (hb hby at_254) rfl ?_
  show Steps p.tables e below (T0.setTop (mkF m 256 #[.val (.int i0), s1, s2, s3, s4, s5, s6, s7, .val (.int (i0 &&& (3 : Int32))), .val (.int (0 : Int32)), s10, s11, s12, s13, s14, s15, s16, s17, s18, s19, s20, s21, s22, s23] [(.int (i0 &&& (3 : Int32)))])) _
  refine XS.ifYes X0.here hx rfl (pc0 := 256) (pc' := 268) rfl (hb hby at_256) rfl ((if0 _ _).trans (feq hc256).2) (by decide) (by decide) ?_
  show Steps p.tables e below (T0.setTop (mkF m 268 #[.val (.int i0), s1, s2, s3, s4, s5, s6, s7, .val (.int (i0 &&& (3 : Int32))), .val (.int (0 : Int32)), s10, s11, s12, s13, s14, s15, s16, s17, s18, s19, s20, s21, s22, s23] [])) _
  refine XS.iload X0.here hx rfl (hb hby at_268) rfl ?_
  show Steps p.tables e below (T0.setTop (mkF m 270 #[.val (.int i0), s1, s2, s3, s4, s5, s6, s7, .val (.int (i0 &&& (3 : Int32))), .val (.int (0 : Int32)), s10, s11, s12, s13, s14, s15, s16, s17, s18, s19, s20, s21, s22, s23] [(.int (i0 &&& (3 : Int32)))])) _
  refine XS.iconst X0.here hx rfl (hb hby at_270) ?_
  show Steps p.tables e below (T0.setTop (mkF m 271 #[.val (.int i0), s1, s2, s3, s4, s5, s6, s7, .val (.int (i0 &&& (3 : Int32))), .val (.int (0 : Int32)), s10, s11, s12, s13, s14, s15, s16, s17, s18, s19, s20, s21, s22, s23] [(.int (1 : Int32)), (.int (i0 &&& (3 : Int32)))])) _
  refine XS.icmpYes X0.here hx rfl (pc0 := 271) (pc' := 280) rfl (hb hby at_271) rfl (feq hc271).2 (by decide) (by decide) ?_
  exact kt
theorem os0_284_C2 {s0 : Slot} {z1 : Value} {s2 : Slot} {s3 : Slot} {s4 : Slot} {s5 : Slot} {s6 : Slot} {z7 : Value} {s8 : Slot} {s9 : Slot} {s10 : Slot} {s11 : Slot} {s12 : Slot} {s13 : Slot} {s14 : Slot} {s15 : Slot} {s16 : Slot} {s17 : Slot} {s18 : Slot} {s19 : Slot} {s20 : Slot} {s21 : Slot} {s22 : Slot} {s23 : Slot} {v : Int32} (h : One s10) : storeLocals #[s0, .val z1, s2, s3, s4, s5, s6, .val z7, s8, s9, s10, s11, s12, s13, s14, s15, s16, s17, s18, s19, s20, s21, s22, s23] 10 (.int v) = some #[s0, .val z1, s2, s3, s4, s5, s6, .val z7, s8, s9, .val (.int v), s11, s12, s13, s14, s15, s16, s17, s18, s19, s20, s21, s22, s23] := by
  rcases h with rfl | ⟨w, rfl, hw⟩
  · rfl
  · cases w <;> first | rfl | (simp [Value.category] at hw)
theorem os0_304_C2 {s0 : Slot} {z1 : Value} {s2 : Slot} {s3 : Slot} {s4 : Slot} {s5 : Slot} {s6 : Slot} {z7 : Value} {s8 : Slot} {s9 : Slot} {z10 : Value} {s11 : Slot} {s12 : Slot} {s13 : Slot} {s14 : Slot} {s15 : Slot} {s16 : Slot} {s17 : Slot} {s18 : Slot} {s19 : Slot} {s20 : Slot} {s21 : Slot} {s22 : Slot} {s23 : Slot} {v : Int32} (h : One s11) : storeLocals #[s0, .val z1, s2, s3, s4, s5, s6, .val z7, s8, s9, .val z10, s11, s12, s13, s14, s15, s16, s17, s18, s19, s20, s21, s22, s23] 11 (.int v) = some #[s0, .val z1, s2, s3, s4, s5, s6, .val z7, s8, s9, .val z10, .val (.int v), s12, s13, s14, s15, s16, s17, s18, s19, s20, s21, s22, s23] := by
  rcases h with rfl | ⟨w, rfl, hw⟩
  · rfl
  · cases w <;> first | rfl | (simp [Value.category] at hw)
set_option maxRecDepth 65536 in
set_option maxHeartbeats 40000000 in
theorem C2 {p : Program} {l : Launch} {e : Env} {s : State} {m : MethodId} {args : Array Value} {below : List Frame} {meth : Method} {c : Code} {T0 : State} {locs : List Loc} {cells slots : Nat} {Z : State} {a0 : Array Value} {h0 : Heap} (s0 : Slot) (i1 : Int32) (s2 : Slot) (s3 : Slot) (s4 : Slot) (s5 : Slot) (s6 : Slot) (o7 : Addr) (s8 : Slot) (s9 : Slot) (s10 : Slot) (s11 : Slot) (s12 : Slot) (s13 : Slot) (s14 : Slot) (s15 : Slot) (s16 : Slot) (s17 : Slot) (s18 : Slot) (s19 : Slot) (s20 : Slot) (s21 : Slot) (s22 : Slot) (s23 : Slot) (kA : ClassId) (cs : List Int32) (qn : Nat) (n0 : Nat)
    (X0 : Stand p l e room_1 s m args below meth c T0 locs cells slots) (hx : p.tables.exec = Jvm.exec) (hZ : Z.Warmed39 s.vm) (hw : ∀ d ∈ tables_1, d.before a0 Z = true) (hby : c.code = code) (hml : c.maxLocals = 24) (hown : s.vm.findClass "com/example/bandmark/bandmark/PlainDecimalIsCompactPinLaw" = some m.cls) (e0 : T0.heap = h0) (V : Arv Z h0 o7 kA .char (22 : Int32) (cs.map Value.int) (.int (0 : Int32))) (hcs : cs.length = 22) (hq : (i1 &&& (31 : Int32)) = Int32.ofNat qn) (hq1 : qn < 22) (Z0 : n0 ≤ h0.size) (N0 : Fr n0 locs) (hcl : cells ≤ room_1.cells) (hsl : slots ≤ room_1.slots) (hs10 : One s10) (hs11 : One s11) (g_o7 : n0 ≤ o7) (hc289 : ¬ ((i1 &&& (31 : Int32)) < (1 : Int32))) (hc296 : ¬ ((21 : Int32) < (i1 &&& (31 : Int32)))) (hc308 : ¬ ((1 : Int32) = (0 : Int32))) :
    ∃ (T' : State) (locs' : List Loc), Stand p l e room_1 s m args below meth c T' locs' cells slots ∧ Fr n0 locs' ∧ Keep h0 T'.heap [o7] ∧ Arv Z T'.heap o7 kA .char (22 : Int32) ((cs.set qn 46).map Value.int) (.int (0 : Int32)) ∧
      ∀ target, Steps p.tables e below (T'.setTop (mkF m 318 #[s0, .val (.int i1), s2, s3, s4, s5, s6, .val (.ref o7), s8, s9, .val (.int (i1 &&& (31 : Int32))), .val (.int (1 : Int32)), s12, s13, s14, s15, s16, s17, s18, s19, s20, s21, s22, s23] [])) target → Steps p.tables e below (T0.setTop (mkF m 280 #[s0, .val (.int i1), s2, s3, s4, s5, s6, .val (.ref o7), s8, s9, s10, s11, s12, s13, s14, s15, s16, s17, s18, s19, s20, s21, s22, s23] [])) target := by
  obtain ⟨cl_o7, Ar_o7, q7, S7, M7, H7, G7⟩ := V
  have hqc : ((i1 &&& (31 : Int32))).toNatClampNeg = qn := by rw [hq]; exact own_clamp qn (by omega)
  have hin317 : ¬ ((i1 &&& (31 : Int32)) < 0 ∨ cl_o7.slots.size ≤ ((i1 &&& (31 : Int32))).toNatClampNeg) := inb_of S7 (by rw [hq]; exact own_in qn hq1)
  obtain ⟨T7, h7, X7, e7, W7, st7⟩ := stC X0 hx hZ e0 Ar_o7 (j := (i1 &&& (31 : Int32))) hin317 (g := (mkF m 317 #[s0, .val (.int i1), s2, s3, s4, s5, s6, .val (.ref o7), s8, s9, .val (.int (i1 &&& (31 : Int32))), .val (.int (1 : Int32)), s12, s13, s14, s15, s16, s17, s18, s19, s20, s21, s22, s23] [(.int (46 : Int32)), (.int (i1 &&& (31 : Int32))), (.ref o7)])) rfl rfl (hb hby at_317)
  have N7 := Fr.snoc X7 N0 g_o7
  have K7 : Keep h0 h7 [o7] := (Keep.refl h0 [o7]).wr W7 (Or.inl (List.mem_of_getElem? (i := 0) rfl))
  refine ⟨T7, _, X7, N7, by rw [e7]; exact K7, by rw [e7, List.map_set]; exact Arv.set Ar_o7 q7 S7 M7 H7 G7 (fits_nar_char _) W7 qn hqc (by rw [List.length_map, hcs]; exact hq1), fun target kt => ?_⟩
  show Steps p.tables e below (T0.setTop (mkF m 280 #[s0, .val (.int i1), s2, s3, s4, s5, s6, .val (.ref o7), s8, s9, s10, s11, s12, s13, s14, s15, s16, s17, s18, s19, s20, s21, s22, s23] [])) _
  refine XS.iloadN X0.here hx rfl (hb hby at_280) rfl ?_
  show Steps p.tables e below (T0.setTop (mkF m 281 #[s0, .val (.int i1), s2, s3, s4, s5, s6, .val (.ref o7), s8, s9, s10, s11, s12, s13, s14, s15, s16, s17, s18, s19, s20, s21, s22, s23] [(.int i1)])) _
  refine XS.bipush X0.here hx rfl (hb hby at_281) ?_
  show Steps p.tables e below (T0.setTop (mkF m 283 #[s0, .val (.int i1), s2, s3, s4, s5, s6, .val (.ref o7), s8, s9, s10, s11, s12, s13, s14, s15, s16, s17, s18, s19, s20, s21, s22, s23] [(.int (31 : Int32)), (.int i1)])) _
  refine XS.iand X0.here hx rfl (hb hby at_283) rfl ?_
  show Steps p.tables e below (T0.setTop (mkF m 284 #[s0, .val (.int i1), s2, s3, s4, s5, s6, .val (.ref o7), s8, s9, s10, s11, s12, s13, s14, s15, s16, s17, s18, s19, s20, s21, s22, s23] [(.int (i1 &&& (31 : Int32)))])) _
  refine XS.istore X0.here hx rfl (hb hby at_284) rfl (l' := #[s0, .val (.int i1), s2, s3, s4, s5, s6, .val (.ref o7), s8, s9, .val (.int (i1 &&& (31 : Int32))), s11, s12, s13, s14, s15, s16, s17, s18, s19, s20, s21, s22, s23]) (os0_284_C2 hs10) ?_
  show Steps p.tables e below (T0.setTop (mkF m 286 #[s0, .val (.int i1), s2, s3, s4, s5, s6, .val (.ref o7), s8, s9, .val (.int (i1 &&& (31 : Int32))), s11, s12, s13, s14, s15, s16, s17, s18, s19, s20, s21, s22, s23] [])) _
  refine XS.iload X0.here hx rfl (hb hby at_286) rfl ?_
  show Steps p.tables e below (T0.setTop (mkF m 288 #[s0, .val (.int i1), s2, s3, s4, s5, s6, .val (.ref o7), s8, s9, .val (.int (i1 &&& (31 : Int32))), s11, s12, s13, s14, s15, s16, s17, s18, s19, s20, s21, s22, s23] [(.int (i1 &&& (31 : Int32)))])) _
  refine XS.iconst X0.here hx rfl (hb hby at_288) ?_
  show Steps p.tables e below (T0.setTop (mkF m 289 #[s0, .val (.int i1), s2, s3, s4, s5, s6, .val (.ref o7), s8, s9, .val (.int (i1 &&& (31 : Int32))), s11, s12, s13, s14, s15, s16, s17, s18, s19, s20, s21, s22, s23] [(.int (1 : Int32)), (.int (i1 &&& (31 : Int32)))])) _
  refine XS.icmpNo X0.here hx rfl (hb hby at_289) rfl (flt hc289).1 ?_
  show Steps p.tables e below (T0.setTop (mkF m 292 #[s0, .val (.int i1), s2, s3, s4, s5, s6, .val (.ref o7), s8, s9, .val (.int (i1 &&& (31 : Int32))), s11, s12, s13, s14, s15, s16, s17, s18, s19, s20, s21, s22, s23] [])) _
  refine XS.iload X0.here hx rfl (hb hby at_292) rfl ?_
  show Steps p.tables e below (T0.setTop (mkF m 294 #[s0, .val (.int i1), s2, s3, s4, s5, s6, .val (.ref o7), s8, s9, .val (.int (i1 &&& (31 : Int32))), s11, s12, s13, s14, s15, s16, s17, s18, s19, s20, s21, s22, s23] [(.int (i1 &&& (31 : Int32)))])) _
  refine XS.bipush X0.here hx rfl (hb hby at_294) ?_
  show Steps p.tables e below (T0.setTop (mkF m 296 #[s0, .val (.int i1), s2, s3, s4, s5, s6, .val (.ref o7), s8, s9, .val (.int (i1 &&& (31 : Int32))), s11, s12, s13, s14, s15, s16, s17, s18, s19, s20, s21, s22, s23] [(.int (21 : Int32)), (.int (i1 &&& (31 : Int32)))])) _
  refine XS.icmpNo X0.here hx rfl (hb hby at_296) rfl (flt hc296).2.2.1 ?_
  show Steps p.tables e below (T0.setTop (mkF m 299 #[s0, .val (.int i1), s2, s3, s4, s5, s6, .val (.ref o7), s8, s9, .val (.int (i1 &&& (31 : Int32))), s11, s12, s13, s14, s15, s16, s17, s18, s19, s20, s21, s22, s23] [])) _
  refine XS.iconst X0.here hx rfl (hb hby at_299) ?_
  show Steps p.tables e below (T0.setTop (mkF m 300 #[s0, .val (.int i1), s2, s3, s4, s5, s6, .val (.ref o7), s8, s9, .val (.int (i1 &&& (31 : Int32))), s11, s12, s13, s14, s15, s16, s17, s18, s19, s20, s21, s22, s23] [(.int (1 : Int32))])) _
  refine XS.goto X0.here hx rfl (pc0 := 300) (pc' := 304) rfl (hb hby at_300) (by decide) (by decide) ?_
  show Steps p.tables e below (T0.setTop (mkF m 304 #[s0, .val (.int i1), s2, s3, s4, s5, s6, .val (.ref o7), s8, s9, .val (.int (i1 &&& (31 : Int32))), s11, s12, s13, s14, s15, s16, s17, s18, s19, s20, s21, s22, s23] [(.int (1 : Int32))])) _
  refine XS.istore X0.here hx rfl (hb hby at_304) rfl (l' := #[s0, .val (.int i1), s2, s3, s4, s5, s6, .val (.ref o7), s8, s9, .val (.int (i1 &&& (31 : Int32))), .val (.int (1 : Int32)), s12, s13, s14, s15, s16, s17, s18, s19, s20, s21, s22, s23]) (os0_304_C2 hs11) ?_
  show Steps p.tables e below (T0.setTop (mkF m 306 #[s0, .val (.int i1), s2, s3, s4, s5, s6, .val (.ref o7), s8, s9, .val (.int (i1 &&& (31 : Int32))), .val (.int (1 : Int32)), s12, s13, s14, s15, s16, s17, s18, s19, s20, s21, s22, s23] [])) _
  refine XS.iload X0.here hx rfl (hb hby at_306) rfl ?_
  show Steps p.tables e below (T0.setTop (mkF m 308 #[s0, .val (.int i1), s2, s3, s4, s5, s6, .val (.ref o7), s8, s9, .val (.int (i1 &&& (31 : Int32))), .val (.int (1 : Int32)), s12, s13, s14, s15, s16, s17, s18, s19, s20, s21, s22, s23] [(.int (1 : Int32))])) _
  refine XS.ifNo X0.here hx rfl (hb hby at_308) rfl ((if0 _ _).trans (feq hc308).1) ?_
  show Steps p.tables e below (T0.setTop (mkF m 311 #[s0, .val (.int i1), s2, s3, s4, s5, s6, .val (.ref o7), s8, s9, .val (.int (i1 &&& (31 : Int32))), .val (.int (1 : Int32)), s12, s13, s14, s15, s16, s17, s18, s19, s20, s21, s22, s23] [])) _
  refine XS.aload X0.here hx rfl (hb hby at_311) rfl rfl ?_
  show Steps p.tables e below (T0.setTop (mkF m 313 #[s0, .val (.int i1), s2, s3, s4, s5, s6, .val (.ref o7), s8, s9, .val (.int (i1 &&& (31 : Int32))), .val (.int (1 : Int32)), s12, s13, s14, s15, s16, s17, s18, s19, s20, s21, s22, s23] [(.ref o7)])) _
  refine XS.iload X0.here hx rfl (hb hby at_313) rfl ?_
  show Steps p.tables e below (T0.setTop (mkF m 315 #[s0, .val (.int i1), s2, s3, s4, s5, s6, .val (.ref o7), s8, s9, .val (.int (i1 &&& (31 : Int32))), .val (.int (1 : Int32)), s12, s13, s14, s15, s16, s17, s18, s19, s20, s21, s22, s23] [(.int (i1 &&& (31 : Int32))), (.ref o7)])) _
  refine XS.bipush X0.here hx rfl (hb hby at_315) ?_
  show Steps p.tables e below (T0.setTop (mkF m 317 #[s0, .val (.int i1), s2, s3, s4, s5, s6, .val (.ref o7), s8, s9, .val (.int (i1 &&& (31 : Int32))), .val (.int (1 : Int32)), s12, s13, s14, s15, s16, s17, s18, s19, s20, s21, s22, s23] [(.int (46 : Int32)), (.int (i1 &&& (31 : Int32))), (.ref o7)])) _
  refine st7 _ ?_
  exact kt
theorem os0_284_C0 {s0 : Slot} {z1 : Value} {s2 : Slot} {s3 : Slot} {s4 : Slot} {s5 : Slot} {s6 : Slot} {s7 : Slot} {s8 : Slot} {s9 : Slot} {s10 : Slot} {s11 : Slot} {s12 : Slot} {s13 : Slot} {s14 : Slot} {s15 : Slot} {s16 : Slot} {s17 : Slot} {s18 : Slot} {s19 : Slot} {s20 : Slot} {s21 : Slot} {s22 : Slot} {s23 : Slot} {v : Int32} (h : One s10) : storeLocals #[s0, .val z1, s2, s3, s4, s5, s6, s7, s8, s9, s10, s11, s12, s13, s14, s15, s16, s17, s18, s19, s20, s21, s22, s23] 10 (.int v) = some #[s0, .val z1, s2, s3, s4, s5, s6, s7, s8, s9, .val (.int v), s11, s12, s13, s14, s15, s16, s17, s18, s19, s20, s21, s22, s23] := by
  rcases h with rfl | ⟨w, rfl, hw⟩
  · rfl
  · cases w <;> first | rfl | (simp [Value.category] at hw)
theorem os0_304_C0 {s0 : Slot} {z1 : Value} {s2 : Slot} {s3 : Slot} {s4 : Slot} {s5 : Slot} {s6 : Slot} {s7 : Slot} {s8 : Slot} {s9 : Slot} {z10 : Value} {s11 : Slot} {s12 : Slot} {s13 : Slot} {s14 : Slot} {s15 : Slot} {s16 : Slot} {s17 : Slot} {s18 : Slot} {s19 : Slot} {s20 : Slot} {s21 : Slot} {s22 : Slot} {s23 : Slot} {v : Int32} (h : One s11) : storeLocals #[s0, .val z1, s2, s3, s4, s5, s6, s7, s8, s9, .val z10, s11, s12, s13, s14, s15, s16, s17, s18, s19, s20, s21, s22, s23] 11 (.int v) = some #[s0, .val z1, s2, s3, s4, s5, s6, s7, s8, s9, .val z10, .val (.int v), s12, s13, s14, s15, s16, s17, s18, s19, s20, s21, s22, s23] := by
  rcases h with rfl | ⟨w, rfl, hw⟩
  · rfl
  · cases w <;> first | rfl | (simp [Value.category] at hw)
set_option maxRecDepth 65536 in
set_option maxHeartbeats 40000000 in
theorem C0 {p : Program} {l : Launch} {e : Env} {s : State} {m : MethodId} {args : Array Value} {below : List Frame} {meth : Method} {c : Code} {T0 : State} {locs : List Loc} {cells slots : Nat} {Z : State} {a0 : Array Value} {h0 : Heap} (s0 : Slot) (i1 : Int32) (s2 : Slot) (s3 : Slot) (s4 : Slot) (s5 : Slot) (s6 : Slot) (s7 : Slot) (s8 : Slot) (s9 : Slot) (s10 : Slot) (s11 : Slot) (s12 : Slot) (s13 : Slot) (s14 : Slot) (s15 : Slot) (s16 : Slot) (s17 : Slot) (s18 : Slot) (s19 : Slot) (s20 : Slot) (s21 : Slot) (s22 : Slot) (s23 : Slot)
    (X0 : Stand p l e room_1 s m args below meth c T0 locs cells slots) (hx : p.tables.exec = Jvm.exec) (hZ : Z.Warmed39 s.vm) (hw : ∀ d ∈ tables_1, d.before a0 Z = true) (hby : c.code = code) (hml : c.maxLocals = 24) (hown : s.vm.findClass "com/example/bandmark/bandmark/PlainDecimalIsCompactPinLaw" = some m.cls) (e0 : T0.heap = h0) (hs10 : One s10) (hs11 : One s11) (hc289 : (i1 &&& (31 : Int32)) < (1 : Int32)) :
    ∃ (T' : State), Stand p l e room_1 s m args below meth c T' locs cells slots ∧ T'.heap = h0 ∧
      ∀ target, Steps p.tables e below (T'.setTop (mkF m 318 #[s0, .val (.int i1), s2, s3, s4, s5, s6, s7, s8, s9, .val (.int (i1 &&& (31 : Int32))), .val (.int (0 : Int32)), s12, s13, s14, s15, s16, s17, s18, s19, s20, s21, s22, s23] [])) target → Steps p.tables e below (T0.setTop (mkF m 280 #[s0, .val (.int i1), s2, s3, s4, s5, s6, s7, s8, s9, s10, s11, s12, s13, s14, s15, s16, s17, s18, s19, s20, s21, s22, s23] [])) target := by
  refine ⟨T0, X0, e0, fun target kt => ?_⟩
  show Steps p.tables e below (T0.setTop (mkF m 280 #[s0, .val (.int i1), s2, s3, s4, s5, s6, s7, s8, s9, s10, s11, s12, s13, s14, s15, s16, s17, s18, s19, s20, s21, s22, s23] [])) _
  refine XS.iloadN X0.here hx rfl (hb hby at_280) rfl ?_
  show Steps p.tables e below (T0.setTop (mkF m 281 #[s0, .val (.int i1), s2, s3, s4, s5, s6, s7, s8, s9, s10, s11, s12, s13, s14, s15, s16, s17, s18, s19, s20, s21, s22, s23] [(.int i1)])) _
  refine XS.bipush X0.here hx rfl (hb hby at_281) ?_
  show Steps p.tables e below (T0.setTop (mkF m 283 #[s0, .val (.int i1), s2, s3, s4, s5, s6, s7, s8, s9, s10, s11, s12, s13, s14, s15, s16, s17, s18, s19, s20, s21, s22, s23] [(.int (31 : Int32)), (.int i1)])) _
  refine XS.iand X0.here hx rfl (hb hby at_283) rfl ?_
  show Steps p.tables e below (T0.setTop (mkF m 284 #[s0, .val (.int i1), s2, s3, s4, s5, s6, s7, s8, s9, s10, s11, s12, s13, s14, s15, s16, s17, s18, s19, s20, s21, s22, s23] [(.int (i1 &&& (31 : Int32)))])) _
  refine XS.istore X0.here hx rfl (hb hby at_284) rfl (l' := #[s0, .val (.int i1), s2, s3, s4, s5, s6, s7, s8, s9, .val (.int (i1 &&& (31 : Int32))), s11, s12, s13, s14, s15, s16, s17, s18, s19, s20, s21, s22, s23]) (os0_284_C0 hs10) ?_
  show Steps p.tables e below (T0.setTop (mkF m 286 #[s0, .val (.int i1), s2, s3, s4, s5, s6, s7, s8, s9, .val (.int (i1 &&& (31 : Int32))), s11, s12, s13, s14, s15, s16, s17, s18, s19, s20, s21, s22, s23] [])) _
  refine XS.iload X0.here hx rfl (hb hby at_286) rfl ?_
  show Steps p.tables e below (T0.setTop (mkF m 288 #[s0, .val (.int i1), s2, s3, s4, s5, s6, s7, s8, s9, .val (.int (i1 &&& (31 : Int32))), s11, s12, s13, s14, s15, s16, s17, s18, s19, s20, s21, s22, s23] [(.int (i1 &&& (31 : Int32)))])) _
  refine XS.iconst X0.here hx rfl (hb hby at_288) ?_
  show Steps p.tables e below (T0.setTop (mkF m 289 #[s0, .val (.int i1), s2, s3, s4, s5, s6, s7, s8, s9, .val (.int (i1 &&& (31 : Int32))), s11, s12, s13, s14, s15, s16, s17, s18, s19, s20, s21, s22, s23] [(.int (1 : Int32)), (.int (i1 &&& (31 : Int32)))])) _
  refine XS.icmpYes X0.here hx rfl (pc0 := 289) (pc' := 303) rfl (hb hby at_289) rfl (tlt hc289).1 (by decide) (by decide) ?_
  show Steps p.tables e below (T0.setTop (mkF m 303 #[s0, .val (.int i1), s2, s3, s4, s5, s6, s7, s8, s9, .val (.int (i1 &&& (31 : Int32))), s11, s12, s13, s14, s15, s16, s17, s18, s19, s20, s21, s22, s23] [])) _
  refine XS.iconst X0.here hx rfl (hb hby at_303) ?_
  show Steps p.tables e below (T0.setTop (mkF m 304 #[s0, .val (.int i1), s2, s3, s4, s5, s6, s7, s8, s9, .val (.int (i1 &&& (31 : Int32))), s11, s12, s13, s14, s15, s16, s17, s18, s19, s20, s21, s22, s23] [(.int (0 : Int32))])) _
  refine XS.istore X0.here hx rfl (hb hby at_304) rfl (l' := #[s0, .val (.int i1), s2, s3, s4, s5, s6, s7, s8, s9, .val (.int (i1 &&& (31 : Int32))), .val (.int (0 : Int32)), s12, s13, s14, s15, s16, s17, s18, s19, s20, s21, s22, s23]) (os0_304_C0 hs11) ?_
  show Steps p.tables e below (T0.setTop (mkF m 306 #[s0, .val (.int i1), s2, s3, s4, s5, s6, s7, s8, s9, .val (.int (i1 &&& (31 : Int32))), .val (.int (0 : Int32)), s12, s13, s14, s15, s16, s17, s18, s19, s20, s21, s22, s23] [])) _
  refine XS.iload X0.here hx rfl (hb hby at_306) rfl ?_
  show Steps p.tables e below (T0.setTop (mkF m 308 #[s0, .val (.int i1), s2, s3, s4, s5, s6, s7, s8, s9, .val (.int (i1 &&& (31 : Int32))), .val (.int (0 : Int32)), s12, s13, s14, s15, s16, s17, s18, s19, s20, s21, s22, s23] [(.int (0 : Int32))])) _
  refine XS.ifYes X0.here hx rfl (pc0 := 308) (pc' := 318) rfl (hb hby at_308) rfl ((if0 _ _).trans (teq (rfl : (0 : Int32) = (0 : Int32))).1) (by decide) (by decide) ?_
  exact kt
theorem os0_284_C1 {s0 : Slot} {z1 : Value} {s2 : Slot} {s3 : Slot} {s4 : Slot} {s5 : Slot} {s6 : Slot} {s7 : Slot} {s8 : Slot} {s9 : Slot} {s10 : Slot} {s11 : Slot} {s12 : Slot} {s13 : Slot} {s14 : Slot} {s15 : Slot} {s16 : Slot} {s17 : Slot} {s18 : Slot} {s19 : Slot} {s20 : Slot} {s21 : Slot} {s22 : Slot} {s23 : Slot} {v : Int32} (h : One s10) : storeLocals #[s0, .val z1, s2, s3, s4, s5, s6, s7, s8, s9, s10, s11, s12, s13, s14, s15, s16, s17, s18, s19, s20, s21, s22, s23] 10 (.int v) = some #[s0, .val z1, s2, s3, s4, s5, s6, s7, s8, s9, .val (.int v), s11, s12, s13, s14, s15, s16, s17, s18, s19, s20, s21, s22, s23] := by
  rcases h with rfl | ⟨w, rfl, hw⟩
  · rfl
  · cases w <;> first | rfl | (simp [Value.category] at hw)
theorem os0_304_C1 {s0 : Slot} {z1 : Value} {s2 : Slot} {s3 : Slot} {s4 : Slot} {s5 : Slot} {s6 : Slot} {s7 : Slot} {s8 : Slot} {s9 : Slot} {z10 : Value} {s11 : Slot} {s12 : Slot} {s13 : Slot} {s14 : Slot} {s15 : Slot} {s16 : Slot} {s17 : Slot} {s18 : Slot} {s19 : Slot} {s20 : Slot} {s21 : Slot} {s22 : Slot} {s23 : Slot} {v : Int32} (h : One s11) : storeLocals #[s0, .val z1, s2, s3, s4, s5, s6, s7, s8, s9, .val z10, s11, s12, s13, s14, s15, s16, s17, s18, s19, s20, s21, s22, s23] 11 (.int v) = some #[s0, .val z1, s2, s3, s4, s5, s6, s7, s8, s9, .val z10, .val (.int v), s12, s13, s14, s15, s16, s17, s18, s19, s20, s21, s22, s23] := by
  rcases h with rfl | ⟨w, rfl, hw⟩
  · rfl
  · cases w <;> first | rfl | (simp [Value.category] at hw)
set_option maxRecDepth 65536 in
set_option maxHeartbeats 40000000 in
theorem C1 {p : Program} {l : Launch} {e : Env} {s : State} {m : MethodId} {args : Array Value} {below : List Frame} {meth : Method} {c : Code} {T0 : State} {locs : List Loc} {cells slots : Nat} {Z : State} {a0 : Array Value} {h0 : Heap} (s0 : Slot) (i1 : Int32) (s2 : Slot) (s3 : Slot) (s4 : Slot) (s5 : Slot) (s6 : Slot) (s7 : Slot) (s8 : Slot) (s9 : Slot) (s10 : Slot) (s11 : Slot) (s12 : Slot) (s13 : Slot) (s14 : Slot) (s15 : Slot) (s16 : Slot) (s17 : Slot) (s18 : Slot) (s19 : Slot) (s20 : Slot) (s21 : Slot) (s22 : Slot) (s23 : Slot)
    (X0 : Stand p l e room_1 s m args below meth c T0 locs cells slots) (hx : p.tables.exec = Jvm.exec) (hZ : Z.Warmed39 s.vm) (hw : ∀ d ∈ tables_1, d.before a0 Z = true) (hby : c.code = code) (hml : c.maxLocals = 24) (hown : s.vm.findClass "com/example/bandmark/bandmark/PlainDecimalIsCompactPinLaw" = some m.cls) (e0 : T0.heap = h0) (hs10 : One s10) (hs11 : One s11) (hc289 : ¬ ((i1 &&& (31 : Int32)) < (1 : Int32))) (hc296 : (21 : Int32) < (i1 &&& (31 : Int32))) :
    ∃ (T' : State), Stand p l e room_1 s m args below meth c T' locs cells slots ∧ T'.heap = h0 ∧
      ∀ target, Steps p.tables e below (T'.setTop (mkF m 318 #[s0, .val (.int i1), s2, s3, s4, s5, s6, s7, s8, s9, .val (.int (i1 &&& (31 : Int32))), .val (.int (0 : Int32)), s12, s13, s14, s15, s16, s17, s18, s19, s20, s21, s22, s23] [])) target → Steps p.tables e below (T0.setTop (mkF m 280 #[s0, .val (.int i1), s2, s3, s4, s5, s6, s7, s8, s9, s10, s11, s12, s13, s14, s15, s16, s17, s18, s19, s20, s21, s22, s23] [])) target := by
  refine ⟨T0, X0, e0, fun target kt => ?_⟩
  show Steps p.tables e below (T0.setTop (mkF m 280 #[s0, .val (.int i1), s2, s3, s4, s5, s6, s7, s8, s9, s10, s11, s12, s13, s14, s15, s16, s17, s18, s19, s20, s21, s22, s23] [])) _
  refine XS.iloadN X0.here hx rfl (hb hby at_280) rfl ?_
  show Steps p.tables e below (T0.setTop (mkF m 281 #[s0, .val (.int i1), s2, s3, s4, s5, s6, s7, s8, s9, s10, s11, s12, s13, s14, s15, s16, s17, s18, s19, s20, s21, s22, s23] [(.int i1)])) _
  refine XS.bipush X0.here hx rfl (hb hby at_281) ?_
  show Steps p.tables e below (T0.setTop (mkF m 283 #[s0, .val (.int i1), s2, s3, s4, s5, s6, s7, s8, s9, s10, s11, s12, s13, s14, s15, s16, s17, s18, s19, s20, s21, s22, s23] [(.int (31 : Int32)), (.int i1)])) _
  refine XS.iand X0.here hx rfl (hb hby at_283) rfl ?_
  show Steps p.tables e below (T0.setTop (mkF m 284 #[s0, .val (.int i1), s2, s3, s4, s5, s6, s7, s8, s9, s10, s11, s12, s13, s14, s15, s16, s17, s18, s19, s20, s21, s22, s23] [(.int (i1 &&& (31 : Int32)))])) _
  refine XS.istore X0.here hx rfl (hb hby at_284) rfl (l' := #[s0, .val (.int i1), s2, s3, s4, s5, s6, s7, s8, s9, .val (.int (i1 &&& (31 : Int32))), s11, s12, s13, s14, s15, s16, s17, s18, s19, s20, s21, s22, s23]) (os0_284_C1 hs10) ?_
  show Steps p.tables e below (T0.setTop (mkF m 286 #[s0, .val (.int i1), s2, s3, s4, s5, s6, s7, s8, s9, .val (.int (i1 &&& (31 : Int32))), s11, s12, s13, s14, s15, s16, s17, s18, s19, s20, s21, s22, s23] [])) _
  refine XS.iload X0.here hx rfl (hb hby at_286) rfl ?_
  show Steps p.tables e below (T0.setTop (mkF m 288 #[s0, .val (.int i1), s2, s3, s4, s5, s6, s7, s8, s9, .val (.int (i1 &&& (31 : Int32))), s11, s12, s13, s14, s15, s16, s17, s18, s19, s20, s21, s22, s23] [(.int (i1 &&& (31 : Int32)))])) _
  refine XS.iconst X0.here hx rfl (hb hby at_288) ?_
  show Steps p.tables e below (T0.setTop (mkF m 289 #[s0, .val (.int i1), s2, s3, s4, s5, s6, s7, s8, s9, .val (.int (i1 &&& (31 : Int32))), s11, s12, s13, s14, s15, s16, s17, s18, s19, s20, s21, s22, s23] [(.int (1 : Int32)), (.int (i1 &&& (31 : Int32)))])) _
  refine XS.icmpNo X0.here hx rfl (hb hby at_289) rfl (flt hc289).1 ?_
  show Steps p.tables e below (T0.setTop (mkF m 292 #[s0, .val (.int i1), s2, s3, s4, s5, s6, s7, s8, s9, .val (.int (i1 &&& (31 : Int32))), s11, s12, s13, s14, s15, s16, s17, s18, s19, s20, s21, s22, s23] [])) _
  refine XS.iload X0.here hx rfl (hb hby at_292) rfl ?_
  show Steps p.tables e below (T0.setTop (mkF m 294 #[s0, .val (.int i1), s2, s3, s4, s5, s6, s7, s8, s9, .val (.int (i1 &&& (31 : Int32))), s11, s12, s13, s14, s15, s16, s17, s18, s19, s20, s21, s22, s23] [(.int (i1 &&& (31 : Int32)))])) _
  refine XS.bipush X0.here hx rfl (hb hby at_294) ?_
  show Steps p.tables e below (T0.setTop (mkF m 296 #[s0, .val (.int i1), s2, s3, s4, s5, s6, s7, s8, s9, .val (.int (i1 &&& (31 : Int32))), s11, s12, s13, s14, s15, s16, s17, s18, s19, s20, s21, s22, s23] [(.int (21 : Int32)), (.int (i1 &&& (31 : Int32)))])) _
  refine XS.icmpYes X0.here hx rfl (pc0 := 296) (pc' := 303) rfl (hb hby at_296) rfl (tlt hc296).2.2.1 (by decide) (by decide) ?_
  show Steps p.tables e below (T0.setTop (mkF m 303 #[s0, .val (.int i1), s2, s3, s4, s5, s6, s7, s8, s9, .val (.int (i1 &&& (31 : Int32))), s11, s12, s13, s14, s15, s16, s17, s18, s19, s20, s21, s22, s23] [])) _
  refine XS.iconst X0.here hx rfl (hb hby at_303) ?_
  show Steps p.tables e below (T0.setTop (mkF m 304 #[s0, .val (.int i1), s2, s3, s4, s5, s6, s7, s8, s9, .val (.int (i1 &&& (31 : Int32))), s11, s12, s13, s14, s15, s16, s17, s18, s19, s20, s21, s22, s23] [(.int (0 : Int32))])) _
  refine XS.istore X0.here hx rfl (hb hby at_304) rfl (l' := #[s0, .val (.int i1), s2, s3, s4, s5, s6, s7, s8, s9, .val (.int (i1 &&& (31 : Int32))), .val (.int (0 : Int32)), s12, s13, s14, s15, s16, s17, s18, s19, s20, s21, s22, s23]) (os0_304_C1 hs11) ?_
  show Steps p.tables e below (T0.setTop (mkF m 306 #[s0, .val (.int i1), s2, s3, s4, s5, s6, s7, s8, s9, .val (.int (i1 &&& (31 : Int32))), .val (.int (0 : Int32)), s12, s13, s14, s15, s16, s17, s18, s19, s20, s21, s22, s23] [])) _
  refine XS.iload X0.here hx rfl (hb hby at_306) rfl ?_
  show Steps p.tables e below (T0.setTop (mkF m 308 #[s0, .val (.int i1), s2, s3, s4, s5, s6, s7, s8, s9, .val (.int (i1 &&& (31 : Int32))), .val (.int (0 : Int32)), s12, s13, s14, s15, s16, s17, s18, s19, s20, s21, s22, s23] [(.int (0 : Int32))])) _
  refine XS.ifYes X0.here hx rfl (pc0 := 308) (pc' := 318) rfl (hb hby at_308) rfl ((if0 _ _).trans (teq (rfl : (0 : Int32) = (0 : Int32))).1) (by decide) (by decide) ?_
  exact kt
theorem os0_337_E0_ {s0 : Slot} {s1 : Slot} {s2 : Slot} {s3 : Slot} {z4 : Value} {z5 : Value} {s6 : Slot} {s7 : Slot} {s8 : Slot} {z9 : Value} {s10 : Slot} {s11 : Slot} {s12 : Slot} {s13 : Slot} {s14 : Slot} {s15 : Slot} {s16 : Slot} {s17 : Slot} {s18 : Slot} {s19 : Slot} {s20 : Slot} {s21 : Slot} {s22 : Slot} {s23 : Slot} {v : Int32} (h : One s13) : storeLocals #[s0, s1, s2, s3, .val z4, .val z5, s6, s7, s8, .val z9, s10, s11, s12, s13, s14, s15, s16, s17, s18, s19, s20, s21, s22, s23] 13 (.int v) = some #[s0, s1, s2, s3, .val z4, .val z5, s6, s7, s8, .val z9, s10, s11, s12, .val (.int v), s14, s15, s16, s17, s18, s19, s20, s21, s22, s23] := by
  rcases h with rfl | ⟨w, rfl, hw⟩
  · rfl
  · cases w <;> first | rfl | (simp [Value.category] at hw)
theorem os0_349_E0_ {s0 : Slot} {s1 : Slot} {s2 : Slot} {s3 : Slot} {z4 : Value} {z5 : Value} {s6 : Slot} {s7 : Slot} {s8 : Slot} {z9 : Value} {s10 : Slot} {s11 : Slot} {s12 : Slot} {z13 : Value} {s14 : Slot} {s15 : Slot} {s16 : Slot} {s17 : Slot} {s18 : Slot} {s19 : Slot} {s20 : Slot} {s21 : Slot} {s22 : Slot} {s23 : Slot} {v : Int32} (h : One s14) : storeLocals #[s0, s1, s2, s3, .val z4, .val z5, s6, s7, s8, .val z9, s10, s11, s12, .val z13, s14, s15, s16, s17, s18, s19, s20, s21, s22, s23] 14 (.int v) = some #[s0, s1, s2, s3, .val z4, .val z5, s6, s7, s8, .val z9, s10, s11, s12, .val z13, .val (.int v), s15, s16, s17, s18, s19, s20, s21, s22, s23] := by
  rcases h with rfl | ⟨w, rfl, hw⟩
  · rfl
  · cases w <;> first | rfl | (simp [Value.category] at hw)
theorem os0_356_E0_ {s0 : Slot} {s1 : Slot} {s2 : Slot} {s3 : Slot} {z4 : Value} {z5 : Value} {s6 : Slot} {s7 : Slot} {s8 : Slot} {z9 : Value} {s10 : Slot} {s11 : Slot} {s12 : Slot} {z13 : Value} {z14 : Value} {s15 : Slot} {s16 : Slot} {s17 : Slot} {s18 : Slot} {s19 : Slot} {s20 : Slot} {s21 : Slot} {s22 : Slot} {s23 : Slot} {v : Int32} (h : One s15) : storeLocals #[s0, s1, s2, s3, .val z4, .val z5, s6, s7, s8, .val z9, s10, s11, s12, .val z13, .val z14, s15, s16, s17, s18, s19, s20, s21, s22, s23] 15 (.int v) = some #[s0, s1, s2, s3, .val z4, .val z5, s6, s7, s8, .val z9, s10, s11, s12, .val z13, .val z14, .val (.int v), s16, s17, s18, s19, s20, s21, s22, s23] := by
  rcases h with rfl | ⟨w, rfl, hw⟩
  · rfl
  · cases w <;> first | rfl | (simp [Value.category] at hw)
set_option maxRecDepth 65536 in
set_option maxHeartbeats 40000000 in
theorem E0_ {p : Program} {l : Launch} {e : Env} {s : State} {m : MethodId} {args : Array Value} {below : List Frame} {meth : Method} {c : Code} {T0 : State} {locs : List Loc} {cells slots : Nat} {Z : State} {a0 : Array Value} {h0 : Heap} (s0 : Slot) (s1 : Slot) (s2 : Slot) (s3 : Slot) (i4 : Int32) (i5 : Int32) (s6 : Slot) (s7 : Slot) (s8 : Slot) (i9 : Int32) (s10 : Slot) (s11 : Slot) (s12 : Slot) (s13 : Slot) (s14 : Slot) (s15 : Slot) (s16 : Slot) (s17 : Slot) (s18 : Slot) (s19 : Slot) (s20 : Slot) (s21 : Slot) (s22 : Slot) (s23 : Slot)
    (X0 : Stand p l e room_1 s m args below meth c T0 locs cells slots) (hx : p.tables.exec = Jvm.exec) (hZ : Z.Warmed39 s.vm) (hw : ∀ d ∈ tables_1, d.before a0 Z = true) (hby : c.code = code) (hml : c.maxLocals = 24) (hown : s.vm.findClass "com/example/bandmark/bandmark/PlainDecimalIsCompactPinLaw" = some m.cls) (e0 : T0.heap = h0) (hs13 : One s13) (hs14 : One s14) (hs15 : One s15) (hnz336 : ¬ ((23 : Int32) = (0 : Int32))) (hnz348 : ¬ (((HMod.hMod (i4 &&& (2147483647 : Int32)) (23 : Int32)) + (1 : Int32)) = (0 : Int32))) (hc360 : i9 = (0 : Int32)) :
    ∃ (T' : State), Stand p l e room_1 s m args below meth c T' locs cells slots ∧ T'.heap = h0 ∧
      ∀ target, Steps p.tables e below (T'.setTop (mkF m 379 #[s0, s1, s2, s3, .val (.int i4), .val (.int i5), s6, s7, s8, .val (.int i9), s10, s11, s12, .val (.int (HMod.hMod (i4 &&& (2147483647 : Int32)) (23 : Int32))), .val (.int (HMod.hMod (i5 &&& (2147483647 : Int32)) ((HMod.hMod (i4 &&& (2147483647 : Int32)) (23 : Int32)) + (1 : Int32)))), .val (.int ((HMod.hMod (i4 &&& (2147483647 : Int32)) (23 : Int32)) - (HMod.hMod (i5 &&& (2147483647 : Int32)) ((HMod.hMod (i4 &&& (2147483647 : Int32)) (23 : Int32)) + (1 : Int32))))), s16, s17, s18, s19, s20, s21, s22, s23] [])) target → Steps p.tables e below (T0.setTop (mkF m 329 #[s0, s1, s2, s3, .val (.int i4), .val (.int i5), s6, s7, s8, .val (.int i9), s10, s11, s12, s13, s14, s15, s16, s17, s18, s19, s20, s21, s22, s23] [])) target := by
  refine ⟨T0, X0, e0, fun target kt => ?_⟩
  show Steps p.tables e below (T0.setTop (mkF m 329 #[s0, s1, s2, s3, .val (.int i4), .val (.int i5), s6, s7, s8, .val (.int i9), s10, s11, s12, s13, s14, s15, s16, s17, s18, s19, s20, s21, s22, s23] [])) _
  refine XS.iload X0.here hx rfl (hb hby at_329) rfl ?_
  show Steps p.tables e below (T0.setTop (mkF m 331 #[s0, s1, s2, s3, .val (.int i4), .val (.int i5), s6, s7, s8, .val (.int i9), s10, s11, s12, s13, s14, s15, s16, s17, s18, s19, s20, s21, s22, s23] [(.int i4)])) _
  refine X0.ldcInt hx hown (mvT hZ (hw _ (List.mem_of_getElem? (i := 36) rfl))) (g := (mkF m 331 #[s0, s1, s2, s3, .val (.int i4), .val (.int i5), s6, s7, s8, .val (.int i9), s10, s11, s12, s13, s14, s15, s16, s17, s18, s19, s20, s21, s22, s23] [(.int i4)])) rfl (hb hby at_331) _ ?_
  show Steps p.tables e below (T0.setTop (mkF m 333 #[s0, s1, s2, s3, .val (.int i4), .val (.int i5), s6, s7, s8, .val (.int i9), s10, s11, s12, s13, s14, s15, s16, s17, s18, s19, s20, s21, s22, s23] [(.int (2147483647 : Int32)), (.int i4)])) _
  refine XS.iand X0.here hx rfl (hb hby at_333) rfl ?_
  show Steps p.tables e below (T0.setTop (mkF m 334 #[s0, s1, s2, s3, .val (.int i4), .val (.int i5), s6, s7, s8, .val (.int i9), s10, s11, s12, s13, s14, s15, s16, s17, s18, s19, s20, s21, s22, s23] [(.int (i4 &&& (2147483647 : Int32)))])) _
  refine XS.bipush X0.here hx rfl (hb hby at_334) ?_
  show Steps p.tables e below (T0.setTop (mkF m 336 #[s0, s1, s2, s3, .val (.int i4), .val (.int i5), s6, s7, s8, .val (.int i9), s10, s11, s12, s13, s14, s15, s16, s17, s18, s19, s20, s21, s22, s23] [(.int (23 : Int32)), (.int (i4 &&& (2147483647 : Int32)))])) _
  refine Jvm.RoadKit.iremM X0 hx rfl (hb hby at_336) rfl hnz336 ?_
  show Steps p.tables e below (T0.setTop (mkF m 337 #[s0, s1, s2, s3, .val (.int i4), .val (.int i5), s6, s7, s8, .val (.int i9), s10, s11, s12, s13, s14, s15, s16, s17, s18, s19, s20, s21, s22, s23] [(.int (HMod.hMod (i4 &&& (2147483647 : Int32)) (23 : Int32)))])) _
  refine XS.istore X0.here hx rfl (hb hby at_337) rfl (l' := #[s0, s1, s2, s3, .val (.int i4), .val (.int i5), s6, s7, s8, .val (.int i9), s10, s11, s12, .val (.int (HMod.hMod (i4 &&& (2147483647 : Int32)) (23 : Int32))), s14, s15, s16, s17, s18, s19, s20, s21, s22, s23]) (os0_337_E0_ hs13) ?_
  show Steps p.tables e below (T0.setTop (mkF m 339 #[s0, s1, s2, s3, .val (.int i4), .val (.int i5), s6, s7, s8, .val (.int i9), s10, s11, s12, .val (.int (HMod.hMod (i4 &&& (2147483647 : Int32)) (23 : Int32))), s14, s15, s16, s17, s18, s19, s20, s21, s22, s23] [])) _
  refine XS.iload X0.here hx rfl (hb hby at_339) rfl ?_
  show Steps p.tables e below (T0.setTop (mkF m 341 #[s0, s1, s2, s3, .val (.int i4), .val (.int i5), s6, s7, s8, .val (.int i9), s10, s11, s12, .val (.int (HMod.hMod (i4 &&& (2147483647 : Int32)) (23 : Int32))), s14, s15, s16, s17, s18, s19, s20, s21, s22, s23] [(.int i5)])) _
  refine X0.ldcInt hx hown (mvT hZ (hw _ (List.mem_of_getElem? (i := 36) rfl))) (g := (mkF m 341 #[s0, s1, s2, s3, .val (.int i4), .val (.int i5), s6, s7, s8, .val (.int i9), s10, s11, s12, .val (.int (HMod.hMod (i4 &&& (2147483647 : Int32)) (23 : Int32))), s14, s15, s16, s17, s18, s19, s20, s21, s22, s23] [(.int i5)])) rfl (hb hby at_341) _ ?_
  show Steps p.tables e below (T0.setTop (mkF m 343 #[s0, s1, s2, s3, .val (.int i4), .val (.int i5), s6, s7, s8, .val (.int i9), s10, s11, s12, .val (.int (HMod.hMod (i4 &&& (2147483647 : Int32)) (23 : Int32))), s14, s15, s16, s17, s18, s19, s20, s21, s22, s23] [(.int (2147483647 : Int32)), (.int i5)])) _
  refine XS.iand X0.here hx rfl (hb hby at_343) rfl ?_
  show Steps p.tables e below (T0.setTop (mkF m 344 #[s0, s1, s2, s3, .val (.int i4), .val (.int i5), s6, s7, s8, .val (.int i9), s10, s11, s12, .val (.int (HMod.hMod (i4 &&& (2147483647 : Int32)) (23 : Int32))), s14, s15, s16, s17, s18, s19, s20, s21, s22, s23] [(.int (i5 &&& (2147483647 : Int32)))])) _
  refine XS.iload X0.here hx rfl (hb hby at_344) rfl ?_
  show Steps p.tables e below (T0.setTop (mkF m 346 #[s0, s1, s2, s3, .val (.int i4), .val (.int i5), s6, s7, s8, .val (.int i9), s10, s11, s12, .val (.int (HMod.hMod (i4 &&& (2147483647 : Int32)) (23 : Int32))), s14, s15, s16, s17, s18, s19, s20, s21, s22, s23] [(.int (HMod.hMod (i4 &&& (2147483647 : Int32)) (23 : Int32))), (.int (i5 &&& (2147483647 : Int32)))])) _
  refine XS.iconst X0.here hx rfl (hb hby at_346) ?_
  show Steps p.tables e below (T0.setTop (mkF m 347 #[s0, s1, s2, s3, .val (.int i4), .val (.int i5), s6, s7, s8, .val (.int i9), s10, s11, s12, .val (.int (HMod.hMod (i4 &&& (2147483647 : Int32)) (23 : Int32))), s14, s15, s16, s17, s18, s19, s20, s21, s22, s23] [(.int (1 : Int32)), (.int (HMod.hMod (i4 &&& (2147483647 : Int32)) (23 : Int32))), (.int (i5 &&& (2147483647 : Int32)))])) _
  refine XS.iadd X0.here hx rfl (hb hby at_347) rfl ?_
  show Steps p.tables e below (T0.setTop (mkF m 348 #[s0, s1, s2, s3, .val (.int i4), .val (.int i5), s6, s7, s8, .val (.int i9), s10, s11, s12, .val (.int (HMod.hMod (i4 &&& (2147483647 : Int32)) (23 : Int32))), s14, s15, s16, s17, s18, s19, s20, s21, s22, s23] [(.int ((HMod.hMod (i4 &&& (2147483647 : Int32)) (23 : Int32)) + (1 : Int32))), (.int (i5 &&& (2147483647 : Int32)))])) _
  refine Jvm.RoadKit.iremM X0 hx rfl (hb hby at_348) rfl hnz348 ?_
  show Steps p.tables e below (T0.setTop (mkF m 349 #[s0, s1, s2, s3, .val (.int i4), .val (.int i5), s6, s7, s8, .val (.int i9), s10, s11, s12, .val (.int (HMod.hMod (i4 &&& (2147483647 : Int32)) (23 : Int32))), s14, s15, s16, s17, s18, s19, s20, s21, s22, s23] [(.int (HMod.hMod (i5 &&& (2147483647 : Int32)) ((HMod.hMod (i4 &&& (2147483647 : Int32)) (23 : Int32)) + (1 : Int32))))])) _
  refine XS.istore X0.here hx rfl (hb hby at_349) rfl (l' := #[s0, s1, s2, s3, .val (.int i4), .val (.int i5), s6, s7, s8, .val (.int i9), s10, s11, s12, .val (.int (HMod.hMod (i4 &&& (2147483647 : Int32)) (23 : Int32))), .val (.int (HMod.hMod (i5 &&& (2147483647 : Int32)) ((HMod.hMod (i4 &&& (2147483647 : Int32)) (23 : Int32)) + (1 : Int32)))), s15, s16, s17, s18, s19, s20, s21, s22, s23]) (os0_349_E0_ hs14) ?_
  show Steps p.tables e below (T0.setTop (mkF m 351 #[s0, s1, s2, s3, .val (.int i4), .val (.int i5), s6, s7, s8, .val (.int i9), s10, s11, s12, .val (.int (HMod.hMod (i4 &&& (2147483647 : Int32)) (23 : Int32))), .val (.int (HMod.hMod (i5 &&& (2147483647 : Int32)) ((HMod.hMod (i4 &&& (2147483647 : Int32)) (23 : Int32)) + (1 : Int32)))), s15, s16, s17, s18, s19, s20, s21, s22, s23] [])) _
  refine XS.iload X0.here hx rfl (hb hby at_351) rfl ?_
  show Steps p.tables e below (T0.setTop (mkF m 353 #[s0, s1, s2, s3, .val (.int i4), .val (.int i5), s6, s7, s8, .val (.int i9), s10, s11, s12, .val (.int (HMod.hMod (i4 &&& (2147483647 : Int32)) (23 : Int32))), .val (.int (HMod.hMod (i5 &&& (2147483647 : Int32)) ((HMod.hMod (i4 &&& (2147483647 : Int32)) (23 : Int32)) + (1 : Int32)))), s15, s16, s17, s18, s19, s20, s21, s22, s23] [(.int (HMod.hMod (i4 &&& (2147483647 : Int32)) (23 : Int32)))])) _
  refine XS.iload X0.here hx rfl (hb hby at_353) rfl ?_
  show Steps p.tables e below (T0.setTop (mkF m 355 #[s0, s1, s2, s3, .val (.int i4), .val (.int i5), s6, s7, s8, .val (.int i9), s10, s11, s12, .val (.int (HMod.hMod (i4 &&& (2147483647 : Int32)) (23 : Int32))), .val (.int (HMod.hMod (i5 &&& (2147483647 : Int32)) ((HMod.hMod (i4 &&& (2147483647 : Int32)) (23 : Int32)) + (1 : Int32)))), s15, s16, s17, s18, s19, s20, s21, s22, s23] [(.int (HMod.hMod (i5 &&& (2147483647 : Int32)) ((HMod.hMod (i4 &&& (2147483647 : Int32)) (23 : Int32)) + (1 : Int32)))), (.int (HMod.hMod (i4 &&& (2147483647 : Int32)) (23 : Int32)))])) _
  refine XS.isub X0.here hx rfl (hb hby at_355) rfl ?_
  show Steps p.tables e below (T0.setTop (mkF m 356 #[s0, s1, s2, s3, .val (.int i4), .val (.int i5), s6, s7, s8, .val (.int i9), s10, s11, s12, .val (.int (HMod.hMod (i4 &&& (2147483647 : Int32)) (23 : Int32))), .val (.int (HMod.hMod (i5 &&& (2147483647 : Int32)) ((HMod.hMod (i4 &&& (2147483647 : Int32)) (23 : Int32)) + (1 : Int32)))), s15, s16, s17, s18, s19, s20, s21, s22, s23] [(.int ((HMod.hMod (i4 &&& (2147483647 : Int32)) (23 : Int32)) - (HMod.hMod (i5 &&& (2147483647 : Int32)) ((HMod.hMod (i4 &&& (2147483647 : Int32)) (23 : Int32)) + (1 : Int32)))))])) _
  refine XS.istore X0.here hx rfl (hb hby at_356) rfl (l' := #[s0, s1, s2, s3, .val (.int i4), .val (.int i5), s6, s7, s8, .val (.int i9), s10, s11, s12, .val (.int (HMod.hMod (i4 &&& (2147483647 : Int32)) (23 : Int32))), .val (.int (HMod.hMod (i5 &&& (2147483647 : Int32)) ((HMod.hMod (i4 &&& (2147483647 : Int32)) (23 : Int32)) + (1 : Int32)))), .val (.int ((HMod.hMod (i4 &&& (2147483647 : Int32)) (23 : Int32)) - (HMod.hMod (i5 &&& (2147483647 : Int32)) ((HMod.hMod (i4 &&& (2147483647 : Int32)) (23 : Int32)) + (1 : Int32))))), s16, s17, s18, s19, s20, s21, s22, s23]) (os0_356_E0_ hs15) ?_
  show Steps p.tables e below (T0.setTop (mkF m 358 #[s0, s1, s2, s3, .val (.int i4), .val (.int i5), s6, s7, s8, .val (.int i9), s10, s11, s12, .val (.int (HMod.hMod (i4 &&& (2147483647 : Int32)) (23 : Int32))), .val (.int (HMod.hMod (i5 &&& (2147483647 : Int32)) ((HMod.hMod (i4 &&& (2147483647 : Int32)) (23 : Int32)) + (1 : Int32)))), .val (.int ((HMod.hMod (i4 &&& (2147483647 : Int32)) (23 : Int32)) - (HMod.hMod (i5 &&& (2147483647 : Int32)) ((HMod.hMod (i4 &&& (2147483647 : Int32)) (23 : Int32)) + (1 : Int32))))), s16, s17, s18, s19, s20, s21, s22, s23] [])) _
  refine XS.iload X0.here hx rfl (hb hby at_358) rfl ?_
  show Steps p.tables e below (T0.setTop (mkF m 360 #[s0, s1, s2, s3, .val (.int i4), .val (.int i5), s6, s7, s8, .val (.int i9), s10, s11, s12, .val (.int (HMod.hMod (i4 &&& (2147483647 : Int32)) (23 : Int32))), .val (.int (HMod.hMod (i5 &&& (2147483647 : Int32)) ((HMod.hMod (i4 &&& (2147483647 : Int32)) (23 : Int32)) + (1 : Int32)))), .val (.int ((HMod.hMod (i4 &&& (2147483647 : Int32)) (23 : Int32)) - (HMod.hMod (i5 &&& (2147483647 : Int32)) ((HMod.hMod (i4 &&& (2147483647 : Int32)) (23 : Int32)) + (1 : Int32))))), s16, s17, s18, s19, s20, s21, s22, s23] [(.int i9)])) _
  refine XS.ifYes X0.here hx rfl (pc0 := 360) (pc' := 379) rfl (hb hby at_360) rfl ((if0 _ _).trans (teq hc360).1) (by decide) (by decide) ?_
  exact kt
set_option maxRecDepth 65536 in
set_option maxHeartbeats 40000000 in
theorem F0_ {p : Program} {l : Launch} {e : Env} {s : State} {m : MethodId} {args : Array Value} {below : List Frame} {meth : Method} {c : Code} {T0 : State} {locs : List Loc} {cells slots : Nat} {Z : State} {a0 : Array Value} {h0 : Heap} (s0 : Slot) (s1 : Slot) (s2 : Slot) (s3 : Slot) (s4 : Slot) (s5 : Slot) (s6 : Slot) (s7 : Slot) (s8 : Slot) (s9 : Slot) (s10 : Slot) (i11 : Int32) (s12 : Slot) (s13 : Slot) (s14 : Slot) (s15 : Slot) (s16 : Slot) (s17 : Slot) (s18 : Slot) (s19 : Slot) (s20 : Slot) (s21 : Slot) (s22 : Slot) (s23 : Slot)
    (X0 : Stand p l e room_1 s m args below meth c T0 locs cells slots) (hx : p.tables.exec = Jvm.exec) (hZ : Z.Warmed39 s.vm) (hw : ∀ d ∈ tables_1, d.before a0 Z = true) (hby : c.code = code) (hml : c.maxLocals = 24) (hown : s.vm.findClass "com/example/bandmark/bandmark/PlainDecimalIsCompactPinLaw" = some m.cls) (e0 : T0.heap = h0) (hc381 : i11 = (0 : Int32)) :
    ∃ (T' : State), Stand p l e room_1 s m args below meth c T' locs cells slots ∧ T'.heap = h0 ∧
      ∀ target, Steps p.tables e below (T'.setTop (mkF m 404 #[s0, s1, s2, s3, s4, s5, s6, s7, s8, s9, s10, .val (.int i11), s12, s13, s14, s15, s16, s17, s18, s19, s20, s21, s22, s23] [])) target → Steps p.tables e below (T0.setTop (mkF m 379 #[s0, s1, s2, s3, s4, s5, s6, s7, s8, s9, s10, .val (.int i11), s12, s13, s14, s15, s16, s17, s18, s19, s20, s21, s22, s23] [])) target := by
  refine ⟨T0, X0, e0, fun target kt => ?_⟩
  show Steps p.tables e below (T0.setTop (mkF m 379 #[s0, s1, s2, s3, s4, s5, s6, s7, s8, s9, s10, .val (.int i11), s12, s13, s14, s15, s16, s17, s18, s19, s20, s21, s22, s23] [])) _
  refine XS.iload X0.here hx rfl (hb hby at_379) rfl ?_
  show Steps p.tables e below (T0.setTop (mkF m 381 #[s0, s1, s2, s3, s4, s5, s6, s7, s8, s9, s10, .val (.int i11), s12, s13, s14, s15, s16, s17, s18, s19, s20, s21, s22, s23] [(.int i11)])) _
  refine XS.ifYes X0.here hx rfl (pc0 := 381) (pc' := 404) rfl (hb hby at_381) rfl ((if0 _ _).trans (teq hc381).1) (by decide) (by decide) ?_
  exact kt
theorem os0_337_E1_ {s0 : Slot} {s1 : Slot} {s2 : Slot} {s3 : Slot} {z4 : Value} {z5 : Value} {s6 : Slot} {s7 : Slot} {s8 : Slot} {z9 : Value} {s10 : Slot} {s11 : Slot} {s12 : Slot} {s13 : Slot} {s14 : Slot} {s15 : Slot} {s16 : Slot} {s17 : Slot} {s18 : Slot} {s19 : Slot} {s20 : Slot} {s21 : Slot} {s22 : Slot} {s23 : Slot} {v : Int32} (h : One s13) : storeLocals #[s0, s1, s2, s3, .val z4, .val z5, s6, s7, s8, .val z9, s10, s11, s12, s13, s14, s15, s16, s17, s18, s19, s20, s21, s22, s23] 13 (.int v) = some #[s0, s1, s2, s3, .val z4, .val z5, s6, s7, s8, .val z9, s10, s11, s12, .val (.int v), s14, s15, s16, s17, s18, s19, s20, s21, s22, s23] := by
  rcases h with rfl | ⟨w, rfl, hw⟩
  · rfl
  · cases w <;> first | rfl | (simp [Value.category] at hw)
theorem os0_349_E1_ {s0 : Slot} {s1 : Slot} {s2 : Slot} {s3 : Slot} {z4 : Value} {z5 : Value} {s6 : Slot} {s7 : Slot} {s8 : Slot} {z9 : Value} {s10 : Slot} {s11 : Slot} {s12 : Slot} {z13 : Value} {s14 : Slot} {s15 : Slot} {s16 : Slot} {s17 : Slot} {s18 : Slot} {s19 : Slot} {s20 : Slot} {s21 : Slot} {s22 : Slot} {s23 : Slot} {v : Int32} (h : One s14) : storeLocals #[s0, s1, s2, s3, .val z4, .val z5, s6, s7, s8, .val z9, s10, s11, s12, .val z13, s14, s15, s16, s17, s18, s19, s20, s21, s22, s23] 14 (.int v) = some #[s0, s1, s2, s3, .val z4, .val z5, s6, s7, s8, .val z9, s10, s11, s12, .val z13, .val (.int v), s15, s16, s17, s18, s19, s20, s21, s22, s23] := by
  rcases h with rfl | ⟨w, rfl, hw⟩
  · rfl
  · cases w <;> first | rfl | (simp [Value.category] at hw)
theorem os0_356_E1_ {s0 : Slot} {s1 : Slot} {s2 : Slot} {s3 : Slot} {z4 : Value} {z5 : Value} {s6 : Slot} {s7 : Slot} {s8 : Slot} {z9 : Value} {s10 : Slot} {s11 : Slot} {s12 : Slot} {z13 : Value} {z14 : Value} {s15 : Slot} {s16 : Slot} {s17 : Slot} {s18 : Slot} {s19 : Slot} {s20 : Slot} {s21 : Slot} {s22 : Slot} {s23 : Slot} {v : Int32} (h : One s15) : storeLocals #[s0, s1, s2, s3, .val z4, .val z5, s6, s7, s8, .val z9, s10, s11, s12, .val z13, .val z14, s15, s16, s17, s18, s19, s20, s21, s22, s23] 15 (.int v) = some #[s0, s1, s2, s3, .val z4, .val z5, s6, s7, s8, .val z9, s10, s11, s12, .val z13, .val z14, .val (.int v), s16, s17, s18, s19, s20, s21, s22, s23] := by
  rcases h with rfl | ⟨w, rfl, hw⟩
  · rfl
  · cases w <;> first | rfl | (simp [Value.category] at hw)
set_option maxRecDepth 65536 in
set_option maxHeartbeats 40000000 in
theorem E1_ {p : Program} {l : Launch} {e : Env} {s : State} {m : MethodId} {args : Array Value} {below : List Frame} {meth : Method} {c : Code} {T0 : State} {locs : List Loc} {cells slots : Nat} {Z : State} {a0 : Array Value} {h0 : Heap} (s0 : Slot) (s1 : Slot) (s2 : Slot) (s3 : Slot) (i4 : Int32) (i5 : Int32) (s6 : Slot) (s7 : Slot) (s8 : Slot) (i9 : Int32) (s10 : Slot) (s11 : Slot) (s12 : Slot) (s13 : Slot) (s14 : Slot) (s15 : Slot) (s16 : Slot) (s17 : Slot) (s18 : Slot) (s19 : Slot) (s20 : Slot) (s21 : Slot) (s22 : Slot) (s23 : Slot)
    (X0 : Stand p l e room_1 s m args below meth c T0 locs cells slots) (hx : p.tables.exec = Jvm.exec) (hZ : Z.Warmed39 s.vm) (hw : ∀ d ∈ tables_1, d.before a0 Z = true) (hby : c.code = code) (hml : c.maxLocals = 24) (hown : s.vm.findClass "com/example/bandmark/bandmark/PlainDecimalIsCompactPinLaw" = some m.cls) (e0 : T0.heap = h0) (hs13 : One s13) (hs14 : One s14) (hs15 : One s15) (hnz336 : ¬ ((23 : Int32) = (0 : Int32))) (hnz348 : ¬ (((HMod.hMod (i4 &&& (2147483647 : Int32)) (23 : Int32)) + (1 : Int32)) = (0 : Int32))) (hc360 : ¬ (i9 = (0 : Int32))) (hc365 : ¬ ((HMod.hMod (i5 &&& (2147483647 : Int32)) ((HMod.hMod (i4 &&& (2147483647 : Int32)) (23 : Int32)) + (1 : Int32))) = (0 : Int32))) :
    ∃ (T' : State), Stand p l e room_1 s m args below meth c T' locs cells slots ∧ T'.heap = h0 ∧
      ∀ target, Steps p.tables e below (T'.setTop (mkF m 379 #[s0, s1, s2, s3, .val (.int i4), .val (.int i5), s6, s7, s8, .val (.int i9), s10, s11, s12, .val (.int (HMod.hMod (i4 &&& (2147483647 : Int32)) (23 : Int32))), .val (.int (HMod.hMod (i5 &&& (2147483647 : Int32)) ((HMod.hMod (i4 &&& (2147483647 : Int32)) (23 : Int32)) + (1 : Int32)))), .val (.int ((HMod.hMod (i4 &&& (2147483647 : Int32)) (23 : Int32)) - (HMod.hMod (i5 &&& (2147483647 : Int32)) ((HMod.hMod (i4 &&& (2147483647 : Int32)) (23 : Int32)) + (1 : Int32))))), s16, s17, s18, s19, s20, s21, s22, s23] [])) target → Steps p.tables e below (T0.setTop (mkF m 329 #[s0, s1, s2, s3, .val (.int i4), .val (.int i5), s6, s7, s8, .val (.int i9), s10, s11, s12, s13, s14, s15, s16, s17, s18, s19, s20, s21, s22, s23] [])) target := by
  refine ⟨T0, X0, e0, fun target kt => ?_⟩
  show Steps p.tables e below (T0.setTop (mkF m 329 #[s0, s1, s2, s3, .val (.int i4), .val (.int i5), s6, s7, s8, .val (.int i9), s10, s11, s12, s13, s14, s15, s16, s17, s18, s19, s20, s21, s22, s23] [])) _
  refine XS.iload X0.here hx rfl (hb hby at_329) rfl ?_
  show Steps p.tables e below (T0.setTop (mkF m 331 #[s0, s1, s2, s3, .val (.int i4), .val (.int i5), s6, s7, s8, .val (.int i9), s10, s11, s12, s13, s14, s15, s16, s17, s18, s19, s20, s21, s22, s23] [(.int i4)])) _
  refine X0.ldcInt hx hown (mvT hZ (hw _ (List.mem_of_getElem? (i := 36) rfl))) (g := (mkF m 331 #[s0, s1, s2, s3, .val (.int i4), .val (.int i5), s6, s7, s8, .val (.int i9), s10, s11, s12, s13, s14, s15, s16, s17, s18, s19, s20, s21, s22, s23] [(.int i4)])) rfl (hb hby at_331) _ ?_
  show Steps p.tables e below (T0.setTop (mkF m 333 #[s0, s1, s2, s3, .val (.int i4), .val (.int i5), s6, s7, s8, .val (.int i9), s10, s11, s12, s13, s14, s15, s16, s17, s18, s19, s20, s21, s22, s23] [(.int (2147483647 : Int32)), (.int i4)])) _
  refine XS.iand X0.here hx rfl (hb hby at_333) rfl ?_
  show Steps p.tables e below (T0.setTop (mkF m 334 #[s0, s1, s2, s3, .val (.int i4), .val (.int i5), s6, s7, s8, .val (.int i9), s10, s11, s12, s13, s14, s15, s16, s17, s18, s19, s20, s21, s22, s23] [(.int (i4 &&& (2147483647 : Int32)))])) _
  refine XS.bipush X0.here hx rfl (hb hby at_334) ?_
  show Steps p.tables e below (T0.setTop (mkF m 336 #[s0, s1, s2, s3, .val (.int i4), .val (.int i5), s6, s7, s8, .val (.int i9), s10, s11, s12, s13, s14, s15, s16, s17, s18, s19, s20, s21, s22, s23] [(.int (23 : Int32)), (.int (i4 &&& (2147483647 : Int32)))])) _
  refine Jvm.RoadKit.iremM X0 hx rfl (hb hby at_336) rfl hnz336 ?_
  show Steps p.tables e below (T0.setTop (mkF m 337 #[s0, s1, s2, s3, .val (.int i4), .val (.int i5), s6, s7, s8, .val (.int i9), s10, s11, s12, s13, s14, s15, s16, s17, s18, s19, s20, s21, s22, s23] [(.int (HMod.hMod (i4 &&& (2147483647 : Int32)) (23 : Int32)))])) _
  refine XS.istore X0.here hx rfl (hb hby at_337) rfl (l' := #[s0, s1, s2, s3, .val (.int i4), .val (.int i5), s6, s7, s8, .val (.int i9), s10, s11, s12, .val (.int (HMod.hMod (i4 &&& (2147483647 : Int32)) (23 : Int32))), s14, s15, s16, s17, s18, s19, s20, s21, s22, s23]) (os0_337_E1_ hs13) ?_
  show Steps p.tables e below (T0.setTop (mkF m 339 #[s0, s1, s2, s3, .val (.int i4), .val (.int i5), s6, s7, s8, .val (.int i9), s10, s11, s12, .val (.int (HMod.hMod (i4 &&& (2147483647 : Int32)) (23 : Int32))), s14, s15, s16, s17, s18, s19, s20, s21, s22, s23] [])) _
  refine XS.iload X0.here hx rfl (hb hby at_339) rfl ?_
  show Steps p.tables e below (T0.setTop (mkF m 341 #[s0, s1, s2, s3, .val (.int i4), .val (.int i5), s6, s7, s8, .val (.int i9), s10, s11, s12, .val (.int (HMod.hMod (i4 &&& (2147483647 : Int32)) (23 : Int32))), s14, s15, s16, s17, s18, s19, s20, s21, s22, s23] [(.int i5)])) _
  refine X0.ldcInt hx hown (mvT hZ (hw _ (List.mem_of_getElem? (i := 36) rfl))) (g := (mkF m 341 #[s0, s1, s2, s3, .val (.int i4), .val (.int i5), s6, s7, s8, .val (.int i9), s10, s11, s12, .val (.int (HMod.hMod (i4 &&& (2147483647 : Int32)) (23 : Int32))), s14, s15, s16, s17, s18, s19, s20, s21, s22, s23] [(.int i5)])) rfl (hb hby at_341) _ ?_
  show Steps p.tables e below (T0.setTop (mkF m 343 #[s0, s1, s2, s3, .val (.int i4), .val (.int i5), s6, s7, s8, .val (.int i9), s10, s11, s12, .val (.int (HMod.hMod (i4 &&& (2147483647 : Int32)) (23 : Int32))), s14, s15, s16, s17, s18, s19, s20, s21, s22, s23] [(.int (2147483647 : Int32)), (.int i5)])) _
  refine XS.iand X0.here hx rfl (hb hby at_343) rfl ?_
  show Steps p.tables e below (T0.setTop (mkF m 344 #[s0, s1, s2, s3, .val (.int i4), .val (.int i5), s6, s7, s8, .val (.int i9), s10, s11, s12, .val (.int (HMod.hMod (i4 &&& (2147483647 : Int32)) (23 : Int32))), s14, s15, s16, s17, s18, s19, s20, s21, s22, s23] [(.int (i5 &&& (2147483647 : Int32)))])) _
  refine XS.iload X0.here hx rfl (hb hby at_344) rfl ?_
  show Steps p.tables e below (T0.setTop (mkF m 346 #[s0, s1, s2, s3, .val (.int i4), .val (.int i5), s6, s7, s8, .val (.int i9), s10, s11, s12, .val (.int (HMod.hMod (i4 &&& (2147483647 : Int32)) (23 : Int32))), s14, s15, s16, s17, s18, s19, s20, s21, s22, s23] [(.int (HMod.hMod (i4 &&& (2147483647 : Int32)) (23 : Int32))), (.int (i5 &&& (2147483647 : Int32)))])) _
  refine XS.iconst X0.here hx rfl (hb hby at_346) ?_
  show Steps p.tables e below (T0.setTop (mkF m 347 #[s0, s1, s2, s3, .val (.int i4), .val (.int i5), s6, s7, s8, .val (.int i9), s10, s11, s12, .val (.int (HMod.hMod (i4 &&& (2147483647 : Int32)) (23 : Int32))), s14, s15, s16, s17, s18, s19, s20, s21, s22, s23] [(.int (1 : Int32)), (.int (HMod.hMod (i4 &&& (2147483647 : Int32)) (23 : Int32))), (.int (i5 &&& (2147483647 : Int32)))])) _
  refine XS.iadd X0.here hx rfl (hb hby at_347) rfl ?_
  show Steps p.tables e below (T0.setTop (mkF m 348 #[s0, s1, s2, s3, .val (.int i4), .val (.int i5), s6, s7, s8, .val (.int i9), s10, s11, s12, .val (.int (HMod.hMod (i4 &&& (2147483647 : Int32)) (23 : Int32))), s14, s15, s16, s17, s18, s19, s20, s21, s22, s23] [(.int ((HMod.hMod (i4 &&& (2147483647 : Int32)) (23 : Int32)) + (1 : Int32))), (.int (i5 &&& (2147483647 : Int32)))])) _
  refine Jvm.RoadKit.iremM X0 hx rfl (hb hby at_348) rfl hnz348 ?_
  show Steps p.tables e below (T0.setTop (mkF m 349 #[s0, s1, s2, s3, .val (.int i4), .val (.int i5), s6, s7, s8, .val (.int i9), s10, s11, s12, .val (.int (HMod.hMod (i4 &&& (2147483647 : Int32)) (23 : Int32))), s14, s15, s16, s17, s18, s19, s20, s21, s22, s23] [(.int (HMod.hMod (i5 &&& (2147483647 : Int32)) ((HMod.hMod (i4 &&& (2147483647 : Int32)) (23 : Int32)) + (1 : Int32))))])) _
  refine XS.istore X0.here hx rfl (hb hby at_349) rfl (l' := #[s0, s1, s2, s3, .val (.int i4), .val (.int i5), s6, s7, s8, .val (.int i9), s10, s11, s12, .val (.int (HMod.hMod (i4 &&& (2147483647 : Int32)) (23 : Int32))), .val (.int (HMod.hMod (i5 &&& (2147483647 : Int32)) ((HMod.hMod (i4 &&& (2147483647 : Int32)) (23 : Int32)) + (1 : Int32)))), s15, s16, s17, s18, s19, s20, s21, s22, s23]) (os0_349_E1_ hs14) ?_
  show Steps p.tables e below (T0.setTop (mkF m 351 #[s0, s1, s2, s3, .val (.int i4), .val (.int i5), s6, s7, s8, .val (.int i9), s10, s11, s12, .val (.int (HMod.hMod (i4 &&& (2147483647 : Int32)) (23 : Int32))), .val (.int (HMod.hMod (i5 &&& (2147483647 : Int32)) ((HMod.hMod (i4 &&& (2147483647 : Int32)) (23 : Int32)) + (1 : Int32)))), s15, s16, s17, s18, s19, s20, s21, s22, s23] [])) _
  refine XS.iload X0.here hx rfl (hb hby at_351) rfl ?_
  show Steps p.tables e below (T0.setTop (mkF m 353 #[s0, s1, s2, s3, .val (.int i4), .val (.int i5), s6, s7, s8, .val (.int i9), s10, s11, s12, .val (.int (HMod.hMod (i4 &&& (2147483647 : Int32)) (23 : Int32))), .val (.int (HMod.hMod (i5 &&& (2147483647 : Int32)) ((HMod.hMod (i4 &&& (2147483647 : Int32)) (23 : Int32)) + (1 : Int32)))), s15, s16, s17, s18, s19, s20, s21, s22, s23] [(.int (HMod.hMod (i4 &&& (2147483647 : Int32)) (23 : Int32)))])) _
  refine XS.iload X0.here hx rfl (hb hby at_353) rfl ?_
  show Steps p.tables e below (T0.setTop (mkF m 355 #[s0, s1, s2, s3, .val (.int i4), .val (.int i5), s6, s7, s8, .val (.int i9), s10, s11, s12, .val (.int (HMod.hMod (i4 &&& (2147483647 : Int32)) (23 : Int32))), .val (.int (HMod.hMod (i5 &&& (2147483647 : Int32)) ((HMod.hMod (i4 &&& (2147483647 : Int32)) (23 : Int32)) + (1 : Int32)))), s15, s16, s17, s18, s19, s20, s21, s22, s23] [(.int (HMod.hMod (i5 &&& (2147483647 : Int32)) ((HMod.hMod (i4 &&& (2147483647 : Int32)) (23 : Int32)) + (1 : Int32)))), (.int (HMod.hMod (i4 &&& (2147483647 : Int32)) (23 : Int32)))])) _
  refine XS.isub X0.here hx rfl (hb hby at_355) rfl ?_
  show Steps p.tables e below (T0.setTop (mkF m 356 #[s0, s1, s2, s3, .val (.int i4), .val (.int i5), s6, s7, s8, .val (.int i9), s10, s11, s12, .val (.int (HMod.hMod (i4 &&& (2147483647 : Int32)) (23 : Int32))), .val (.int (HMod.hMod (i5 &&& (2147483647 : Int32)) ((HMod.hMod (i4 &&& (2147483647 : Int32)) (23 : Int32)) + (1 : Int32)))), s15, s16, s17, s18, s19, s20, s21, s22, s23] [(.int ((HMod.hMod (i4 &&& (2147483647 : Int32)) (23 : Int32)) - (HMod.hMod (i5 &&& (2147483647 : Int32)) ((HMod.hMod (i4 &&& (2147483647 : Int32)) (23 : Int32)) + (1 : Int32)))))])) _
  refine XS.istore X0.here hx rfl (hb hby at_356) rfl (l' := #[s0, s1, s2, s3, .val (.int i4), .val (.int i5), s6, s7, s8, .val (.int i9), s10, s11, s12, .val (.int (HMod.hMod (i4 &&& (2147483647 : Int32)) (23 : Int32))), .val (.int (HMod.hMod (i5 &&& (2147483647 : Int32)) ((HMod.hMod (i4 &&& (2147483647 : Int32)) (23 : Int32)) + (1 : Int32)))), .val (.int ((HMod.hMod (i4 &&& (2147483647 : Int32)) (23 : Int32)) - (HMod.hMod (i5 &&& (2147483647 : Int32)) ((HMod.hMod (i4 &&& (2147483647 : Int32)) (23 : Int32)) + (1 : Int32))))), s16, s17, s18, s19, s20, s21, s22, s23]) (os0_356_E1_ hs15) ?_
  show Steps p.tables e below (T0.setTop (mkF m 358 #[s0, s1, s2, s3, .val (.int i4), .val (.int i5), s6, s7, s8, .val (.int i9), s10, s11, s12, .val (.int (HMod.hMod (i4 &&& (2147483647 : Int32)) (23 : Int32))), .val (.int (HMod.hMod (i5 &&& (2147483647 : Int32)) ((HMod.hMod (i4 &&& (2147483647 : Int32)) (23 : Int32)) + (1 : Int32)))), .val (.int ((HMod.hMod (i4 &&& (2147483647 : Int32)) (23 : Int32)) - (HMod.hMod (i5 &&& (2147483647 : Int32)) ((HMod.hMod (i4 &&& (2147483647 : Int32)) (23 : Int32)) + (1 : Int32))))), s16, s17, s18, s19, s20, s21, s22, s23] [])) _
  refine XS.iload X0.here hx rfl (hb hby at_358) rfl ?_
  show Steps p.tables e below (T0.setTop (mkF m 360 #[s0, s1, s2, s3, .val (.int i4), .val (.int i5), s6, s7, s8, .val (.int i9), s10, s11, s12, .val (.int (HMod.hMod (i4 &&& (2147483647 : Int32)) (23 : Int32))), .val (.int (HMod.hMod (i5 &&& (2147483647 : Int32)) ((HMod.hMod (i4 &&& (2147483647 : Int32)) (23 : Int32)) + (1 : Int32)))), .val (.int ((HMod.hMod (i4 &&& (2147483647 : Int32)) (23 : Int32)) - (HMod.hMod (i5 &&& (2147483647 : Int32)) ((HMod.hMod (i4 &&& (2147483647 : Int32)) (23 : Int32)) + (1 : Int32))))), s16, s17, s18, s19, s20, s21, s22, s23] [(.int i9)])) _
  refine XS.ifNo X0.here hx rfl (hb hby at_360) rfl ((if0 _ _).trans (feq hc360).1) ?_
  show Steps p.tables e below (T0.setTop (mkF m 363 #[s0, s1, s2, s3, .val (.int i4), .val (.int i5), s6, s7, s8, .val (.int i9), s10, s11, s12, .val (.int (HMod.hMod (i4 &&& (2147483647 : Int32)) (23 : Int32))), .val (.int (HMod.hMod (i5 &&& (2147483647 : Int32)) ((HMod.hMod (i4 &&& (2147483647 : Int32)) (23 : Int32)) + (1 : Int32)))), .val (.int ((HMod.hMod (i4 &&& (2147483647 : Int32)) (23 : Int32)) - (HMod.hMod (i5 &&& (2147483647 : Int32)) ((HMod.hMod (i4 &&& (2147483647 : Int32)) (23 : Int32)) + (1 : Int32))))), s16, s17, s18, s19, s20, s21, s22, s23] [])) _
  refine XS.iload X0.here hx rfl (hb hby at_363) rfl ?_
  show Steps p.tables e below (T0.setTop (mkF m 365 #[s0, s1, s2, s3, .val (.int i4), .val (.int i5), s6, s7, s8, .val (.int i9), s10, s11, s12, .val (.int (HMod.hMod (i4 &&& (2147483647 : Int32)) (23 : Int32))), .val (.int (HMod.hMod (i5 &&& (2147483647 : Int32)) ((HMod.hMod (i4 &&& (2147483647 : Int32)) (23 : Int32)) + (1 : Int32)))), .val (.int ((HMod.hMod (i4 &&& (2147483647 : Int32)) (23 : Int32)) - (HMod.hMod (i5 &&& (2147483647 : Int32)) ((HMod.hMod (i4 &&& (2147483647 : Int32)) (23 : Int32)) + (1 : Int32))))), s16, s17, s18, s19, s20, s21, s22, s23] [(.int (HMod.hMod (i5 &&& (2147483647 : Int32)) ((HMod.hMod (i4 &&& (2147483647 : Int32)) (23 : Int32)) + (1 : Int32))))])) _
  refine XS.ifYes X0.here hx rfl (pc0 := 365) (pc' := 379) rfl (hb hby at_365) rfl ((if0 _ _).trans (feq hc365).2) (by decide) (by decide) ?_
  exact kt
set_option maxRecDepth 65536 in
set_option maxHeartbeats 40000000 in
theorem F1_ {p : Program} {l : Launch} {e : Env} {s : State} {m : MethodId} {args : Array Value} {below : List Frame} {meth : Method} {c : Code} {T0 : State} {locs : List Loc} {cells slots : Nat} {Z : State} {a0 : Array Value} {h0 : Heap} (s0 : Slot) (s1 : Slot) (s2 : Slot) (s3 : Slot) (s4 : Slot) (s5 : Slot) (s6 : Slot) (s7 : Slot) (s8 : Slot) (s9 : Slot) (i10 : Int32) (i11 : Int32) (s12 : Slot) (s13 : Slot) (i14 : Int32) (s15 : Slot) (s16 : Slot) (s17 : Slot) (s18 : Slot) (s19 : Slot) (s20 : Slot) (s21 : Slot) (s22 : Slot) (s23 : Slot)
    (X0 : Stand p l e room_1 s m args below meth c T0 locs cells slots) (hx : p.tables.exec = Jvm.exec) (hZ : Z.Warmed39 s.vm) (hw : ∀ d ∈ tables_1, d.before a0 Z = true) (hby : c.code = code) (hml : c.maxLocals = 24) (hown : s.vm.findClass "com/example/bandmark/bandmark/PlainDecimalIsCompactPinLaw" = some m.cls) (e0 : T0.heap = h0) (hc381 : ¬ (i11 = (0 : Int32))) (hc388 : i10 < i14) :
    ∃ (T' : State), Stand p l e room_1 s m args below meth c T' locs cells slots ∧ T'.heap = h0 ∧
      ∀ target, Steps p.tables e below (T'.setTop (mkF m 404 #[s0, s1, s2, s3, s4, s5, s6, s7, s8, s9, .val (.int i10), .val (.int i11), s12, s13, .val (.int i14), s15, s16, s17, s18, s19, s20, s21, s22, s23] [])) target → Steps p.tables e below (T0.setTop (mkF m 379 #[s0, s1, s2, s3, s4, s5, s6, s7, s8, s9, .val (.int i10), .val (.int i11), s12, s13, .val (.int i14), s15, s16, s17, s18, s19, s20, s21, s22, s23] [])) target := by
  refine ⟨T0, X0, e0, fun target kt => ?_⟩
  show Steps p.tables e below (T0.setTop (mkF m 379 #[s0, s1, s2, s3, s4, s5, s6, s7, s8, s9, .val (.int i10), .val (.int i11), s12, s13, .val (.int i14), s15, s16, s17, s18, s19, s20, s21, s22, s23] [])) _
  refine XS.iload X0.here hx rfl (hb hby at_379) rfl ?_
  show Steps p.tables e below (T0.setTop (mkF m 381 #[s0, s1, s2, s3, s4, s5, s6, s7, s8, s9, .val (.int i10), .val (.int i11), s12, s13, .val (.int i14), s15, s16, s17, s18, s19, s20, s21, s22, s23] [(.int i11)])) _
  refine XS.ifNo X0.here hx rfl (hb hby at_381) rfl ((if0 _ _).trans (feq hc381).1) ?_
  show Steps p.tables e below (T0.setTop (mkF m 384 #[s0, s1, s2, s3, s4, s5, s6, s7, s8, s9, .val (.int i10), .val (.int i11), s12, s13, .val (.int i14), s15, s16, s17, s18, s19, s20, s21, s22, s23] [])) _
  refine XS.iload X0.here hx rfl (hb hby at_384) rfl ?_
  show Steps p.tables e below (T0.setTop (mkF m 386 #[s0, s1, s2, s3, s4, s5, s6, s7, s8, s9, .val (.int i10), .val (.int i11), s12, s13, .val (.int i14), s15, s16, s17, s18, s19, s20, s21, s22, s23] [(.int i10)])) _
  refine XS.iload X0.here hx rfl (hb hby at_386) rfl ?_
  show Steps p.tables e below (T0.setTop (mkF m 388 #[s0, s1, s2, s3, s4, s5, s6, s7, s8, s9, .val (.int i10), .val (.int i11), s12, s13, .val (.int i14), s15, s16, s17, s18, s19, s20, s21, s22, s23] [(.int i14), (.int i10)])) _
  refine XS.icmpYes X0.here hx rfl (pc0 := 388) (pc' := 404) rfl (hb hby at_388) rfl (tlt hc388).1 (by decide) (by decide) ?_
  exact kt
theorem os0_337_E2_ {s0 : Slot} {s1 : Slot} {s2 : Slot} {s3 : Slot} {z4 : Value} {z5 : Value} {s6 : Slot} {s7 : Slot} {s8 : Slot} {z9 : Value} {s10 : Slot} {s11 : Slot} {s12 : Slot} {s13 : Slot} {s14 : Slot} {s15 : Slot} {s16 : Slot} {s17 : Slot} {s18 : Slot} {s19 : Slot} {s20 : Slot} {s21 : Slot} {s22 : Slot} {s23 : Slot} {v : Int32} (h : One s13) : storeLocals #[s0, s1, s2, s3, .val z4, .val z5, s6, s7, s8, .val z9, s10, s11, s12, s13, s14, s15, s16, s17, s18, s19, s20, s21, s22, s23] 13 (.int v) = some #[s0, s1, s2, s3, .val z4, .val z5, s6, s7, s8, .val z9, s10, s11, s12, .val (.int v), s14, s15, s16, s17, s18, s19, s20, s21, s22, s23] := by
  rcases h with rfl | ⟨w, rfl, hw⟩
  · rfl
  · cases w <;> first | rfl | (simp [Value.category] at hw)
theorem os0_349_E2_ {s0 : Slot} {s1 : Slot} {s2 : Slot} {s3 : Slot} {z4 : Value} {z5 : Value} {s6 : Slot} {s7 : Slot} {s8 : Slot} {z9 : Value} {s10 : Slot} {s11 : Slot} {s12 : Slot} {z13 : Value} {s14 : Slot} {s15 : Slot} {s16 : Slot} {s17 : Slot} {s18 : Slot} {s19 : Slot} {s20 : Slot} {s21 : Slot} {s22 : Slot} {s23 : Slot} {v : Int32} (h : One s14) : storeLocals #[s0, s1, s2, s3, .val z4, .val z5, s6, s7, s8, .val z9, s10, s11, s12, .val z13, s14, s15, s16, s17, s18, s19, s20, s21, s22, s23] 14 (.int v) = some #[s0, s1, s2, s3, .val z4, .val z5, s6, s7, s8, .val z9, s10, s11, s12, .val z13, .val (.int v), s15, s16, s17, s18, s19, s20, s21, s22, s23] := by
  rcases h with rfl | ⟨w, rfl, hw⟩
  · rfl
  · cases w <;> first | rfl | (simp [Value.category] at hw)
theorem os0_356_E2_ {s0 : Slot} {s1 : Slot} {s2 : Slot} {s3 : Slot} {z4 : Value} {z5 : Value} {s6 : Slot} {s7 : Slot} {s8 : Slot} {z9 : Value} {s10 : Slot} {s11 : Slot} {s12 : Slot} {z13 : Value} {z14 : Value} {s15 : Slot} {s16 : Slot} {s17 : Slot} {s18 : Slot} {s19 : Slot} {s20 : Slot} {s21 : Slot} {s22 : Slot} {s23 : Slot} {v : Int32} (h : One s15) : storeLocals #[s0, s1, s2, s3, .val z4, .val z5, s6, s7, s8, .val z9, s10, s11, s12, .val z13, .val z14, s15, s16, s17, s18, s19, s20, s21, s22, s23] 15 (.int v) = some #[s0, s1, s2, s3, .val z4, .val z5, s6, s7, s8, .val z9, s10, s11, s12, .val z13, .val z14, .val (.int v), s16, s17, s18, s19, s20, s21, s22, s23] := by
  rcases h with rfl | ⟨w, rfl, hw⟩
  · rfl
  · cases w <;> first | rfl | (simp [Value.category] at hw)
set_option maxRecDepth 65536 in
set_option maxHeartbeats 40000000 in
theorem E2_ {p : Program} {l : Launch} {e : Env} {s : State} {m : MethodId} {args : Array Value} {below : List Frame} {meth : Method} {c : Code} {T0 : State} {locs : List Loc} {cells slots : Nat} {Z : State} {a0 : Array Value} {h0 : Heap} (s0 : Slot) (s1 : Slot) (s2 : Slot) (s3 : Slot) (i4 : Int32) (i5 : Int32) (s6 : Slot) (s7 : Slot) (s8 : Slot) (i9 : Int32) (s10 : Slot) (s11 : Slot) (s12 : Slot) (s13 : Slot) (s14 : Slot) (s15 : Slot) (s16 : Slot) (s17 : Slot) (s18 : Slot) (s19 : Slot) (s20 : Slot) (s21 : Slot) (s22 : Slot) (s23 : Slot)
    (X0 : Stand p l e room_1 s m args below meth c T0 locs cells slots) (hx : p.tables.exec = Jvm.exec) (hZ : Z.Warmed39 s.vm) (hw : ∀ d ∈ tables_1, d.before a0 Z = true) (hby : c.code = code) (hml : c.maxLocals = 24) (hown : s.vm.findClass "com/example/bandmark/bandmark/PlainDecimalIsCompactPinLaw" = some m.cls) (e0 : T0.heap = h0) (hs13 : One s13) (hs14 : One s14) (hs15 : One s15) (hnz336 : ¬ ((23 : Int32) = (0 : Int32))) (hnz348 : ¬ (((HMod.hMod (i4 &&& (2147483647 : Int32)) (23 : Int32)) + (1 : Int32)) = (0 : Int32))) (hc360 : ¬ (i9 = (0 : Int32))) (hc365 : (HMod.hMod (i5 &&& (2147483647 : Int32)) ((HMod.hMod (i4 &&& (2147483647 : Int32)) (23 : Int32)) + (1 : Int32))) = (0 : Int32)) (hc370 : ¬ ((0 : Int32) < (HMod.hMod (i4 &&& (2147483647 : Int32)) (23 : Int32)))) :
    ∃ (T' : State), Stand p l e room_1 s m args below meth c T' locs cells slots ∧ T'.heap = h0 ∧
      ∀ target, Steps p.tables e below (T'.setTop (mkF m 379 #[s0, s1, s2, s3, .val (.int i4), .val (.int i5), s6, s7, s8, .val (.int i9), s10, s11, s12, .val (.int (HMod.hMod (i4 &&& (2147483647 : Int32)) (23 : Int32))), .val (.int (HMod.hMod (i5 &&& (2147483647 : Int32)) ((HMod.hMod (i4 &&& (2147483647 : Int32)) (23 : Int32)) + (1 : Int32)))), .val (.int ((HMod.hMod (i4 &&& (2147483647 : Int32)) (23 : Int32)) - (HMod.hMod (i5 &&& (2147483647 : Int32)) ((HMod.hMod (i4 &&& (2147483647 : Int32)) (23 : Int32)) + (1 : Int32))))), s16, s17, s18, s19, s20, s21, s22, s23] [])) target → Steps p.tables e below (T0.setTop (mkF m 329 #[s0, s1, s2, s3, .val (.int i4), .val (.int i5), s6, s7, s8, .val (.int i9), s10, s11, s12, s13, s14, s15, s16, s17, s18, s19, s20, s21, s22, s23] [])) target := by
  refine ⟨T0, X0, e0, fun target kt => ?_⟩
  show Steps p.tables e below (T0.setTop (mkF m 329 #[s0, s1, s2, s3, .val (.int i4), .val (.int i5), s6, s7, s8, .val (.int i9), s10, s11, s12, s13, s14, s15, s16, s17, s18, s19, s20, s21, s22, s23] [])) _
  refine XS.iload X0.here hx rfl (hb hby at_329) rfl ?_
  show Steps p.tables e below (T0.setTop (mkF m 331 #[s0, s1, s2, s3, .val (.int i4), .val (.int i5), s6, s7, s8, .val (.int i9), s10, s11, s12, s13, s14, s15, s16, s17, s18, s19, s20, s21, s22, s23] [(.int i4)])) _
  refine X0.ldcInt hx hown (mvT hZ (hw _ (List.mem_of_getElem? (i := 36) rfl))) (g := (mkF m 331 #[s0, s1, s2, s3, .val (.int i4), .val (.int i5), s6, s7, s8, .val (.int i9), s10, s11, s12, s13, s14, s15, s16, s17, s18, s19, s20, s21, s22, s23] [(.int i4)])) rfl (hb hby at_331) _ ?_
  show Steps p.tables e below (T0.setTop (mkF m 333 #[s0, s1, s2, s3, .val (.int i4), .val (.int i5), s6, s7, s8, .val (.int i9), s10, s11, s12, s13, s14, s15, s16, s17, s18, s19, s20, s21, s22, s23] [(.int (2147483647 : Int32)), (.int i4)])) _
  refine XS.iand X0.here hx rfl (hb hby at_333) rfl ?_
  show Steps p.tables e below (T0.setTop (mkF m 334 #[s0, s1, s2, s3, .val (.int i4), .val (.int i5), s6, s7, s8, .val (.int i9), s10, s11, s12, s13, s14, s15, s16, s17, s18, s19, s20, s21, s22, s23] [(.int (i4 &&& (2147483647 : Int32)))])) _
  refine XS.bipush X0.here hx rfl (hb hby at_334) ?_
  show Steps p.tables e below (T0.setTop (mkF m 336 #[s0, s1, s2, s3, .val (.int i4), .val (.int i5), s6, s7, s8, .val (.int i9), s10, s11, s12, s13, s14, s15, s16, s17, s18, s19, s20, s21, s22, s23] [(.int (23 : Int32)), (.int (i4 &&& (2147483647 : Int32)))])) _
  refine Jvm.RoadKit.iremM X0 hx rfl (hb hby at_336) rfl hnz336 ?_
  show Steps p.tables e below (T0.setTop (mkF m 337 #[s0, s1, s2, s3, .val (.int i4), .val (.int i5), s6, s7, s8, .val (.int i9), s10, s11, s12, s13, s14, s15, s16, s17, s18, s19, s20, s21, s22, s23] [(.int (HMod.hMod (i4 &&& (2147483647 : Int32)) (23 : Int32)))])) _
  refine XS.istore X0.here hx rfl (hb hby at_337) rfl (l' := #[s0, s1, s2, s3, .val (.int i4), .val (.int i5), s6, s7, s8, .val (.int i9), s10, s11, s12, .val (.int (HMod.hMod (i4 &&& (2147483647 : Int32)) (23 : Int32))), s14, s15, s16, s17, s18, s19, s20, s21, s22, s23]) (os0_337_E2_ hs13) ?_
  show Steps p.tables e below (T0.setTop (mkF m 339 #[s0, s1, s2, s3, .val (.int i4), .val (.int i5), s6, s7, s8, .val (.int i9), s10, s11, s12, .val (.int (HMod.hMod (i4 &&& (2147483647 : Int32)) (23 : Int32))), s14, s15, s16, s17, s18, s19, s20, s21, s22, s23] [])) _
  refine XS.iload X0.here hx rfl (hb hby at_339) rfl ?_
  show Steps p.tables e below (T0.setTop (mkF m 341 #[s0, s1, s2, s3, .val (.int i4), .val (.int i5), s6, s7, s8, .val (.int i9), s10, s11, s12, .val (.int (HMod.hMod (i4 &&& (2147483647 : Int32)) (23 : Int32))), s14, s15, s16, s17, s18, s19, s20, s21, s22, s23] [(.int i5)])) _
  refine X0.ldcInt hx hown (mvT hZ (hw _ (List.mem_of_getElem? (i := 36) rfl))) (g := (mkF m 341 #[s0, s1, s2, s3, .val (.int i4), .val (.int i5), s6, s7, s8, .val (.int i9), s10, s11, s12, .val (.int (HMod.hMod (i4 &&& (2147483647 : Int32)) (23 : Int32))), s14, s15, s16, s17, s18, s19, s20, s21, s22, s23] [(.int i5)])) rfl (hb hby at_341) _ ?_
  show Steps p.tables e below (T0.setTop (mkF m 343 #[s0, s1, s2, s3, .val (.int i4), .val (.int i5), s6, s7, s8, .val (.int i9), s10, s11, s12, .val (.int (HMod.hMod (i4 &&& (2147483647 : Int32)) (23 : Int32))), s14, s15, s16, s17, s18, s19, s20, s21, s22, s23] [(.int (2147483647 : Int32)), (.int i5)])) _
  refine XS.iand X0.here hx rfl (hb hby at_343) rfl ?_
  show Steps p.tables e below (T0.setTop (mkF m 344 #[s0, s1, s2, s3, .val (.int i4), .val (.int i5), s6, s7, s8, .val (.int i9), s10, s11, s12, .val (.int (HMod.hMod (i4 &&& (2147483647 : Int32)) (23 : Int32))), s14, s15, s16, s17, s18, s19, s20, s21, s22, s23] [(.int (i5 &&& (2147483647 : Int32)))])) _
  refine XS.iload X0.here hx rfl (hb hby at_344) rfl ?_
  show Steps p.tables e below (T0.setTop (mkF m 346 #[s0, s1, s2, s3, .val (.int i4), .val (.int i5), s6, s7, s8, .val (.int i9), s10, s11, s12, .val (.int (HMod.hMod (i4 &&& (2147483647 : Int32)) (23 : Int32))), s14, s15, s16, s17, s18, s19, s20, s21, s22, s23] [(.int (HMod.hMod (i4 &&& (2147483647 : Int32)) (23 : Int32))), (.int (i5 &&& (2147483647 : Int32)))])) _
  refine XS.iconst X0.here hx rfl (hb hby at_346) ?_
  show Steps p.tables e below (T0.setTop (mkF m 347 #[s0, s1, s2, s3, .val (.int i4), .val (.int i5), s6, s7, s8, .val (.int i9), s10, s11, s12, .val (.int (HMod.hMod (i4 &&& (2147483647 : Int32)) (23 : Int32))), s14, s15, s16, s17, s18, s19, s20, s21, s22, s23] [(.int (1 : Int32)), (.int (HMod.hMod (i4 &&& (2147483647 : Int32)) (23 : Int32))), (.int (i5 &&& (2147483647 : Int32)))])) _
  refine XS.iadd X0.here hx rfl (hb hby at_347) rfl ?_
  show Steps p.tables e below (T0.setTop (mkF m 348 #[s0, s1, s2, s3, .val (.int i4), .val (.int i5), s6, s7, s8, .val (.int i9), s10, s11, s12, .val (.int (HMod.hMod (i4 &&& (2147483647 : Int32)) (23 : Int32))), s14, s15, s16, s17, s18, s19, s20, s21, s22, s23] [(.int ((HMod.hMod (i4 &&& (2147483647 : Int32)) (23 : Int32)) + (1 : Int32))), (.int (i5 &&& (2147483647 : Int32)))])) _
  refine Jvm.RoadKit.iremM X0 hx rfl (hb hby at_348) rfl hnz348 ?_
  show Steps p.tables e below (T0.setTop (mkF m 349 #[s0, s1, s2, s3, .val (.int i4), .val (.int i5), s6, s7, s8, .val (.int i9), s10, s11, s12, .val (.int (HMod.hMod (i4 &&& (2147483647 : Int32)) (23 : Int32))), s14, s15, s16, s17, s18, s19, s20, s21, s22, s23] [(.int (HMod.hMod (i5 &&& (2147483647 : Int32)) ((HMod.hMod (i4 &&& (2147483647 : Int32)) (23 : Int32)) + (1 : Int32))))])) _
  refine XS.istore X0.here hx rfl (hb hby at_349) rfl (l' := #[s0, s1, s2, s3, .val (.int i4), .val (.int i5), s6, s7, s8, .val (.int i9), s10, s11, s12, .val (.int (HMod.hMod (i4 &&& (2147483647 : Int32)) (23 : Int32))), .val (.int (HMod.hMod (i5 &&& (2147483647 : Int32)) ((HMod.hMod (i4 &&& (2147483647 : Int32)) (23 : Int32)) + (1 : Int32)))), s15, s16, s17, s18, s19, s20, s21, s22, s23]) (os0_349_E2_ hs14) ?_
  show Steps p.tables e below (T0.setTop (mkF m 351 #[s0, s1, s2, s3, .val (.int i4), .val (.int i5), s6, s7, s8, .val (.int i9), s10, s11, s12, .val (.int (HMod.hMod (i4 &&& (2147483647 : Int32)) (23 : Int32))), .val (.int (HMod.hMod (i5 &&& (2147483647 : Int32)) ((HMod.hMod (i4 &&& (2147483647 : Int32)) (23 : Int32)) + (1 : Int32)))), s15, s16, s17, s18, s19, s20, s21, s22, s23] [])) _
  refine XS.iload X0.here hx rfl (hb hby at_351) rfl ?_
  show Steps p.tables e below (T0.setTop (mkF m 353 #[s0, s1, s2, s3, .val (.int i4), .val (.int i5), s6, s7, s8, .val (.int i9), s10, s11, s12, .val (.int (HMod.hMod (i4 &&& (2147483647 : Int32)) (23 : Int32))), .val (.int (HMod.hMod (i5 &&& (2147483647 : Int32)) ((HMod.hMod (i4 &&& (2147483647 : Int32)) (23 : Int32)) + (1 : Int32)))), s15, s16, s17, s18, s19, s20, s21, s22, s23] [(.int (HMod.hMod (i4 &&& (2147483647 : Int32)) (23 : Int32)))])) _
  refine XS.iload X0.here hx rfl (hb hby at_353) rfl ?_
  show Steps p.tables e below (T0.setTop (mkF m 355 #[s0, s1, s2, s3, .val (.int i4), .val (.int i5), s6, s7, s8, .val (.int i9), s10, s11, s12, .val (.int (HMod.hMod (i4 &&& (2147483647 : Int32)) (23 : Int32))), .val (.int (HMod.hMod (i5 &&& (2147483647 : Int32)) ((HMod.hMod (i4 &&& (2147483647 : Int32)) (23 : Int32)) + (1 : Int32)))), s15, s16, s17, s18, s19, s20, s21, s22, s23] [(.int (HMod.hMod (i5 &&& (2147483647 : Int32)) ((HMod.hMod (i4 &&& (2147483647 : Int32)) (23 : Int32)) + (1 : Int32)))), (.int (HMod.hMod (i4 &&& (2147483647 : Int32)) (23 : Int32)))])) _
  refine XS.isub X0.here hx rfl (hb hby at_355) rfl ?_
  show Steps p.tables e below (T0.setTop (mkF m 356 #[s0, s1, s2, s3, .val (.int i4), .val (.int i5), s6, s7, s8, .val (.int i9), s10, s11, s12, .val (.int (HMod.hMod (i4 &&& (2147483647 : Int32)) (23 : Int32))), .val (.int (HMod.hMod (i5 &&& (2147483647 : Int32)) ((HMod.hMod (i4 &&& (2147483647 : Int32)) (23 : Int32)) + (1 : Int32)))), s15, s16, s17, s18, s19, s20, s21, s22, s23] [(.int ((HMod.hMod (i4 &&& (2147483647 : Int32)) (23 : Int32)) - (HMod.hMod (i5 &&& (2147483647 : Int32)) ((HMod.hMod (i4 &&& (2147483647 : Int32)) (23 : Int32)) + (1 : Int32)))))])) _
  refine XS.istore X0.here hx rfl (hb hby at_356) rfl (l' := #[s0, s1, s2, s3, .val (.int i4), .val (.int i5), s6, s7, s8, .val (.int i9), s10, s11, s12, .val (.int (HMod.hMod (i4 &&& (2147483647 : Int32)) (23 : Int32))), .val (.int (HMod.hMod (i5 &&& (2147483647 : Int32)) ((HMod.hMod (i4 &&& (2147483647 : Int32)) (23 : Int32)) + (1 : Int32)))), .val (.int ((HMod.hMod (i4 &&& (2147483647 : Int32)) (23 : Int32)) - (HMod.hMod (i5 &&& (2147483647 : Int32)) ((HMod.hMod (i4 &&& (2147483647 : Int32)) (23 : Int32)) + (1 : Int32))))), s16, s17, s18, s19, s20, s21, s22, s23]) (os0_356_E2_ hs15) ?_
  show Steps p.tables e below (T0.setTop (mkF m 358 #[s0, s1, s2, s3, .val (.int i4), .val (.int i5), s6, s7, s8, .val (.int i9), s10, s11, s12, .val (.int (HMod.hMod (i4 &&& (2147483647 : Int32)) (23 : Int32))), .val (.int (HMod.hMod (i5 &&& (2147483647 : Int32)) ((HMod.hMod (i4 &&& (2147483647 : Int32)) (23 : Int32)) + (1 : Int32)))), .val (.int ((HMod.hMod (i4 &&& (2147483647 : Int32)) (23 : Int32)) - (HMod.hMod (i5 &&& (2147483647 : Int32)) ((HMod.hMod (i4 &&& (2147483647 : Int32)) (23 : Int32)) + (1 : Int32))))), s16, s17, s18, s19, s20, s21, s22, s23] [])) _
  refine XS.iload X0.here hx rfl (hb hby at_358) rfl ?_
  show Steps p.tables e below (T0.setTop (mkF m 360 #[s0, s1, s2, s3, .val (.int i4), .val (.int i5), s6, s7, s8, .val (.int i9), s10, s11, s12, .val (.int (HMod.hMod (i4 &&& (2147483647 : Int32)) (23 : Int32))), .val (.int (HMod.hMod (i5 &&& (2147483647 : Int32)) ((HMod.hMod (i4 &&& (2147483647 : Int32)) (23 : Int32)) + (1 : Int32)))), .val (.int ((HMod.hMod (i4 &&& (2147483647 : Int32)) (23 : Int32)) - (HMod.hMod (i5 &&& (2147483647 : Int32)) ((HMod.hMod (i4 &&& (2147483647 : Int32)) (23 : Int32)) + (1 : Int32))))), s16, s17, s18, s19, s20, s21, s22, s23] [(.int i9)])) _
  refine XS.ifNo X0.here hx rfl (hb hby at_360) rfl ((if0 _ _).trans (feq hc360).1) ?_
  show Steps p.tables e below (T0.setTop (mkF m 363 #[s0, s1, s2, s3, .val (.int i4), .val (.int i5), s6, s7, s8, .val (.int i9), s10, s11, s12, .val (.int (HMod.hMod (i4 &&& (2147483647 : Int32)) (23 : Int32))), .val (.int (HMod.hMod (i5 &&& (2147483647 : Int32)) ((HMod.hMod (i4 &&& (2147483647 : Int32)) (23 : Int32)) + (1 : Int32)))), .val (.int ((HMod.hMod (i4 &&& (2147483647 : Int32)) (23 : Int32)) - (HMod.hMod (i5 &&& (2147483647 : Int32)) ((HMod.hMod (i4 &&& (2147483647 : Int32)) (23 : Int32)) + (1 : Int32))))), s16, s17, s18, s19, s20, s21, s22, s23] [])) _
  refine XS.iload X0.here hx rfl (hb hby at_363) rfl ?_
  show Steps p.tables e below (T0.setTop (mkF m 365 #[s0, s1, s2, s3, .val (.int i4), .val (.int i5), s6, s7, s8, .val (.int i9), s10, s11, s12, .val (.int (HMod.hMod (i4 &&& (2147483647 : Int32)) (23 : Int32))), .val (.int (HMod.hMod (i5 &&& (2147483647 : Int32)) ((HMod.hMod (i4 &&& (2147483647 : Int32)) (23 : Int32)) + (1 : Int32)))), .val (.int ((HMod.hMod (i4 &&& (2147483647 : Int32)) (23 : Int32)) - (HMod.hMod (i5 &&& (2147483647 : Int32)) ((HMod.hMod (i4 &&& (2147483647 : Int32)) (23 : Int32)) + (1 : Int32))))), s16, s17, s18, s19, s20, s21, s22, s23] [(.int (HMod.hMod (i5 &&& (2147483647 : Int32)) ((HMod.hMod (i4 &&& (2147483647 : Int32)) (23 : Int32)) + (1 : Int32))))])) _
  refine XS.ifNo X0.here hx rfl (hb hby at_365) rfl ((if0 _ _).trans (teq hc365).2) ?_
  show Steps p.tables e below (T0.setTop (mkF m 368 #[s0, s1, s2, s3, .val (.int i4), .val (.int i5), s6, s7, s8, .val (.int i9), s10, s11, s12, .val (.int (HMod.hMod (i4 &&& (2147483647 : Int32)) (23 : Int32))), .val (.int (HMod.hMod (i5 &&& (2147483647 : Int32)) ((HMod.hMod (i4 &&& (2147483647 : Int32)) (23 : Int32)) + (1 : Int32)))), .val (.int ((HMod.hMod (i4 &&& (2147483647 : Int32)) (23 : Int32)) - (HMod.hMod (i5 &&& (2147483647 : Int32)) ((HMod.hMod (i4 &&& (2147483647 : Int32)) (23 : Int32)) + (1 : Int32))))), s16, s17, s18, s19, s20, s21, s22, s23] [])) _
  refine XS.iload X0.here hx rfl (hb hby at_368) rfl ?_
  show Steps p.tables e below (T0.setTop (mkF m 370 #[s0, s1, s2, s3, .val (.int i4), .val (.int i5), s6, s7, s8, .val (.int i9), s10, s11, s12, .val (.int (HMod.hMod (i4 &&& (2147483647 : Int32)) (23 : Int32))), .val (.int (HMod.hMod (i5 &&& (2147483647 : Int32)) ((HMod.hMod (i4 &&& (2147483647 : Int32)) (23 : Int32)) + (1 : Int32)))), .val (.int ((HMod.hMod (i4 &&& (2147483647 : Int32)) (23 : Int32)) - (HMod.hMod (i5 &&& (2147483647 : Int32)) ((HMod.hMod (i4 &&& (2147483647 : Int32)) (23 : Int32)) + (1 : Int32))))), s16, s17, s18, s19, s20, s21, s22, s23] [(.int (HMod.hMod (i4 &&& (2147483647 : Int32)) (23 : Int32)))])) _
  refine XS.ifYes X0.here hx rfl (pc0 := 370) (pc' := 379) rfl (hb hby at_370) rfl ((if0 _ _).trans (flt hc370).2.2.2) (by decide) (by decide) ?_
  exact kt
set_option maxRecDepth 65536 in
set_option maxHeartbeats 40000000 in
theorem F2_ {p : Program} {l : Launch} {e : Env} {s : State} {m : MethodId} {args : Array Value} {below : List Frame} {meth : Method} {c : Code} {T0 : State} {locs : List Loc} {cells slots : Nat} {Z : State} {a0 : Array Value} {h0 : Heap} (s0 : Slot) (s1 : Slot) (s2 : Slot) (s3 : Slot) (s4 : Slot) (s5 : Slot) (s6 : Slot) (s7 : Slot) (s8 : Slot) (s9 : Slot) (i10 : Int32) (i11 : Int32) (s12 : Slot) (i13 : Int32) (i14 : Int32) (s15 : Slot) (s16 : Slot) (s17 : Slot) (s18 : Slot) (s19 : Slot) (s20 : Slot) (s21 : Slot) (s22 : Slot) (s23 : Slot)
    (X0 : Stand p l e room_1 s m args below meth c T0 locs cells slots) (hx : p.tables.exec = Jvm.exec) (hZ : Z.Warmed39 s.vm) (hw : ∀ d ∈ tables_1, d.before a0 Z = true) (hby : c.code = code) (hml : c.maxLocals = 24) (hown : s.vm.findClass "com/example/bandmark/bandmark/PlainDecimalIsCompactPinLaw" = some m.cls) (e0 : T0.heap = h0) (hc381 : ¬ (i11 = (0 : Int32))) (hc388 : ¬ (i10 < i14)) (hc395 : ¬ (i10 < i13)) :
    ∃ (T' : State), Stand p l e room_1 s m args below meth c T' locs cells slots ∧ T'.heap = h0 ∧
      ∀ target, Steps p.tables e below (T'.setTop (mkF m 404 #[s0, s1, s2, s3, s4, s5, s6, s7, s8, s9, .val (.int i10), .val (.int i11), s12, .val (.int i13), .val (.int i14), s15, s16, s17, s18, s19, s20, s21, s22, s23] [])) target → Steps p.tables e below (T0.setTop (mkF m 379 #[s0, s1, s2, s3, s4, s5, s6, s7, s8, s9, .val (.int i10), .val (.int i11), s12, .val (.int i13), .val (.int i14), s15, s16, s17, s18, s19, s20, s21, s22, s23] [])) target := by
  refine ⟨T0, X0, e0, fun target kt => ?_⟩
  show Steps p.tables e below (T0.setTop (mkF m 379 #[s0, s1, s2, s3, s4, s5, s6, s7, s8, s9, .val (.int i10), .val (.int i11), s12, .val (.int i13), .val (.int i14), s15, s16, s17, s18, s19, s20, s21, s22, s23] [])) _
  refine XS.iload X0.here hx rfl (hb hby at_379) rfl ?_
  show Steps p.tables e below (T0.setTop (mkF m 381 #[s0, s1, s2, s3, s4, s5, s6, s7, s8, s9, .val (.int i10), .val (.int i11), s12, .val (.int i13), .val (.int i14), s15, s16, s17, s18, s19, s20, s21, s22, s23] [(.int i11)])) _
  refine XS.ifNo X0.here hx rfl (hb hby at_381) rfl ((if0 _ _).trans (feq hc381).1) ?_
  show Steps p.tables e below (T0.setTop (mkF m 384 #[s0, s1, s2, s3, s4, s5, s6, s7, s8, s9, .val (.int i10), .val (.int i11), s12, .val (.int i13), .val (.int i14), s15, s16, s17, s18, s19, s20, s21, s22, s23] [])) _
  refine XS.iload X0.here hx rfl (hb hby at_384) rfl ?_
  show Steps p.tables e below (T0.setTop (mkF m 386 #[s0, s1, s2, s3, s4, s5, s6, s7, s8, s9, .val (.int i10), .val (.int i11), s12, .val (.int i13), .val (.int i14), s15, s16, s17, s18, s19, s20, s21, s22, s23] [(.int i10)])) _
  refine XS.iload X0.here hx rfl (hb hby at_386) rfl ?_
  show Steps p.tables e below (T0.setTop (mkF m 388 #[s0, s1, s2, s3, s4, s5, s6, s7, s8, s9, .val (.int i10), .val (.int i11), s12, .val (.int i13), .val (.int i14), s15, s16, s17, s18, s19, s20, s21, s22, s23] [(.int i14), (.int i10)])) _
  refine XS.icmpNo X0.here hx rfl (hb hby at_388) rfl (flt hc388).1 ?_
  show Steps p.tables e below (T0.setTop (mkF m 391 #[s0, s1, s2, s3, s4, s5, s6, s7, s8, s9, .val (.int i10), .val (.int i11), s12, .val (.int i13), .val (.int i14), s15, s16, s17, s18, s19, s20, s21, s22, s23] [])) _
  refine XS.iload X0.here hx rfl (hb hby at_391) rfl ?_
  show Steps p.tables e below (T0.setTop (mkF m 393 #[s0, s1, s2, s3, s4, s5, s6, s7, s8, s9, .val (.int i10), .val (.int i11), s12, .val (.int i13), .val (.int i14), s15, s16, s17, s18, s19, s20, s21, s22, s23] [(.int i10)])) _
  refine XS.iload X0.here hx rfl (hb hby at_393) rfl ?_
  show Steps p.tables e below (T0.setTop (mkF m 395 #[s0, s1, s2, s3, s4, s5, s6, s7, s8, s9, .val (.int i10), .val (.int i11), s12, .val (.int i13), .val (.int i14), s15, s16, s17, s18, s19, s20, s21, s22, s23] [(.int i13), (.int i10)])) _
  refine XS.icmpYes X0.here hx rfl (pc0 := 395) (pc' := 404) rfl (hb hby at_395) rfl (flt hc395).2.1 (by decide) (by decide) ?_
  exact kt
theorem os0_337_E3_ {s0 : Slot} {s1 : Slot} {s2 : Slot} {s3 : Slot} {z4 : Value} {z5 : Value} {s6 : Slot} {s7 : Slot} {s8 : Slot} {z9 : Value} {s10 : Slot} {s11 : Slot} {s12 : Slot} {s13 : Slot} {s14 : Slot} {s15 : Slot} {s16 : Slot} {s17 : Slot} {s18 : Slot} {s19 : Slot} {s20 : Slot} {s21 : Slot} {s22 : Slot} {s23 : Slot} {v : Int32} (h : One s13) : storeLocals #[s0, s1, s2, s3, .val z4, .val z5, s6, s7, s8, .val z9, s10, s11, s12, s13, s14, s15, s16, s17, s18, s19, s20, s21, s22, s23] 13 (.int v) = some #[s0, s1, s2, s3, .val z4, .val z5, s6, s7, s8, .val z9, s10, s11, s12, .val (.int v), s14, s15, s16, s17, s18, s19, s20, s21, s22, s23] := by
  rcases h with rfl | ⟨w, rfl, hw⟩
  · rfl
  · cases w <;> first | rfl | (simp [Value.category] at hw)
theorem os0_349_E3_ {s0 : Slot} {s1 : Slot} {s2 : Slot} {s3 : Slot} {z4 : Value} {z5 : Value} {s6 : Slot} {s7 : Slot} {s8 : Slot} {z9 : Value} {s10 : Slot} {s11 : Slot} {s12 : Slot} {z13 : Value} {s14 : Slot} {s15 : Slot} {s16 : Slot} {s17 : Slot} {s18 : Slot} {s19 : Slot} {s20 : Slot} {s21 : Slot} {s22 : Slot} {s23 : Slot} {v : Int32} (h : One s14) : storeLocals #[s0, s1, s2, s3, .val z4, .val z5, s6, s7, s8, .val z9, s10, s11, s12, .val z13, s14, s15, s16, s17, s18, s19, s20, s21, s22, s23] 14 (.int v) = some #[s0, s1, s2, s3, .val z4, .val z5, s6, s7, s8, .val z9, s10, s11, s12, .val z13, .val (.int v), s15, s16, s17, s18, s19, s20, s21, s22, s23] := by
  rcases h with rfl | ⟨w, rfl, hw⟩
  · rfl
  · cases w <;> first | rfl | (simp [Value.category] at hw)
theorem os0_356_E3_ {s0 : Slot} {s1 : Slot} {s2 : Slot} {s3 : Slot} {z4 : Value} {z5 : Value} {s6 : Slot} {s7 : Slot} {s8 : Slot} {z9 : Value} {s10 : Slot} {s11 : Slot} {s12 : Slot} {z13 : Value} {z14 : Value} {s15 : Slot} {s16 : Slot} {s17 : Slot} {s18 : Slot} {s19 : Slot} {s20 : Slot} {s21 : Slot} {s22 : Slot} {s23 : Slot} {v : Int32} (h : One s15) : storeLocals #[s0, s1, s2, s3, .val z4, .val z5, s6, s7, s8, .val z9, s10, s11, s12, .val z13, .val z14, s15, s16, s17, s18, s19, s20, s21, s22, s23] 15 (.int v) = some #[s0, s1, s2, s3, .val z4, .val z5, s6, s7, s8, .val z9, s10, s11, s12, .val z13, .val z14, .val (.int v), s16, s17, s18, s19, s20, s21, s22, s23] := by
  rcases h with rfl | ⟨w, rfl, hw⟩
  · rfl
  · cases w <;> first | rfl | (simp [Value.category] at hw)
set_option maxRecDepth 65536 in
set_option maxHeartbeats 40000000 in
theorem E3_ {p : Program} {l : Launch} {e : Env} {s : State} {m : MethodId} {args : Array Value} {below : List Frame} {meth : Method} {c : Code} {T0 : State} {locs : List Loc} {cells slots : Nat} {Z : State} {a0 : Array Value} {h0 : Heap} (s0 : Slot) (s1 : Slot) (s2 : Slot) (s3 : Slot) (i4 : Int32) (i5 : Int32) (s6 : Slot) (s7 : Slot) (s8 : Slot) (i9 : Int32) (s10 : Slot) (s11 : Slot) (s12 : Slot) (s13 : Slot) (s14 : Slot) (s15 : Slot) (s16 : Slot) (s17 : Slot) (s18 : Slot) (s19 : Slot) (s20 : Slot) (s21 : Slot) (s22 : Slot) (s23 : Slot)
    (X0 : Stand p l e room_1 s m args below meth c T0 locs cells slots) (hx : p.tables.exec = Jvm.exec) (hZ : Z.Warmed39 s.vm) (hw : ∀ d ∈ tables_1, d.before a0 Z = true) (hby : c.code = code) (hml : c.maxLocals = 24) (hown : s.vm.findClass "com/example/bandmark/bandmark/PlainDecimalIsCompactPinLaw" = some m.cls) (e0 : T0.heap = h0) (hs13 : One s13) (hs14 : One s14) (hs15 : One s15) (hnz336 : ¬ ((23 : Int32) = (0 : Int32))) (hnz348 : ¬ (((HMod.hMod (i4 &&& (2147483647 : Int32)) (23 : Int32)) + (1 : Int32)) = (0 : Int32))) (hc360 : ¬ (i9 = (0 : Int32))) (hc365 : (HMod.hMod (i5 &&& (2147483647 : Int32)) ((HMod.hMod (i4 &&& (2147483647 : Int32)) (23 : Int32)) + (1 : Int32))) = (0 : Int32)) (hc370 : (0 : Int32) < (HMod.hMod (i4 &&& (2147483647 : Int32)) (23 : Int32))) :
    ∃ (T' : State), Stand p l e room_1 s m args below meth c T' locs cells slots ∧ T'.heap = h0 ∧
      ∀ target, Steps p.tables e below (T'.setTop (mkF m 379 #[s0, s1, s2, s3, .val (.int i4), .val (.int i5), s6, s7, s8, .val (.int i9), s10, s11, s12, .val (.int (HMod.hMod (i4 &&& (2147483647 : Int32)) (23 : Int32))), .val (.int (HMod.hMod (i5 &&& (2147483647 : Int32)) ((HMod.hMod (i4 &&& (2147483647 : Int32)) (23 : Int32)) + (1 : Int32)))), .val (.int (((HMod.hMod (i4 &&& (2147483647 : Int32)) (23 : Int32)) - (HMod.hMod (i5 &&& (2147483647 : Int32)) ((HMod.hMod (i4 &&& (2147483647 : Int32)) (23 : Int32)) + (1 : Int32)))) - (1 : Int32))), s16, s17, s18, s19, s20, s21, s22, s23] [])) target → Steps p.tables e below (T0.setTop (mkF m 329 #[s0, s1, s2, s3, .val (.int i4), .val (.int i5), s6, s7, s8, .val (.int i9), s10, s11, s12, s13, s14, s15, s16, s17, s18, s19, s20, s21, s22, s23] [])) target := by
  refine ⟨T0, X0, e0, fun target kt => ?_⟩
  show Steps p.tables e below (T0.setTop (mkF m 329 #[s0, s1, s2, s3, .val (.int i4), .val (.int i5), s6, s7, s8, .val (.int i9), s10, s11, s12, s13, s14, s15, s16, s17, s18, s19, s20, s21, s22, s23] [])) _
  refine XS.iload X0.here hx rfl (hb hby at_329) rfl ?_
  show Steps p.tables e below (T0.setTop (mkF m 331 #[s0, s1, s2, s3, .val (.int i4), .val (.int i5), s6, s7, s8, .val (.int i9), s10, s11, s12, s13, s14, s15, s16, s17, s18, s19, s20, s21, s22, s23] [(.int i4)])) _
  refine X0.ldcInt hx hown (mvT hZ (hw _ (List.mem_of_getElem? (i := 36) rfl))) (g := (mkF m 331 #[s0, s1, s2, s3, .val (.int i4), .val (.int i5), s6, s7, s8, .val (.int i9), s10, s11, s12, s13, s14, s15, s16, s17, s18, s19, s20, s21, s22, s23] [(.int i4)])) rfl (hb hby at_331) _ ?_
  show Steps p.tables e below (T0.setTop (mkF m 333 #[s0, s1, s2, s3, .val (.int i4), .val (.int i5), s6, s7, s8, .val (.int i9), s10, s11, s12, s13, s14, s15, s16, s17, s18, s19, s20, s21, s22, s23] [(.int (2147483647 : Int32)), (.int i4)])) _
  refine XS.iand X0.here hx rfl (hb hby at_333) rfl ?_
  show Steps p.tables e below (T0.setTop (mkF m 334 #[s0, s1, s2, s3, .val (.int i4), .val (.int i5), s6, s7, s8, .val (.int i9), s10, s11, s12, s13, s14, s15, s16, s17, s18, s19, s20, s21, s22, s23] [(.int (i4 &&& (2147483647 : Int32)))])) _
  refine XS.bipush X0.here hx rfl (hb hby at_334) ?_
  show Steps p.tables e below (T0.setTop (mkF m 336 #[s0, s1, s2, s3, .val (.int i4), .val (.int i5), s6, s7, s8, .val (.int i9), s10, s11, s12, s13, s14, s15, s16, s17, s18, s19, s20, s21, s22, s23] [(.int (23 : Int32)), (.int (i4 &&& (2147483647 : Int32)))])) _
  refine Jvm.RoadKit.iremM X0 hx rfl (hb hby at_336) rfl hnz336 ?_
  show Steps p.tables e below (T0.setTop (mkF m 337 #[s0, s1, s2, s3, .val (.int i4), .val (.int i5), s6, s7, s8, .val (.int i9), s10, s11, s12, s13, s14, s15, s16, s17, s18, s19, s20, s21, s22, s23] [(.int (HMod.hMod (i4 &&& (2147483647 : Int32)) (23 : Int32)))])) _
  refine XS.istore X0.here hx rfl (hb hby at_337) rfl (l' := #[s0, s1, s2, s3, .val (.int i4), .val (.int i5), s6, s7, s8, .val (.int i9), s10, s11, s12, .val (.int (HMod.hMod (i4 &&& (2147483647 : Int32)) (23 : Int32))), s14, s15, s16, s17, s18, s19, s20, s21, s22, s23]) (os0_337_E3_ hs13) ?_
  show Steps p.tables e below (T0.setTop (mkF m 339 #[s0, s1, s2, s3, .val (.int i4), .val (.int i5), s6, s7, s8, .val (.int i9), s10, s11, s12, .val (.int (HMod.hMod (i4 &&& (2147483647 : Int32)) (23 : Int32))), s14, s15, s16, s17, s18, s19, s20, s21, s22, s23] [])) _
  refine XS.iload X0.here hx rfl (hb hby at_339) rfl ?_
  show Steps p.tables e below (T0.setTop (mkF m 341 #[s0, s1, s2, s3, .val (.int i4), .val (.int i5), s6, s7, s8, .val (.int i9), s10, s11, s12, .val (.int (HMod.hMod (i4 &&& (2147483647 : Int32)) (23 : Int32))), s14, s15, s16, s17, s18, s19, s20, s21, s22, s23] [(.int i5)])) _
  refine X0.ldcInt hx hown (mvT hZ (hw _ (List.mem_of_getElem? (i := 36) rfl))) (g := (mkF m 341 #[s0, s1, s2, s3, .val (.int i4), .val (.int i5), s6, s7, s8, .val (.int i9), s10, s11, s12, .val (.int (HMod.hMod (i4 &&& (2147483647 : Int32)) (23 : Int32))), s14, s15, s16, s17, s18, s19, s20, s21, s22, s23] [(.int i5)])) rfl (hb hby at_341) _ ?_
  show Steps p.tables e below (T0.setTop (mkF m 343 #[s0, s1, s2, s3, .val (.int i4), .val (.int i5), s6, s7, s8, .val (.int i9), s10, s11, s12, .val (.int (HMod.hMod (i4 &&& (2147483647 : Int32)) (23 : Int32))), s14, s15, s16, s17, s18, s19, s20, s21, s22, s23] [(.int (2147483647 : Int32)), (.int i5)])) _
  refine XS.iand X0.here hx rfl (hb hby at_343) rfl ?_
  show Steps p.tables e below (T0.setTop (mkF m 344 #[s0, s1, s2, s3, .val (.int i4), .val (.int i5), s6, s7, s8, .val (.int i9), s10, s11, s12, .val (.int (HMod.hMod (i4 &&& (2147483647 : Int32)) (23 : Int32))), s14, s15, s16, s17, s18, s19, s20, s21, s22, s23] [(.int (i5 &&& (2147483647 : Int32)))])) _
  refine XS.iload X0.here hx rfl (hb hby at_344) rfl ?_
  show Steps p.tables e below (T0.setTop (mkF m 346 #[s0, s1, s2, s3, .val (.int i4), .val (.int i5), s6, s7, s8, .val (.int i9), s10, s11, s12, .val (.int (HMod.hMod (i4 &&& (2147483647 : Int32)) (23 : Int32))), s14, s15, s16, s17, s18, s19, s20, s21, s22, s23] [(.int (HMod.hMod (i4 &&& (2147483647 : Int32)) (23 : Int32))), (.int (i5 &&& (2147483647 : Int32)))])) _
  refine XS.iconst X0.here hx rfl (hb hby at_346) ?_
  show Steps p.tables e below (T0.setTop (mkF m 347 #[s0, s1, s2, s3, .val (.int i4), .val (.int i5), s6, s7, s8, .val (.int i9), s10, s11, s12, .val (.int (HMod.hMod (i4 &&& (2147483647 : Int32)) (23 : Int32))), s14, s15, s16, s17, s18, s19, s20, s21, s22, s23] [(.int (1 : Int32)), (.int (HMod.hMod (i4 &&& (2147483647 : Int32)) (23 : Int32))), (.int (i5 &&& (2147483647 : Int32)))])) _
  refine XS.iadd X0.here hx rfl (hb hby at_347) rfl ?_
  show Steps p.tables e below (T0.setTop (mkF m 348 #[s0, s1, s2, s3, .val (.int i4), .val (.int i5), s6, s7, s8, .val (.int i9), s10, s11, s12, .val (.int (HMod.hMod (i4 &&& (2147483647 : Int32)) (23 : Int32))), s14, s15, s16, s17, s18, s19, s20, s21, s22, s23] [(.int ((HMod.hMod (i4 &&& (2147483647 : Int32)) (23 : Int32)) + (1 : Int32))), (.int (i5 &&& (2147483647 : Int32)))])) _
  refine Jvm.RoadKit.iremM X0 hx rfl (hb hby at_348) rfl hnz348 ?_
  show Steps p.tables e below (T0.setTop (mkF m 349 #[s0, s1, s2, s3, .val (.int i4), .val (.int i5), s6, s7, s8, .val (.int i9), s10, s11, s12, .val (.int (HMod.hMod (i4 &&& (2147483647 : Int32)) (23 : Int32))), s14, s15, s16, s17, s18, s19, s20, s21, s22, s23] [(.int (HMod.hMod (i5 &&& (2147483647 : Int32)) ((HMod.hMod (i4 &&& (2147483647 : Int32)) (23 : Int32)) + (1 : Int32))))])) _
  refine XS.istore X0.here hx rfl (hb hby at_349) rfl (l' := #[s0, s1, s2, s3, .val (.int i4), .val (.int i5), s6, s7, s8, .val (.int i9), s10, s11, s12, .val (.int (HMod.hMod (i4 &&& (2147483647 : Int32)) (23 : Int32))), .val (.int (HMod.hMod (i5 &&& (2147483647 : Int32)) ((HMod.hMod (i4 &&& (2147483647 : Int32)) (23 : Int32)) + (1 : Int32)))), s15, s16, s17, s18, s19, s20, s21, s22, s23]) (os0_349_E3_ hs14) ?_
  show Steps p.tables e below (T0.setTop (mkF m 351 #[s0, s1, s2, s3, .val (.int i4), .val (.int i5), s6, s7, s8, .val (.int i9), s10, s11, s12, .val (.int (HMod.hMod (i4 &&& (2147483647 : Int32)) (23 : Int32))), .val (.int (HMod.hMod (i5 &&& (2147483647 : Int32)) ((HMod.hMod (i4 &&& (2147483647 : Int32)) (23 : Int32)) + (1 : Int32)))), s15, s16, s17, s18, s19, s20, s21, s22, s23] [])) _
  refine XS.iload X0.here hx rfl (hb hby at_351) rfl ?_
  show Steps p.tables e below (T0.setTop (mkF m 353 #[s0, s1, s2, s3, .val (.int i4), .val (.int i5), s6, s7, s8, .val (.int i9), s10, s11, s12, .val (.int (HMod.hMod (i4 &&& (2147483647 : Int32)) (23 : Int32))), .val (.int (HMod.hMod (i5 &&& (2147483647 : Int32)) ((HMod.hMod (i4 &&& (2147483647 : Int32)) (23 : Int32)) + (1 : Int32)))), s15, s16, s17, s18, s19, s20, s21, s22, s23] [(.int (HMod.hMod (i4 &&& (2147483647 : Int32)) (23 : Int32)))])) _
  refine XS.iload X0.here hx rfl (hb hby at_353) rfl ?_
  show Steps p.tables e below (T0.setTop (mkF m 355 #[s0, s1, s2, s3, .val (.int i4), .val (.int i5), s6, s7, s8, .val (.int i9), s10, s11, s12, .val (.int (HMod.hMod (i4 &&& (2147483647 : Int32)) (23 : Int32))), .val (.int (HMod.hMod (i5 &&& (2147483647 : Int32)) ((HMod.hMod (i4 &&& (2147483647 : Int32)) (23 : Int32)) + (1 : Int32)))), s15, s16, s17, s18, s19, s20, s21, s22, s23] [(.int (HMod.hMod (i5 &&& (2147483647 : Int32)) ((HMod.hMod (i4 &&& (2147483647 : Int32)) (23 : Int32)) + (1 : Int32)))), (.int (HMod.hMod (i4 &&& (2147483647 : Int32)) (23 : Int32)))])) _
  refine XS.isub X0.here hx rfl (hb hby at_355) rfl ?_
  show Steps p.tables e below (T0.setTop (mkF m 356 #[s0, s1, s2, s3, .val (.int i4), .val (.int i5), s6, s7, s8, .val (.int i9), s10, s11, s12, .val (.int (HMod.hMod (i4 &&& (2147483647 : Int32)) (23 : Int32))), .val (.int (HMod.hMod (i5 &&& (2147483647 : Int32)) ((HMod.hMod (i4 &&& (2147483647 : Int32)) (23 : Int32)) + (1 : Int32)))), s15, s16, s17, s18, s19, s20, s21, s22, s23] [(.int ((HMod.hMod (i4 &&& (2147483647 : Int32)) (23 : Int32)) - (HMod.hMod (i5 &&& (2147483647 : Int32)) ((HMod.hMod (i4 &&& (2147483647 : Int32)) (23 : Int32)) + (1 : Int32)))))])) _
  refine XS.istore X0.here hx rfl (hb hby at_356) rfl (l' := #[s0, s1, s2, s3, .val (.int i4), .val (.int i5), s6, s7, s8, .val (.int i9), s10, s11, s12, .val (.int (HMod.hMod (i4 &&& (2147483647 : Int32)) (23 : Int32))), .val (.int (HMod.hMod (i5 &&& (2147483647 : Int32)) ((HMod.hMod (i4 &&& (2147483647 : Int32)) (23 : Int32)) + (1 : Int32)))), .val (.int ((HMod.hMod (i4 &&& (2147483647 : Int32)) (23 : Int32)) - (HMod.hMod (i5 &&& (2147483647 : Int32)) ((HMod.hMod (i4 &&& (2147483647 : Int32)) (23 : Int32)) + (1 : Int32))))), s16, s17, s18, s19, s20, s21, s22, s23]) (os0_356_E3_ hs15) ?_
  show Steps p.tables e below (T0.setTop (mkF m 358 #[s0, s1, s2, s3, .val (.int i4), .val (.int i5), s6, s7, s8, .val (.int i9), s10, s11, s12, .val (.int (HMod.hMod (i4 &&& (2147483647 : Int32)) (23 : Int32))), .val (.int (HMod.hMod (i5 &&& (2147483647 : Int32)) ((HMod.hMod (i4 &&& (2147483647 : Int32)) (23 : Int32)) + (1 : Int32)))), .val (.int ((HMod.hMod (i4 &&& (2147483647 : Int32)) (23 : Int32)) - (HMod.hMod (i5 &&& (2147483647 : Int32)) ((HMod.hMod (i4 &&& (2147483647 : Int32)) (23 : Int32)) + (1 : Int32))))), s16, s17, s18, s19, s20, s21, s22, s23] [])) _
  refine XS.iload X0.here hx rfl (hb hby at_358) rfl ?_
  show Steps p.tables e below (T0.setTop (mkF m 360 #[s0, s1, s2, s3, .val (.int i4), .val (.int i5), s6, s7, s8, .val (.int i9), s10, s11, s12, .val (.int (HMod.hMod (i4 &&& (2147483647 : Int32)) (23 : Int32))), .val (.int (HMod.hMod (i5 &&& (2147483647 : Int32)) ((HMod.hMod (i4 &&& (2147483647 : Int32)) (23 : Int32)) + (1 : Int32)))), .val (.int ((HMod.hMod (i4 &&& (2147483647 : Int32)) (23 : Int32)) - (HMod.hMod (i5 &&& (2147483647 : Int32)) ((HMod.hMod (i4 &&& (2147483647 : Int32)) (23 : Int32)) + (1 : Int32))))), s16, s17, s18, s19, s20, s21, s22, s23] [(.int i9)])) _
  refine XS.ifNo X0.here hx rfl (hb hby at_360) rfl ((if0 _ _).trans (feq hc360).1) ?_
  show Steps p.tables e below (T0.setTop (mkF m 363 #[s0, s1, s2, s3, .val (.int i4), .val (.int i5), s6, s7, s8, .val (.int i9), s10, s11, s12, .val (.int (HMod.hMod (i4 &&& (2147483647 : Int32)) (23 : Int32))), .val (.int (HMod.hMod (i5 &&& (2147483647 : Int32)) ((HMod.hMod (i4 &&& (2147483647 : Int32)) (23 : Int32)) + (1 : Int32)))), .val (.int ((HMod.hMod (i4 &&& (2147483647 : Int32)) (23 : Int32)) - (HMod.hMod (i5 &&& (2147483647 : Int32)) ((HMod.hMod (i4 &&& (2147483647 : Int32)) (23 : Int32)) + (1 : Int32))))), s16, s17, s18, s19, s20, s21, s22, s23] [])) _
  refine XS.iload X0.here hx rfl (hb hby at_363) rfl ?_
  show Steps p.tables e below (T0.setTop (mkF m 365 #[s0, s1, s2, s3, .val (.int i4), .val (.int i5), s6, s7, s8, .val (.int i9), s10, s11, s12, .val (.int (HMod.hMod (i4 &&& (2147483647 : Int32)) (23 : Int32))), .val (.int (HMod.hMod (i5 &&& (2147483647 : Int32)) ((HMod.hMod (i4 &&& (2147483647 : Int32)) (23 : Int32)) + (1 : Int32)))), .val (.int ((HMod.hMod (i4 &&& (2147483647 : Int32)) (23 : Int32)) - (HMod.hMod (i5 &&& (2147483647 : Int32)) ((HMod.hMod (i4 &&& (2147483647 : Int32)) (23 : Int32)) + (1 : Int32))))), s16, s17, s18, s19, s20, s21, s22, s23] [(.int (HMod.hMod (i5 &&& (2147483647 : Int32)) ((HMod.hMod (i4 &&& (2147483647 : Int32)) (23 : Int32)) + (1 : Int32))))])) _
  refine XS.ifNo X0.here hx rfl (hb hby at_365) rfl ((if0 _ _).trans (teq hc365).2) ?_
  show Steps p.tables e below (T0.setTop (mkF m 368 #[s0, s1, s2, s3, .val (.int i4), .val (.int i5), s6, s7, s8, .val (.int i9), s10, s11, s12, .val (.int (HMod.hMod (i4 &&& (2147483647 : Int32)) (23 : Int32))), .val (.int (HMod.hMod (i5 &&& (2147483647 : Int32)) ((HMod.hMod (i4 &&& (2147483647 : Int32)) (23 : Int32)) + (1 : Int32)))), .val (.int ((HMod.hMod (i4 &&& (2147483647 : Int32)) (23 : Int32)) - (HMod.hMod (i5 &&& (2147483647 : Int32)) ((HMod.hMod (i4 &&& (2147483647 : Int32)) (23 : Int32)) + (1 : Int32))))), s16, s17, s18, s19, s20, s21, s22, s23] [])) _
  refine XS.iload X0.here hx rfl (hb hby at_368) rfl ?_
  show Steps p.tables e below (T0.setTop (mkF m 370 #[s0, s1, s2, s3, .val (.int i4), .val (.int i5), s6, s7, s8, .val (.int i9), s10, s11, s12, .val (.int (HMod.hMod (i4 &&& (2147483647 : Int32)) (23 : Int32))), .val (.int (HMod.hMod (i5 &&& (2147483647 : Int32)) ((HMod.hMod (i4 &&& (2147483647 : Int32)) (23 : Int32)) + (1 : Int32)))), .val (.int ((HMod.hMod (i4 &&& (2147483647 : Int32)) (23 : Int32)) - (HMod.hMod (i5 &&& (2147483647 : Int32)) ((HMod.hMod (i4 &&& (2147483647 : Int32)) (23 : Int32)) + (1 : Int32))))), s16, s17, s18, s19, s20, s21, s22, s23] [(.int (HMod.hMod (i4 &&& (2147483647 : Int32)) (23 : Int32)))])) _
  refine XS.ifNo X0.here hx rfl (hb hby at_370) rfl ((if0 _ _).trans (tlt hc370).2.2.2) ?_
  show Steps p.tables e below (T0.setTop (mkF m 373 #[s0, s1, s2, s3, .val (.int i4), .val (.int i5), s6, s7, s8, .val (.int i9), s10, s11, s12, .val (.int (HMod.hMod (i4 &&& (2147483647 : Int32)) (23 : Int32))), .val (.int (HMod.hMod (i5 &&& (2147483647 : Int32)) ((HMod.hMod (i4 &&& (2147483647 : Int32)) (23 : Int32)) + (1 : Int32)))), .val (.int ((HMod.hMod (i4 &&& (2147483647 : Int32)) (23 : Int32)) - (HMod.hMod (i5 &&& (2147483647 : Int32)) ((HMod.hMod (i4 &&& (2147483647 : Int32)) (23 : Int32)) + (1 : Int32))))), s16, s17, s18, s19, s20, s21, s22, s23] [])) _
  refine XS.iload X0.here hx rfl (hb hby at_373) rfl ?_
  show Steps p.tables e below (T0.setTop (mkF m 375 #[s0, s1, s2, s3, .val (.int i4), .val (.int i5), s6, s7, s8, .val (.int i9), s10, s11, s12, .val (.int (HMod.hMod (i4 &&& (2147483647 : Int32)) (23 : Int32))), .val (.int (HMod.hMod (i5 &&& (2147483647 : Int32)) ((HMod.hMod (i4 &&& (2147483647 : Int32)) (23 : Int32)) + (1 : Int32)))), .val (.int ((HMod.hMod (i4 &&& (2147483647 : Int32)) (23 : Int32)) - (HMod.hMod (i5 &&& (2147483647 : Int32)) ((HMod.hMod (i4 &&& (2147483647 : Int32)) (23 : Int32)) + (1 : Int32))))), s16, s17, s18, s19, s20, s21, s22, s23] [(.int ((HMod.hMod (i4 &&& (2147483647 : Int32)) (23 : Int32)) - (HMod.hMod (i5 &&& (2147483647 : Int32)) ((HMod.hMod (i4 &&& (2147483647 : Int32)) (23 : Int32)) + (1 : Int32)))))])) _
  refine XS.iconst X0.here hx rfl (hb hby at_375) ?_
  show Steps p.tables e below (T0.setTop (mkF m 376 #[s0, s1, s2, s3, .val (.int i4), .val (.int i5), s6, s7, s8, .val (.int i9), s10, s11, s12, .val (.int (HMod.hMod (i4 &&& (2147483647 : Int32)) (23 : Int32))), .val (.int (HMod.hMod (i5 &&& (2147483647 : Int32)) ((HMod.hMod (i4 &&& (2147483647 : Int32)) (23 : Int32)) + (1 : Int32)))), .val (.int ((HMod.hMod (i4 &&& (2147483647 : Int32)) (23 : Int32)) - (HMod.hMod (i5 &&& (2147483647 : Int32)) ((HMod.hMod (i4 &&& (2147483647 : Int32)) (23 : Int32)) + (1 : Int32))))), s16, s17, s18, s19, s20, s21, s22, s23] [(.int (1 : Int32)), (.int ((HMod.hMod (i4 &&& (2147483647 : Int32)) (23 : Int32)) - (HMod.hMod (i5 &&& (2147483647 : Int32)) ((HMod.hMod (i4 &&& (2147483647 : Int32)) (23 : Int32)) + (1 : Int32)))))])) _
  refine XS.isub X0.here hx rfl (hb hby at_376) rfl ?_
  show Steps p.tables e below (T0.setTop (mkF m 377 #[s0, s1, s2, s3, .val (.int i4), .val (.int i5), s6, s7, s8, .val (.int i9), s10, s11, s12, .val (.int (HMod.hMod (i4 &&& (2147483647 : Int32)) (23 : Int32))), .val (.int (HMod.hMod (i5 &&& (2147483647 : Int32)) ((HMod.hMod (i4 &&& (2147483647 : Int32)) (23 : Int32)) + (1 : Int32)))), .val (.int ((HMod.hMod (i4 &&& (2147483647 : Int32)) (23 : Int32)) - (HMod.hMod (i5 &&& (2147483647 : Int32)) ((HMod.hMod (i4 &&& (2147483647 : Int32)) (23 : Int32)) + (1 : Int32))))), s16, s17, s18, s19, s20, s21, s22, s23] [(.int (((HMod.hMod (i4 &&& (2147483647 : Int32)) (23 : Int32)) - (HMod.hMod (i5 &&& (2147483647 : Int32)) ((HMod.hMod (i4 &&& (2147483647 : Int32)) (23 : Int32)) + (1 : Int32)))) - (1 : Int32)))])) _
  refine XS.istore X0.here hx rfl (hb hby at_377) rfl (l' := #[s0, s1, s2, s3, .val (.int i4), .val (.int i5), s6, s7, s8, .val (.int i9), s10, s11, s12, .val (.int (HMod.hMod (i4 &&& (2147483647 : Int32)) (23 : Int32))), .val (.int (HMod.hMod (i5 &&& (2147483647 : Int32)) ((HMod.hMod (i4 &&& (2147483647 : Int32)) (23 : Int32)) + (1 : Int32)))), .val (.int (((HMod.hMod (i4 &&& (2147483647 : Int32)) (23 : Int32)) - (HMod.hMod (i5 &&& (2147483647 : Int32)) ((HMod.hMod (i4 &&& (2147483647 : Int32)) (23 : Int32)) + (1 : Int32)))) - (1 : Int32))), s16, s17, s18, s19, s20, s21, s22, s23]) rfl ?_
  exact kt
set_option maxRecDepth 65536 in
set_option maxHeartbeats 40000000 in
theorem F3_ {p : Program} {l : Launch} {e : Env} {s : State} {m : MethodId} {args : Array Value} {below : List Frame} {meth : Method} {c : Code} {T0 : State} {locs : List Loc} {cells slots : Nat} {Z : State} {a0 : Array Value} {h0 : Heap} (s0 : Slot) (s1 : Slot) (s2 : Slot) (s3 : Slot) (s4 : Slot) (s5 : Slot) (s6 : Slot) (s7 : Slot) (s8 : Slot) (s9 : Slot) (i10 : Int32) (i11 : Int32) (s12 : Slot) (i13 : Int32) (i14 : Int32) (i15 : Int32) (s16 : Slot) (s17 : Slot) (s18 : Slot) (s19 : Slot) (s20 : Slot) (s21 : Slot) (s22 : Slot) (s23 : Slot)
    (X0 : Stand p l e room_1 s m args below meth c T0 locs cells slots) (hx : p.tables.exec = Jvm.exec) (hZ : Z.Warmed39 s.vm) (hw : ∀ d ∈ tables_1, d.before a0 Z = true) (hby : c.code = code) (hml : c.maxLocals = 24) (hown : s.vm.findClass "com/example/bandmark/bandmark/PlainDecimalIsCompactPinLaw" = some m.cls) (e0 : T0.heap = h0) (hc381 : ¬ (i11 = (0 : Int32))) (hc388 : ¬ (i10 < i14)) (hc395 : i10 < i13) :
    ∃ (T' : State), Stand p l e room_1 s m args below meth c T' locs cells slots ∧ T'.heap = h0 ∧
      ∀ target, Steps p.tables e below (T'.setTop (mkF m 404 #[s0, s1, s2, s3, s4, s5, s6, s7, s8, s9, .val (.int i10), .val (.int i11), s12, .val (.int i13), .val (.int i14), .val (.int (i15 - (1 : Int32))), s16, s17, s18, s19, s20, s21, s22, s23] [])) target → Steps p.tables e below (T0.setTop (mkF m 379 #[s0, s1, s2, s3, s4, s5, s6, s7, s8, s9, .val (.int i10), .val (.int i11), s12, .val (.int i13), .val (.int i14), .val (.int i15), s16, s17, s18, s19, s20, s21, s22, s23] [])) target := by
  refine ⟨T0, X0, e0, fun target kt => ?_⟩
  show Steps p.tables e below (T0.setTop (mkF m 379 #[s0, s1, s2, s3, s4, s5, s6, s7, s8, s9, .val (.int i10), .val (.int i11), s12, .val (.int i13), .val (.int i14), .val (.int i15), s16, s17, s18, s19, s20, s21, s22, s23] [])) _
  refine XS.iload X0.here hx rfl (hb hby at_379) rfl ?_
  show Steps p.tables e below (T0.setTop (mkF m 381 #[s0, s1, s2, s3, s4, s5, s6, s7, s8, s9, .val (.int i10), .val (.int i11), s12, .val (.int i13), .val (.int i14), .val (.int i15), s16, s17, s18, s19, s20, s21, s22, s23] [(.int i11)])) _
  refine XS.ifNo X0.here hx rfl (hb hby at_381) rfl ((if0 _ _).trans (feq hc381).1) ?_
  show Steps p.tables e below (T0.setTop (mkF m 384 #[s0, s1, s2, s3, s4, s5, s6, s7, s8, s9, .val (.int i10), .val (.int i11), s12, .val (.int i13), .val (.int i14), .val (.int i15), s16, s17, s18, s19, s20, s21, s22, s23] [])) _
  refine XS.iload X0.here hx rfl (hb hby at_384) rfl ?_
  show Steps p.tables e below (T0.setTop (mkF m 386 #[s0, s1, s2, s3, s4, s5, s6, s7, s8, s9, .val (.int i10), .val (.int i11), s12, .val (.int i13), .val (.int i14), .val (.int i15), s16, s17, s18, s19, s20, s21, s22, s23] [(.int i10)])) _
  refine XS.iload X0.here hx rfl (hb hby at_386) rfl ?_
  show Steps p.tables e below (T0.setTop (mkF m 388 #[s0, s1, s2, s3, s4, s5, s6, s7, s8, s9, .val (.int i10), .val (.int i11), s12, .val (.int i13), .val (.int i14), .val (.int i15), s16, s17, s18, s19, s20, s21, s22, s23] [(.int i14), (.int i10)])) _
  refine XS.icmpNo X0.here hx rfl (hb hby at_388) rfl (flt hc388).1 ?_
  show Steps p.tables e below (T0.setTop (mkF m 391 #[s0, s1, s2, s3, s4, s5, s6, s7, s8, s9, .val (.int i10), .val (.int i11), s12, .val (.int i13), .val (.int i14), .val (.int i15), s16, s17, s18, s19, s20, s21, s22, s23] [])) _
  refine XS.iload X0.here hx rfl (hb hby at_391) rfl ?_
  show Steps p.tables e below (T0.setTop (mkF m 393 #[s0, s1, s2, s3, s4, s5, s6, s7, s8, s9, .val (.int i10), .val (.int i11), s12, .val (.int i13), .val (.int i14), .val (.int i15), s16, s17, s18, s19, s20, s21, s22, s23] [(.int i10)])) _
  refine XS.iload X0.here hx rfl (hb hby at_393) rfl ?_
  show Steps p.tables e below (T0.setTop (mkF m 395 #[s0, s1, s2, s3, s4, s5, s6, s7, s8, s9, .val (.int i10), .val (.int i11), s12, .val (.int i13), .val (.int i14), .val (.int i15), s16, s17, s18, s19, s20, s21, s22, s23] [(.int i13), (.int i10)])) _
  refine XS.icmpNo X0.here hx rfl (hb hby at_395) rfl (tlt hc395).2.1 ?_
  show Steps p.tables e below (T0.setTop (mkF m 398 #[s0, s1, s2, s3, s4, s5, s6, s7, s8, s9, .val (.int i10), .val (.int i11), s12, .val (.int i13), .val (.int i14), .val (.int i15), s16, s17, s18, s19, s20, s21, s22, s23] [])) _
  refine XS.iload X0.here hx rfl (hb hby at_398) rfl ?_
  show Steps p.tables e below (T0.setTop (mkF m 400 #[s0, s1, s2, s3, s4, s5, s6, s7, s8, s9, .val (.int i10), .val (.int i11), s12, .val (.int i13), .val (.int i14), .val (.int i15), s16, s17, s18, s19, s20, s21, s22, s23] [(.int i15)])) _
  refine XS.iconst X0.here hx rfl (hb hby at_400) ?_
  show Steps p.tables e below (T0.setTop (mkF m 401 #[s0, s1, s2, s3, s4, s5, s6, s7, s8, s9, .val (.int i10), .val (.int i11), s12, .val (.int i13), .val (.int i14), .val (.int i15), s16, s17, s18, s19, s20, s21, s22, s23] [(.int (1 : Int32)), (.int i15)])) _
  refine XS.isub X0.here hx rfl (hb hby at_401) rfl ?_
  show Steps p.tables e below (T0.setTop (mkF m 402 #[s0, s1, s2, s3, s4, s5, s6, s7, s8, s9, .val (.int i10), .val (.int i11), s12, .val (.int i13), .val (.int i14), .val (.int i15), s16, s17, s18, s19, s20, s21, s22, s23] [(.int (i15 - (1 : Int32)))])) _
  refine XS.istore X0.here hx rfl (hb hby at_402) rfl (l' := #[s0, s1, s2, s3, s4, s5, s6, s7, s8, s9, .val (.int i10), .val (.int i11), s12, .val (.int i13), .val (.int i14), .val (.int (i15 - (1 : Int32))), s16, s17, s18, s19, s20, s21, s22, s23]) rfl ?_
  exact kt
theorem own_cs1_len (n : Nat) (cs : List Int32) (h : cs.length = 22) : (own_cs1 n cs).length = 22 := by
  unfold own_cs1
  split
  · simpa using h
  · split
    · simpa using h
    · exact h
theorem own_cs2_len (n : Nat) (cs : List Int32) (h : cs.length = 22) : (own_cs2 n cs).length = 22 := by
  unfold own_cs2
  split
  · simpa using h
  · exact h
theorem own_BC {p : Program} {l : Launch} {e : Env} {s : State} {m : MethodId} {args : Array Value} {below : List Frame} {meth : Method} {c : Code} {T0 : State} {locs : List Loc} {cells slots : Nat} {Z : State} {a0 : Array Value} {h0 : Heap} (i0 i1 : Int32) (s2 s3 s4 s5 s6 : Slot) (o7 : Addr) (kA : ClassId) (cs : List Int32) (nS nQ n0 : Nat) (X0 : Stand p l e room_1 s m args below meth c T0 locs cells slots) (hx : p.tables.exec = Jvm.exec) (hZ : Z.Warmed39 s.vm) (hw : ∀ d ∈ tables_1, d.before a0 Z = true) (hby : c.code = code) (hml : c.maxLocals = 24) (hown : s.vm.findClass "com/example/bandmark/bandmark/PlainDecimalIsCompactPinLaw" = some m.cls) (e0 : T0.heap = h0) (V : Arv Z h0 o7 kA .char (22 : Int32) (cs.map Value.int) (.int (0 : Int32))) (hcs : cs.length = 22) (hS : (i0 &&& (3 : Int32)) = Int32.ofNat nS) (hS4 : nS < 4) (hQ : (i1 &&& (31 : Int32)) = Int32.ofNat nQ) (hQ3 : nQ < 32) (Z0 : n0 ≤ h0.size) (N0 : Fr n0 locs) (hcl : cells ≤ room_1.cells) (hsl : slots ≤ room_1.slots) (g_o7 : n0 ≤ o7) :
    ∃ (T' : State) (locs' : List Loc), Stand p l e room_1 s m args below meth c T' locs' cells slots ∧ Fr n0 locs' ∧ Keep h0 T'.heap [o7] ∧ Arv Z T'.heap o7 kA .char (22 : Int32) ((own_cs2 nQ (own_cs1 nS cs)).map Value.int) (.int (0 : Int32)) ∧
      ∀ target, Steps p.tables e below (T'.setTop (mkF m 318 #[.val (.int i0), .val (.int i1), s2, s3, s4, s5, s6, .val (.ref o7), .val (.int (Int32.ofNat nS)), .val (.int (own_sg nS)), .val (.int (Int32.ofNat nQ)), .val (.int (own_b (own_hp nQ))), .unset, .unset, .unset, .unset, .unset, .unset, .unset, .unset, .unset, .unset, .unset, .unset] [])) target → Steps p.tables e below (T0.setTop (mkF m 236 #[.val (.int i0), .val (.int i1), s2, s3, s4, s5, s6, .val (.ref o7), .unset, .unset, .unset, .unset, .unset, .unset, .unset, .unset, .unset, .unset, .unset, .unset, .unset, .unset, .unset, .unset] [])) target := by
  have hB : ∃ (T' : State) (locs' : List Loc), Stand p l e room_1 s m args below meth c T' locs' cells slots ∧ Fr n0 locs' ∧ Keep h0 T'.heap [o7] ∧ Arv Z T'.heap o7 kA .char (22 : Int32) ((own_cs1 nS cs).map Value.int) (.int (0 : Int32)) ∧
      ∀ target, Steps p.tables e below (T'.setTop (mkF m 280 #[.val (.int i0), .val (.int i1), s2, s3, s4, s5, s6, .val (.ref o7), .val (.int (Int32.ofNat nS)), .val (.int (own_sg nS)), .unset, .unset, .unset, .unset, .unset, .unset, .unset, .unset, .unset, .unset, .unset, .unset, .unset, .unset] [])) target → Steps p.tables e below (T0.setTop (mkF m 236 #[.val (.int i0), .val (.int i1), s2, s3, s4, s5, s6, .val (.ref o7), .unset, .unset, .unset, .unset, .unset, .unset, .unset, .unset, .unset, .unset, .unset, .unset, .unset, .unset, .unset, .unset] [])) target := by
    rcases (by omega : nS = 0 ∨ nS = 1 ∨ nS = 2 ∨ nS = 3) with h | h | h | h
    · subst h
      obtain ⟨T1, L1, X1, N1, K1, V1, st1⟩ := B0 i0 (.val (.int i1)) s2 s3 s4 s5 s6 o7 .unset .unset .unset .unset .unset .unset .unset .unset .unset .unset .unset .unset .unset .unset .unset .unset kA cs n0 X0 hx hZ hw hby hml hown e0 V hcs Z0 N0 hcl hsl One.u One.u g_o7 (by rw [hS]; decide) hS
      rw [hS] at st1
      exact ⟨T1, L1, X1, N1, K1, V1, st1⟩
    · subst h
      obtain ⟨T1, L1, X1, N1, K1, V1, st1⟩ := B1 i0 (.val (.int i1)) s2 s3 s4 s5 s6 o7 .unset .unset .unset .unset .unset .unset .unset .unset .unset .unset .unset .unset .unset .unset .unset .unset kA cs n0 X0 hx hZ hw hby hml hown e0 V hcs Z0 N0 hcl hsl One.u One.u g_o7 (by rw [hS]; decide) (by rw [hS]; decide) hS
      rw [hS] at st1
      exact ⟨T1, L1, X1, N1, K1, V1, st1⟩
    · subst h
      obtain ⟨T1, X1, e1, st1⟩ := B2 i0 (.val (.int i1)) s2 s3 s4 s5 s6 (.val (.ref o7)) .unset .unset .unset .unset .unset .unset .unset .unset .unset .unset .unset .unset .unset .unset .unset .unset X0 hx hZ hw hby hml hown e0 One.u One.u (by rw [hS]; decide) (by rw [hS]; decide) (by rw [hS]; decide)
      rw [hS] at st1
      exact ⟨T1, locs, X1, N0, by rw [e1]; exact Keep.refl _ _, by rw [e1]; exact V, st1⟩
    · subst h
      obtain ⟨T1, X1, e1, st1⟩ := B2 i0 (.val (.int i1)) s2 s3 s4 s5 s6 (.val (.ref o7)) .unset .unset .unset .unset .unset .unset .unset .unset .unset .unset .unset .unset .unset .unset .unset .unset X0 hx hZ hw hby hml hown e0 One.u One.u (by rw [hS]; decide) (by rw [hS]; decide) (by rw [hS]; decide)
      rw [hS] at st1
      exact ⟨T1, locs, X1, N0, by rw [e1]; exact Keep.refl _ _, by rw [e1]; exact V, st1⟩
  obtain ⟨T1, L1, X1, N1, K1, V1, st1⟩ := hB
  have hc1 : (own_cs1 nS cs).length = 22 := own_cs1_len nS cs hcs
  by_cases h1 : nQ < 1
  · obtain ⟨T2, X2, e2, st2⟩ := C0 (.val (.int i0)) i1 s2 s3 s4 s5 s6 (.val (.ref o7)) (.val (.int (Int32.ofNat nS))) (.val (.int (own_sg nS))) .unset .unset .unset .unset .unset .unset .unset .unset .unset .unset .unset .unset .unset .unset X1 hx hZ hw hby hml hown rfl One.u One.u (by rw [hQ]; exact (own_lt nQ 1 hQ3 (by decide)).mpr h1)
    rw [hQ] at st2
    have hh : own_hp nQ = false := by unfold own_hp; exact decide_eq_false (by omega)
    rw [show own_cs2 nQ (own_cs1 nS cs) = own_cs1 nS cs by unfold own_cs2; rw [hh]; rfl, hh]
    exact ⟨T2, L1, X2, N1, by rw [e2]; exact K1, by rw [e2]; exact V1, fun t k => st1 _ (st2 _ k)⟩
  · by_cases h2 : 21 < nQ
    · obtain ⟨T2, X2, e2, st2⟩ := C1 (.val (.int i0)) i1 s2 s3 s4 s5 s6 (.val (.ref o7)) (.val (.int (Int32.ofNat nS))) (.val (.int (own_sg nS))) .unset .unset .unset .unset .unset .unset .unset .unset .unset .unset .unset .unset .unset .unset X1 hx hZ hw hby hml hown rfl One.u One.u (by rw [hQ]; exact fun q => h1 ((own_lt nQ 1 hQ3 (by decide)).mp q)) (by rw [hQ]; exact (own_lt 21 nQ (by decide) hQ3).mpr h2)
      rw [hQ] at st2
      have hh : own_hp nQ = false := by unfold own_hp; exact decide_eq_false (by omega)
      rw [show own_cs2 nQ (own_cs1 nS cs) = own_cs1 nS cs by unfold own_cs2; rw [hh]; rfl, hh]
      exact ⟨T2, L1, X2, N1, by rw [e2]; exact K1, by rw [e2]; exact V1, fun t k => st1 _ (st2 _ k)⟩
    · obtain ⟨T2, L2, X2, N2, K2, V2, st2⟩ := C2 (.val (.int i0)) i1 s2 s3 s4 s5 s6 o7 (.val (.int (Int32.ofNat nS))) (.val (.int (own_sg nS))) .unset .unset .unset .unset .unset .unset .unset .unset .unset .unset .unset .unset .unset .unset kA (own_cs1 nS cs) nQ n0 X1 hx hZ hw hby hml hown rfl V1 hc1 hQ (by omega) (Nat.le_trans Z0 K1.1) N1 hcl hsl One.u One.u g_o7 (by rw [hQ]; exact fun q => h1 ((own_lt nQ 1 hQ3 (by decide)).mp q)) (by rw [hQ]; exact fun q => h2 ((own_lt 21 nQ (by decide) hQ3).mp q)) (by decide)
      rw [hQ] at st2
      have hh : own_hp nQ = true := by unfold own_hp; exact decide_eq_true (by omega)
      rw [show own_cs2 nQ (own_cs1 nS cs) = (own_cs1 nS cs).set nQ 46 by unfold own_cs2; rw [hh]; rfl, hh]
      exact ⟨T2, L2, X2, N2, K1.trans K2 (allS (Or.inl (List.mem_of_getElem? (i := 0) rfl)) all0), V2, fun t k => st1 _ (st2 _ k)⟩
def own_e1 (g : Int32) (a b : Nat) : Nat := if ¬ g = 0 ∧ a = 0 ∧ 0 < b then 1 else 0
def own_e2 (hp : Bool) (q a b : Nat) : Nat := if hp = true ∧ a ≤ q ∧ q < b then 1 else 0
theorem own_EF {p : Program} {l : Launch} {e : Env} {s : State} {m : MethodId} {args : Array Value} {below : List Frame} {meth : Method} {c : Code} {T0 : State} {locs : List Loc} {cells slots : Nat} {Z : State} {a0 : Array Value} {h0 : Heap} (s0 s1 s2 s3 : Slot) (i4 i5 : Int32) (s6 s7 s8 : Slot) (i9 : Int32) (nQ : Nat) (hp : Bool) (s12 : Slot) (a b : Nat) (X0 : Stand p l e room_1 s m args below meth c T0 locs cells slots) (hx : p.tables.exec = Jvm.exec) (hZ : Z.Warmed39 s.vm) (hw : ∀ d ∈ tables_1, d.before a0 Z = true) (hby : c.code = code) (hml : c.maxLocals = 24) (hown : s.vm.findClass "com/example/bandmark/bandmark/PlainDecimalIsCompactPinLaw" = some m.cls) (e0 : T0.heap = h0) (hb_ : (i4 &&& (2147483647 : Int32)) % (23 : Int32) = Int32.ofNat b) (ha_ : (i5 &&& (2147483647 : Int32)) % (Int32.ofNat b + (1 : Int32)) = Int32.ofNat a) (hb3 : b < 23) (hab : a ≤ b) (hQ3 : nQ < 32) (hq1 : hp = true → 1 ≤ nQ) :
    ∃ (T' : State), Stand p l e room_1 s m args below meth c T' locs cells slots ∧ T'.heap = h0 ∧
      ∀ target, Steps p.tables e below (T'.setTop (mkF m 404 #[s0, s1, s2, s3, .val (.int i4), .val (.int i5), s6, s7, s8, .val (.int i9), .val (.int (Int32.ofNat nQ)), .val (.int (own_b hp)), s12, .val (.int (Int32.ofNat b)), .val (.int (Int32.ofNat a)), .val (.int (Int32.ofNat (b - a - own_e1 i9 a b - own_e2 hp nQ a b))), .unset, .unset, .unset, .unset, .unset, .unset, .unset, .unset] [])) target → Steps p.tables e below (T0.setTop (mkF m 329 #[s0, s1, s2, s3, .val (.int i4), .val (.int i5), s6, s7, s8, .val (.int i9), .val (.int (Int32.ofNat nQ)), .val (.int (own_b hp)), s12, .unset, .unset, .unset, .unset, .unset, .unset, .unset, .unset, .unset, .unset, .unset] [])) target := by
  have hnz : ¬ ((i4 &&& (2147483647 : Int32)) % (23 : Int32) + (1 : Int32) = (0 : Int32)) := by
    rw [hb_, own_succ b (by omega)]
    exact fun q => by have := (own_zero (b + 1) (by omega)).mp q; omega
  have hE : ∃ (T' : State), Stand p l e room_1 s m args below meth c T' locs cells slots ∧ T'.heap = h0 ∧
      ∀ target, Steps p.tables e below (T'.setTop (mkF m 379 #[s0, s1, s2, s3, .val (.int i4), .val (.int i5), s6, s7, s8, .val (.int i9), .val (.int (Int32.ofNat nQ)), .val (.int (own_b hp)), s12, .val (.int (Int32.ofNat b)), .val (.int (Int32.ofNat a)), .val (.int (Int32.ofNat (b - a - own_e1 i9 a b))), .unset, .unset, .unset, .unset, .unset, .unset, .unset, .unset] [])) target → Steps p.tables e below (T0.setTop (mkF m 329 #[s0, s1, s2, s3, .val (.int i4), .val (.int i5), s6, s7, s8, .val (.int i9), .val (.int (Int32.ofNat nQ)), .val (.int (own_b hp)), s12, .unset, .unset, .unset, .unset, .unset, .unset, .unset, .unset, .unset, .unset, .unset] [])) target := by
    by_cases h9 : i9 = 0
    · obtain ⟨T1, X1, e1, st1⟩ := E0_ s0 s1 s2 s3 i4 i5 s6 s7 s8 i9 (.val (.int (Int32.ofNat nQ))) (.val (.int (own_b hp))) s12 .unset .unset .unset .unset .unset .unset .unset .unset .unset .unset .unset X0 hx hZ hw hby hml hown e0 One.u One.u One.u (by decide) hnz h9
      rw [hb_, ha_, own_sub a b hab (by omega)] at st1
      rw [show own_e1 i9 a b = 0 from if_neg (fun q => q.1 h9), Nat.sub_zero]
      exact ⟨T1, X1, e1, st1⟩
    · by_cases h0 : a = 0
      · have hz : (i5 &&& (2147483647 : Int32)) % ((i4 &&& (2147483647 : Int32)) % (23 : Int32) + (1 : Int32)) = 0 := by rw [hb_, ha_, h0]; rfl
        by_cases hp0 : 0 < b
        · obtain ⟨T1, X1, e1, st1⟩ := E3_ s0 s1 s2 s3 i4 i5 s6 s7 s8 i9 (.val (.int (Int32.ofNat nQ))) (.val (.int (own_b hp))) s12 .unset .unset .unset .unset .unset .unset .unset .unset .unset .unset .unset X0 hx hZ hw hby hml hown e0 One.u One.u One.u (by decide) hnz h9 hz (by rw [hb_]; exact (own_lt 0 b (by decide) (by omega)).mpr hp0)
          rw [hb_, ha_, own_sub a b hab (by omega)] at st1
          rw [show own_e1 i9 a b = 1 from if_pos ⟨h9, h0, hp0⟩, ← own_sub 1 (b - a) (by omega) (by omega)]
          exact ⟨T1, X1, e1, st1⟩
        · obtain ⟨T1, X1, e1, st1⟩ := E2_ s0 s1 s2 s3 i4 i5 s6 s7 s8 i9 (.val (.int (Int32.ofNat nQ))) (.val (.int (own_b hp))) s12 .unset .unset .unset .unset .unset .unset .unset .unset .unset .unset .unset X0 hx hZ hw hby hml hown e0 One.u One.u One.u (by decide) hnz h9 hz (by rw [hb_]; exact fun q => hp0 ((own_lt 0 b (by decide) (by omega)).mp q))
          rw [hb_, ha_, own_sub a b hab (by omega)] at st1
          rw [show own_e1 i9 a b = 0 from if_neg (fun q => hp0 q.2.2), Nat.sub_zero]
          exact ⟨T1, X1, e1, st1⟩
      · obtain ⟨T1, X1, e1, st1⟩ := E1_ s0 s1 s2 s3 i4 i5 s6 s7 s8 i9 (.val (.int (Int32.ofNat nQ))) (.val (.int (own_b hp))) s12 .unset .unset .unset .unset .unset .unset .unset .unset .unset .unset .unset X0 hx hZ hw hby hml hown e0 One.u One.u One.u (by decide) hnz h9 (by rw [hb_, ha_]; exact fun q => h0 ((own_zero a (by omega)).mp q))
        rw [hb_, ha_, own_sub a b hab (by omega)] at st1
        rw [show own_e1 i9 a b = 0 from if_neg (fun q => h0 q.2.1), Nat.sub_zero]
        exact ⟨T1, X1, e1, st1⟩
  obtain ⟨T1, X1, e1, st1⟩ := hE
  generalize hn : b - a - own_e1 i9 a b = n at st1
  have hn1 : n < 32 := by omega
  have hle : own_e1 i9 a b ≤ 1 := by unfold own_e1; split <;> omega
  cases hp with
  | false =>
    obtain ⟨T2, X2, e2, st2⟩ := F0_ s0 s1 s2 s3 (.val (.int i4)) (.val (.int i5)) s6 s7 s8 (.val (.int i9)) (.val (.int (Int32.ofNat nQ))) (0 : Int32) s12 (.val (.int (Int32.ofNat b))) (.val (.int (Int32.ofNat a))) (.val (.int (Int32.ofNat n))) .unset .unset .unset .unset .unset .unset .unset .unset X1 hx hZ hw hby hml hown e1 rfl
    rw [show own_e2 false nQ a b = 0 from if_neg (fun q => by cases q.1), Nat.sub_zero]
    exact ⟨T2, X2, e2, fun t k => st1 _ (st2 _ k)⟩
  | true =>
    have hq1 := hq1 rfl
    by_cases h1 : nQ < a
    · obtain ⟨T2, X2, e2, st2⟩ := F1_ s0 s1 s2 s3 (.val (.int i4)) (.val (.int i5)) s6 s7 s8 (.val (.int i9)) (Int32.ofNat nQ) (1 : Int32) s12 (.val (.int (Int32.ofNat b))) (Int32.ofNat a) (.val (.int (Int32.ofNat n))) .unset .unset .unset .unset .unset .unset .unset .unset X1 hx hZ hw hby hml hown e1 (by decide) ((own_lt nQ a hQ3 (by omega)).mpr h1)
      rw [show own_e2 true nQ a b = 0 from if_neg (fun q => by omega), Nat.sub_zero]
      exact ⟨T2, X2, e2, fun t k => st1 _ (st2 _ k)⟩
    · by_cases h2 : nQ < b
      · obtain ⟨T2, X2, e2, st2⟩ := F3_ s0 s1 s2 s3 (.val (.int i4)) (.val (.int i5)) s6 s7 s8 (.val (.int i9)) (Int32.ofNat nQ) (1 : Int32) s12 (Int32.ofNat b) (Int32.ofNat a) (Int32.ofNat n) .unset .unset .unset .unset .unset .unset .unset .unset X1 hx hZ hw hby hml hown e1 (by decide) (fun q => h1 ((own_lt nQ a hQ3 (by omega)).mp q)) ((own_lt nQ b hQ3 (by omega)).mpr h2)
        have h1n : 1 ≤ n := by
          rcases Nat.eq_zero_or_pos (own_e1 i9 a b) with z | z
          · omega
          · have : a = 0 := by
              unfold own_e1 at z; split at z
              · rename_i q; exact q.2.1
              · omega
            omega
        rw [show own_e2 true nQ a b = 1 from if_pos ⟨rfl, by omega, h2⟩, ← own_sub 1 n h1n hn1]
        exact ⟨T2, X2, e2, fun t k => st1 _ (st2 _ k)⟩
      · obtain ⟨T2, X2, e2, st2⟩ := F2_ s0 s1 s2 s3 (.val (.int i4)) (.val (.int i5)) s6 s7 s8 (.val (.int i9)) (Int32.ofNat nQ) (1 : Int32) s12 (Int32.ofNat b) (Int32.ofNat a) (.val (.int (Int32.ofNat n))) .unset .unset .unset .unset .unset .unset .unset .unset X1 hx hZ hw hby hml hown e1 (by decide) (fun q => h1 ((own_lt nQ a hQ3 (by omega)).mp q)) (fun q => h2 ((own_lt nQ b hQ3 (by omega)).mp q))
        rw [show own_e2 true nQ a b = 0 from if_neg (fun q => by omega), Nat.sub_zero]
        exact ⟨T2, X2, e2, fun t k => st1 _ (st2 _ k)⟩
theorem pd_0_1 : parseMethodDescriptor "([C)V" = some ⟨[(.array .char)], none⟩ := by decide +kernel
theorem os0_327_own_D {s0 : Slot} {s1 : Slot} {s2 : Slot} {s3 : Slot} {s4 : Slot} {s5 : Slot} {s6 : Slot} {z7 : Value} {s8 : Slot} {s9 : Slot} {s10 : Slot} {s11 : Slot} {s12 : Slot} {s13 : Slot} {s14 : Slot} {s15 : Slot} {s16 : Slot} {s17 : Slot} {s18 : Slot} {s19 : Slot} {s20 : Slot} {s21 : Slot} {s22 : Slot} {s23 : Slot} {v : Addr} (h : One s12) : storeLocals #[s0, s1, s2, s3, s4, s5, s6, .val z7, s8, s9, s10, s11, s12, s13, s14, s15, s16, s17, s18, s19, s20, s21, s22, s23] 12 (.ref v) = some #[s0, s1, s2, s3, s4, s5, s6, .val z7, s8, s9, s10, s11, .val (.ref v), s13, s14, s15, s16, s17, s18, s19, s20, s21, s22, s23] := by
  rcases h with rfl | ⟨w, rfl, hw⟩
  · rfl
  · cases w <;> first | rfl | (simp [Value.category] at hw)
set_option maxRecDepth 65536 in
set_option maxHeartbeats 40000000 in
theorem own_D {p : Program} {l : Launch} {e : Env} {s : State} {m : MethodId} {args : Array Value} {below : List Frame} {meth : Method} {c : Code} {T0 : State} {locs : List Loc} {Z : State} {a0 : Array Value} {h0 : Heap} (s0 : Slot) (s1 : Slot) (s2 : Slot) (s3 : Slot) (s4 : Slot) (s5 : Slot) (s6 : Slot) (o7 : Addr) (s8 : Slot) (s9 : Slot) (s10 : Slot) (s11 : Slot) (s12 : Slot) (s13 : Slot) (s14 : Slot) (s15 : Slot) (s16 : Slot) (s17 : Slot) (s18 : Slot) (s19 : Slot) (s20 : Slot) (s21 : Slot) (s22 : Slot) (s23 : Slot) (kA : ClassId) (cs : List Int32) (G1 : Int32) (fm : Value) (n0 : Nat)
    (X0 : Stand p l e room_1 s m args below meth c T0 locs 1 22) (hx : p.tables.exec = Jvm.exec) (hZ : Z.Warmed39 s.vm) (hw : ∀ d ∈ tables_1, d.before a0 Z = true) (hby : c.code = code) (hml : c.maxLocals = 24) (hown : s.vm.findClass "com/example/bandmark/bandmark/PlainDecimalIsCompactPinLaw" = some m.cls) (e0 : T0.heap = h0) (O0 : Old Z n0 h0) (O2 : Sta Z Z.heap "java/lang/String" "COMPACT_STRINGS" "Z" (.int G1)) (P5 : ¬ (G1 = (0 : Int32))) (O3 : Sta Z Z.heap "jdk/internal/util/Preconditions" "SIOOBE_FORMATTER" "Ljava/util/function/BiFunction;" fm) (rf : fm.isRef = true) (V : Arv Z h0 o7 kA .char (22 : Int32) (cs.map Value.int) (.int (0 : Int32))) (hcs : cs.length = 22) (hp : ∀ c ∈ cs, ¬ c < 0 ∧ ¬ (255 : Int32) < c) (Z0 : n0 ≤ h0.size) (N0 : Fr n0 locs) (hs12 : One s12) :
    ∃ (T' : State) (locs' : List Loc) (b7 : Addr), Stand p l e room_1 s m args below meth c T' locs' 3 48 ∧ Fr n0 locs' ∧ Keep h0 T'.heap [] ∧ own_St Z T'.heap b7 cs ∧
      ∀ target, Steps p.tables e below (T'.setTop (mkF m 329 #[s0, s1, s2, s3, s4, s5, s6, .val (.ref o7), s8, s9, s10, s11, .val (.ref b7), s13, s14, s15, s16, s17, s18, s19, s20, s21, s22, s23] [])) target → Steps p.tables e below (T0.setTop (mkF m 318 #[s0, s1, s2, s3, s4, s5, s6, .val (.ref o7), s8, s9, s10, s11, s12, s13, s14, s15, s16, s17, s18, s19, s20, s21, s22, s23] [])) target := by
  obtain ⟨T7, h7, X7, e7, E7, A7, D7, -, st7⟩ := newO X0 hx hZ hown (hw _ (List.mem_of_getElem? (i := 7) rfl)) (hw _ (List.mem_of_getElem? (i := 8) rfl)) (hw _ (List.mem_of_getElem? (i := 9) rfl)) e0 (g := (mkF m 318 #[s0, s1, s2, s3, s4, s5, s6, .val (.ref o7), s8, s9, s10, s11, s12, s13, s14, s15, s16, s17, s18, s19, s20, s21, s22, s23] [])) rfl (hb hby at_318) (by decide) (by decide)
  obtain ⟨b7, g7⟩ : ∃ z, z = h0.size := ⟨_, rfl⟩
  rw [← g7] at A7 D7 st7
  have F_coder_b7 : Fld Z h7 b7 "java/lang/String" "coder" "B" (.int (0 : Int32)) := D7 (Or.inr (hw _ (List.mem_of_getElem? (i := 33) rfl))) (ty := .byte) (by decide)
  have F_value_b7 : Fld Z h7 b7 "java/lang/String" "value" "[B" .null := D7 (Or.inr (hw _ (List.mem_of_getElem? (i := 35) rfl))) (ty := (.array .byte)) (by decide)
  have E_b7 := A7
  have g_b7 : n0 ≤ b7 := Nat.le_trans Z0 (Nat.le_of_eq g7.symm)
  have sz_b7 : h0.size ≤ b7 := (Nat.le_trans (Keep.refl h0 []).1 (Nat.le_of_eq g7.symm))
  have K7 : Keep h0 h7 [] := (Keep.refl h0 []).ext E7
  obtain ⟨_, _, ⟨T8, L8, k8, n8⟩, -, X8, ⟨Lc8, hQ8, l8, y8, z8⟩, st8⟩ := X7.specialBack hx (y := (⟨"java/lang/String", "<init>", "([C)V"⟩ : MethodName)) rfl hown (mvT hZ (hw _ (List.mem_of_getElem? (i := 10) rfl))) (mvT hZ (hw _ (List.mem_of_getElem? (i := 11) rfl))) (mvT hZ (hw _ (List.mem_of_getElem? (i := 12) rfl))) (by decide) (StrChars.Road.backV (W := 1) hZ (fun d hd => hw d ((by decide +kernel : ∀ d ∈ StrChars.Road.words, d ∈ tables_1) d hd)) (kI := 4) (hw _ (List.mem_of_getElem? (i := 8) rfl)) (cs := cs) (bs := cs.map (fun c => c.toInt8.toInt32)) (n := 22) g_b7 (Nat.le_trans Z0 K7.1) E_b7 F_value_b7 F_coder_b7 (V.ext E7) ((O2.ext O0.2).ext E7) P5 hcs rfl (by decide) (by decide) hp rfl (by decide) (by decide)) (g := (mkF m 324 #[s0, s1, s2, s3, s4, s5, s6, .val (.ref o7), s8, s9, s10, s11, s12, s13, s14, s15, s16, s17, s18, s19, s20, s21, s22, s23] [(.ref o7), (.ref b7), (.ref b7)])) rfl (by rw [hml]; rfl) (Steps.refl _) (a := b7) (argsL := [(.ref o7)]) (rest := [(.ref b7)]) (lenOf pd_0_1 rfl) rfl (by show 2 * 0 + _ ≤ _; exact Nat.le_of_eq rfl) (hb hby at_324) (fun _ _ => ⟨rfl, e7, (by decide : 2 + 1 ≤ _), (by decide : 26 + 22 ≤ _)⟩)
  dsimp only [Pt.U, Pt.locs, Pt.cells, Pt.slots] at X8 l8 y8 z8 st8 hQ8
  subst l8 y8 z8
  obtain ⟨rfl, N8q, K8, E8, C8, t8, kb8, u1, u2, u3, V8, A8⟩ := hQ8
  have N8 := Fr.app N0 N8q
  refine ⟨T8, _, b7, X8, N8, K7.trans K8 (allS (Or.inr sz_b7) all0), ⟨t8, kb8, E8, V8, C8, by rw [hcs]; exact A8, hp, by omega⟩, fun target kt => ?_⟩
  show Steps p.tables e below (T0.setTop (mkF m 318 #[s0, s1, s2, s3, s4, s5, s6, .val (.ref o7), s8, s9, s10, s11, s12, s13, s14, s15, s16, s17, s18, s19, s20, s21, s22, s23] [])) _
  refine st7 _ ?_
  show Steps p.tables e below (T7.setTop (mkF m 321 #[s0, s1, s2, s3, s4, s5, s6, .val (.ref o7), s8, s9, s10, s11, s12, s13, s14, s15, s16, s17, s18, s19, s20, s21, s22, s23] [(.ref b7)])) _
  refine XS.dup X7.here hx rfl (hb hby at_321) rfl rfl ?_
  show Steps p.tables e below (T7.setTop (mkF m 322 #[s0, s1, s2, s3, s4, s5, s6, .val (.ref o7), s8, s9, s10, s11, s12, s13, s14, s15, s16, s17, s18, s19, s20, s21, s22, s23] [(.ref b7), (.ref b7)])) _
  refine XS.aload X7.here hx rfl (hb hby at_322) rfl rfl ?_
  show Steps p.tables e below (T7.setTop (mkF m 324 #[s0, s1, s2, s3, s4, s5, s6, .val (.ref o7), s8, s9, s10, s11, s12, s13, s14, s15, s16, s17, s18, s19, s20, s21, s22, s23] [(.ref o7), (.ref b7), (.ref b7)])) _
  refine st8.trans ?_
  show Steps p.tables e below (T8.setTop (mkF m 327 #[s0, s1, s2, s3, s4, s5, s6, .val (.ref o7), s8, s9, s10, s11, s12, s13, s14, s15, s16, s17, s18, s19, s20, s21, s22, s23] [(.ref b7)])) _
  refine XS.astore X8.here hx rfl (hb hby at_327) rfl rfl (l' := #[s0, s1, s2, s3, s4, s5, s6, .val (.ref o7), s8, s9, s10, s11, .val (.ref b7), s13, s14, s15, s16, s17, s18, s19, s20, s21, s22, s23]) (os0_327_own_D hs12) ?_
  exact kt
theorem pd_0_7 : parseMethodDescriptor "(C)Ljava/lang/String;" = some ⟨[.char], some (.object "java/lang/String")⟩ := by decide +kernel
theorem pd_0_3 : parseMethodDescriptor "()V" = some ⟨[], none⟩ := by decide +kernel
theorem pd_0_11 : parseMethodDescriptor "(Ljava/lang/String;II)Z" = some ⟨[(.object "java/lang/String"), .int, .int], some .boolean⟩ := by decide +kernel
theorem os0_411_own_G {s0 : Slot} {s1 : Slot} {s2 : Slot} {s3 : Slot} {s4 : Slot} {s5 : Slot} {z6 : Value} {s7 : Slot} {s8 : Slot} {s9 : Slot} {s10 : Slot} {s11 : Slot} {z12 : Value} {z13 : Value} {z14 : Value} {s15 : Slot} {s16 : Slot} {s17 : Slot} {s18 : Slot} {s19 : Slot} {s20 : Slot} {s21 : Slot} {s22 : Slot} {s23 : Slot} {v : Int32} (h : One s16) : storeLocals #[s0, s1, s2, s3, s4, s5, .val z6, s7, s8, s9, s10, s11, .val z12, .val z13, .val z14, s15, s16, s17, s18, s19, s20, s21, s22, s23] 16 (.int v) = some #[s0, s1, s2, s3, s4, s5, .val z6, s7, s8, s9, s10, s11, .val z12, .val z13, .val z14, s15, .val (.int v), s17, s18, s19, s20, s21, s22, s23] := by
  rcases h with rfl | ⟨w, rfl, hw⟩
  · rfl
  · cases w <;> first | rfl | (simp [Value.category] at hw)
theorem os0_418_own_G {s0 : Slot} {s1 : Slot} {s2 : Slot} {s3 : Slot} {s4 : Slot} {s5 : Slot} {z6 : Value} {s7 : Slot} {s8 : Slot} {s9 : Slot} {s10 : Slot} {s11 : Slot} {z12 : Value} {z13 : Value} {z14 : Value} {s15 : Slot} {z16 : Value} {s17 : Slot} {s18 : Slot} {s19 : Slot} {s20 : Slot} {s21 : Slot} {s22 : Slot} {s23 : Slot} {v : Addr} (h : One s17) : storeLocals #[s0, s1, s2, s3, s4, s5, .val z6, s7, s8, s9, s10, s11, .val z12, .val z13, .val z14, s15, .val z16, s17, s18, s19, s20, s21, s22, s23] 17 (.ref v) = some #[s0, s1, s2, s3, s4, s5, .val z6, s7, s8, s9, s10, s11, .val z12, .val z13, .val z14, s15, .val z16, .val (.ref v), s18, s19, s20, s21, s22, s23] := by
  rcases h with rfl | ⟨w, rfl, hw⟩
  · rfl
  · cases w <;> first | rfl | (simp [Value.category] at hw)
theorem os0_427_own_G {s0 : Slot} {s1 : Slot} {s2 : Slot} {s3 : Slot} {s4 : Slot} {s5 : Slot} {z6 : Value} {s7 : Slot} {s8 : Slot} {s9 : Slot} {s10 : Slot} {s11 : Slot} {z12 : Value} {z13 : Value} {z14 : Value} {s15 : Slot} {z16 : Value} {z17 : Value} {s18 : Slot} {s19 : Slot} {s20 : Slot} {s21 : Slot} {s22 : Slot} {s23 : Slot} {v : Addr} (h : One s18) : storeLocals #[s0, s1, s2, s3, s4, s5, .val z6, s7, s8, s9, s10, s11, .val z12, .val z13, .val z14, s15, .val z16, .val z17, s18, s19, s20, s21, s22, s23] 18 (.ref v) = some #[s0, s1, s2, s3, s4, s5, .val z6, s7, s8, s9, s10, s11, .val z12, .val z13, .val z14, s15, .val z16, .val z17, .val (.ref v), s19, s20, s21, s22, s23] := by
  rcases h with rfl | ⟨w, rfl, hw⟩
  · rfl
  · cases w <;> first | rfl | (simp [Value.category] at hw)
theorem os0_440_own_G {s0 : Slot} {s1 : Slot} {s2 : Slot} {s3 : Slot} {s4 : Slot} {s5 : Slot} {z6 : Value} {s7 : Slot} {s8 : Slot} {s9 : Slot} {s10 : Slot} {s11 : Slot} {z12 : Value} {z13 : Value} {z14 : Value} {s15 : Slot} {z16 : Value} {z17 : Value} {z18 : Value} {s19 : Slot} {s20 : Slot} {s21 : Slot} {s22 : Slot} {s23 : Slot} {v : Int32} (h : One s19) : storeLocals #[s0, s1, s2, s3, s4, s5, .val z6, s7, s8, s9, s10, s11, .val z12, .val z13, .val z14, s15, .val z16, .val z17, .val z18, s19, s20, s21, s22, s23] 19 (.int v) = some #[s0, s1, s2, s3, s4, s5, .val z6, s7, s8, s9, s10, s11, .val z12, .val z13, .val z14, s15, .val z16, .val z17, .val z18, .val (.int v), s20, s21, s22, s23] := by
  rcases h with rfl | ⟨w, rfl, hw⟩
  · rfl
  · cases w <;> first | rfl | (simp [Value.category] at hw)
theorem own_char_id (x : Int32) : nar .char (x.toUInt32.toUInt16.toUInt32.toInt32) = x.toUInt32.toUInt16.toUInt32.toInt32 := by
  show (_ : Int32).toUInt32.toUInt16.toUInt32.toInt32 = _
  simp only [UInt32.toUInt32_toInt32, UInt16.toUInt16_toUInt32]
theorem own_one {Z : State} {h : Heap} {t : Addr} {k : ClassId} (i6 : Int32) (A : Arv Z h t k .byte (1 : Int32) [.int (nar .byte (((i6 &&& (255 : Int32)).toUInt32.toUInt16.toUInt32.toInt32).toInt8.toInt32))] (.int (0 : Int32))) : Arv Z h t k .byte (Int32.ofNat [((i6 &&& (255 : Int32)).toUInt32.toUInt16.toUInt32.toInt32)].length) (([((i6 &&& (255 : Int32)).toUInt32.toUInt16.toUInt32.toInt32)].map StrChars.lo8).map Value.int) (.int 0) := by
  have e : nar .byte (((i6 &&& (255 : Int32)).toUInt32.toUInt16.toUInt32.toInt32).toInt8.toInt32) = StrChars.lo8 ((i6 &&& (255 : Int32)).toUInt32.toUInt16.toUInt32.toInt32) := by
    show (_ : Int32).toInt8.toInt32 = _
    rw [Int8.toInt8_toInt32]; rfl
  rw [e] at A
  exact A
set_option maxRecDepth 65536 in
set_option maxHeartbeats 40000000 in
theorem own_G {p : Program} {l : Launch} {e : Env} {s : State} {m : MethodId} {args : Array Value} {below : List Frame} {meth : Method} {c : Code} {T0 : State} {locs : List Loc} {Z : State} {a0 : Array Value} {h0 : Heap} (s0 : Slot) (s1 : Slot) (s2 : Slot) (s3 : Slot) (s4 : Slot) (s5 : Slot) (i6 : Int32) (s7 : Slot) (s8 : Slot) (s9 : Slot) (s10 : Slot) (s11 : Slot) (o12 : Addr) (i13 : Int32) (i14 : Int32) (s15 : Slot) (s16 : Slot) (s17 : Slot) (s18 : Slot) (s19 : Slot) (s20 : Slot) (s21 : Slot) (s22 : Slot) (s23 : Slot) (cs : List Int32) (a b : Nat) (G1 : Int32) (fm : Value) (n0 : Nat)
    (X0 : Stand p l e room_1 s m args below meth c T0 locs 3 48) (hx : p.tables.exec = Jvm.exec) (hZ : Z.Warmed39 s.vm) (hw : ∀ d ∈ tables_1, d.before a0 Z = true) (hby : c.code = code) (hml : c.maxLocals = 24) (hown : s.vm.findClass "com/example/bandmark/bandmark/PlainDecimalIsCompactPinLaw" = some m.cls) (e0 : T0.heap = h0) (O0 : Old Z n0 h0) (O2 : Sta Z Z.heap "java/lang/String" "COMPACT_STRINGS" "Z" (.int G1)) (P5 : ¬ (G1 = (0 : Int32))) (O3 : Sta Z Z.heap "jdk/internal/util/Preconditions" "SIOOBE_FORMATTER" "Ljava/util/function/BiFunction;" fm) (rf : fm.isRef = true) (S12 : own_St Z h0 o12 cs) (ha_ : i14 = Int32.ofNat a) (hb_ : i13 = Int32.ofNat b) (hab : a ≤ b) (hbc : b ≤ cs.length) (Z0 : n0 ≤ h0.size) (N0 : Fr n0 locs) (hs16 : One s16) (hs17 : One s17) (hs18 : One s18) (hs19 : One s19) :
    ∃ (T' : State) (locs' : List Loc) (b8 : Addr), Stand p l e room_1 s m args below meth c T' locs' 6 59 ∧ Fr n0 locs' ∧ Keep h0 T'.heap [] ∧ n0 ≤ b8 ∧ own_St Z T'.heap h0.size [((i6 &&& (255 : Int32)).toUInt32.toUInt16.toUInt32.toInt32)] ∧ own_PD Z T'.heap b8 (own_nd (own_read (fun j => cs.getD j 0) a b) 0) ∧
      ∀ target, Steps p.tables e below (T'.setTop (mkF m 442 #[s0, s1, s2, s3, s4, s5, .val (.int i6), s7, s8, s9, s10, s11, .val (.ref o12), .val (.int i13), .val (.int i14), s15, .val (.int ((i6 &&& (255 : Int32)).toUInt32.toUInt16.toUInt32.toInt32)), .val (.ref h0.size), .val (.ref b8), .val (.int (own_r (own_read (fun j => cs.getD j 0) a b))), s20, s21, s22, s23] [])) target → Steps p.tables e below (T0.setTop (mkF m 404 #[s0, s1, s2, s3, s4, s5, .val (.int i6), s7, s8, s9, s10, s11, .val (.ref o12), .val (.int i13), .val (.int i14), s15, s16, s17, s18, s19, s20, s21, s22, s23] [])) target := by
  obtain ⟨_, _, ⟨T7, L7, k7, n7⟩, -, X7, ⟨Lc7, hQ7, l7, y7, z7⟩, st7⟩ := Jvm.LawKit.callS X0 hx (y := (⟨"java/lang/String", "valueOf", "(C)Ljava/lang/String;"⟩ : MethodName)) hown (mvT hZ (hw _ (List.mem_of_getElem? (i := 37) rfl))) (mvT hZ (hw _ (List.mem_of_getElem? (i := 38) rfl))) (mvT hZ (hw _ (List.mem_of_getElem? (i := 9) rfl))) (mvT hZ (hw _ (List.mem_of_getElem? (i := 39) rfl))) (by decide) (backOf (W := 0) (r8 l Z a0 hw [] ((i6 &&& (255 : Int32)).toUInt32.toUInt16.toUInt32.toInt32) G1 h0 n0 Z0 (O2.ext O0.2) P5 (by have q := (own_chars i6).2; rw [own_char_id] at q; exact q)) hZ (hw _ (List.mem_of_getElem? (i := 39) rfl)) (hw _ (List.mem_of_getElem? (i := 9) rfl)) (by decide) (by decide)) (g := (mkF m 415 #[s0, s1, s2, s3, s4, s5, .val (.int i6), s7, s8, s9, s10, s11, .val (.ref o12), .val (.int i13), .val (.int i14), s15, .val (.int ((i6 &&& (255 : Int32)).toUInt32.toUInt16.toUInt32.toInt32)), s17, s18, s19, s20, s21, s22, s23] [(.int ((i6 &&& (255 : Int32)).toUInt32.toUInt16.toUInt32.toInt32))])) rfl (by rw [hml]; rfl) (argsL := [(.int ((i6 &&& (255 : Int32)).toUInt32.toUInt16.toUInt32.toInt32))]) (rest := []) (lenOf pd_0_7 rfl) rfl (by show 2 * 0 + _ ≤ _; exact Nat.le_of_eq rfl) (hb hby at_415) (fun _ _ => ⟨rfl, e0, (by decide : 3 + 2 ≤ _), (by decide : 48 + 5 ≤ _)⟩)
  dsimp only [Pt.U, Pt.locs, Pt.cells, Pt.slots] at X7 l7 y7 z7 st7 hQ7
  subst l7 y7 z7
  obtain ⟨rfl, N7q, Ka, Ea, Ca, ta, ka, Va, Aa⟩ := hQ7
  have N7 := Fr.app N0 N7q
  obtain ⟨T8, h8, X8, e8, E8, A8, D8, -, st8⟩ := newO X7 hx hZ hown (hw _ (List.mem_of_getElem? (i := 51) rfl)) (hw _ (List.mem_of_getElem? (i := 52) rfl)) (hw _ (List.mem_of_getElem? (i := 53) rfl)) rfl (g := (mkF m 420 #[s0, s1, s2, s3, s4, s5, .val (.int i6), s7, s8, s9, s10, s11, .val (.ref o12), .val (.int i13), .val (.int i14), s15, .val (.int ((i6 &&& (255 : Int32)).toUInt32.toUInt16.toUInt32.toInt32)), .val (.ref h0.size), s18, s19, s20, s21, s22, s23] [])) rfl (hb hby at_420) (by decide) (by decide)
  obtain ⟨b8, g8⟩ : ∃ z, z = T7.heap.size := ⟨_, rfl⟩
  rw [← g8] at A8 D8 st8
  have F_digits_b8 : Fld Z h8 b8 "com/example/bandmark/bandmark/PlainDecimal" "digits" "I" (.int (0 : Int32)) := D8 (Or.inl (hw _ (List.mem_of_getElem? (i := 69) rfl))) (ty := .int) (by decide)
  have F_text_b8 : Fld Z h8 b8 "com/example/bandmark/bandmark/PlainDecimal" "text" "Ljava/lang/String;" .null := D8 (Or.inl (hw _ (List.mem_of_getElem? (i := 93) rfl))) (ty := (.object "java/lang/String")) (by decide)
  have F_from_b8 : Fld Z h8 b8 "com/example/bandmark/bandmark/PlainDecimal" "from" "I" (.int (0 : Int32)) := D8 (Or.inl (hw _ (List.mem_of_getElem? (i := 95) rfl))) (ty := .int) (by decide)
  have F_to_b8 : Fld Z h8 b8 "com/example/bandmark/bandmark/PlainDecimal" "to" "I" (.int (0 : Int32)) := D8 (Or.inl (hw _ (List.mem_of_getElem? (i := 97) rfl))) (ty := .int) (by decide)
  have F_unscaled_b8 : Fld Z h8 b8 "com/example/bandmark/bandmark/PlainDecimal" "unscaled" "J" (.long (0 : Int64)) := D8 (Or.inl (hw _ (List.mem_of_getElem? (i := 99) rfl))) (ty := .long) (by decide)
  have F_scale_b8 : Fld Z h8 b8 "com/example/bandmark/bandmark/PlainDecimal" "scale" "I" (.int (0 : Int32)) := D8 (Or.inl (hw _ (List.mem_of_getElem? (i := 101) rfl))) (ty := .int) (by decide)
  have E_b8 := A8
  have g_b8 : n0 ≤ b8 := Nat.le_trans (Nat.le_trans Z0 Ka.1) (Nat.le_of_eq g8.symm)
  have sz_b8 : h0.size ≤ b8 := (Nat.le_trans Ka.1 (Nat.le_of_eq g8.symm))
  have K8 : Keep h0 h8 [] := Ka.ext E8
  have O8 : Old Z n0 h8 := (O0.keep Ka all0).ext E8
  have TX : own_Tx Z h8 o12 cs := own_St.tx (S12.keep0 K8) (O2.ext O8.2) P5 (O3.ext O8.2) rf
  have HP : own_PD Z h8 b8 0 := ⟨E_b8, ⟨_, F_text_b8⟩, ⟨_, F_from_b8⟩, ⟨_, F_to_b8⟩, ⟨_, F_unscaled_b8⟩, ⟨_, F_scale_b8⟩, F_digits_b8⟩
  have S17 : own_St Z h8 h0.size [((i6 &&& (255 : Int32)).toUInt32.toUInt16.toUInt32.toInt32)] := ⟨ta, ka, Ea.ext E8, Va.ext E8, Ca.ext E8, own_one i6 (Aa.ext E8), (fun c hc => by rw [List.mem_singleton.mp hc]; have q := own_chars i6; rw [own_char_id] at q; exact q), Nat.le_of_ble_eq_true rfl⟩
  obtain ⟨_, _, ⟨T9, L9, k9, n9⟩, -, X9, ⟨Lc9, hQ9, l9, y9, z9⟩, st9⟩ := X8.specialBack hx (y := (⟨"com/example/bandmark/bandmark/PlainDecimal", "<init>", "()V"⟩ : MethodName)) rfl hown (mvT hZ (hw _ (List.mem_of_getElem? (i := 54) rfl))) (mvT hZ (hw _ (List.mem_of_getElem? (i := 55) rfl))) (mvT hZ (hw _ (List.mem_of_getElem? (i := 56) rfl))) (by decide) (backOf (W := 1) (r12 l Z a0 hw [] b8 h8 n0 (Nat.le_trans Z0 K8.1)) hZ (hw _ (List.mem_of_getElem? (i := 56) rfl)) (hw _ (List.mem_of_getElem? (i := 53) rfl)) (by decide) (by decide)) (g := (mkF m 424 #[s0, s1, s2, s3, s4, s5, .val (.int i6), s7, s8, s9, s10, s11, .val (.ref o12), .val (.int i13), .val (.int i14), s15, .val (.int ((i6 &&& (255 : Int32)).toUInt32.toUInt16.toUInt32.toInt32)), .val (.ref h0.size), s18, s19, s20, s21, s22, s23] [(.ref b8), (.ref b8)])) rfl (by rw [hml]; rfl) (Steps.refl _) (a := b8) (argsL := []) (rest := [(.ref b8)]) (lenOf pd_0_3 rfl) rfl (by show 2 * 0 + _ ≤ _; exact Nat.le_of_eq rfl) (hb hby at_424) (fun _ _ => ⟨rfl, e8, (by decide : 6 + 0 ≤ _), (by decide : 59 + 0 ≤ _)⟩)
  dsimp only [Pt.U, Pt.locs, Pt.cells, Pt.slots] at X9 l9 y9 z9 st9 hQ9
  subst l9 y9 z9
  obtain ⟨rfl, N9q, e9⟩ := hQ9
  have N9 := Fr.app N7 N9q
  obtain ⟨cq10, kq10, q10a, q10b, q10c⟩ := isOf hZ e9 E_b8
  obtain ⟨_, _, ⟨T10, L10, k10, n10⟩, -, X10, ⟨Lc10, hQ10, l10, y10, z10⟩, st10⟩ := X9.virtualBack hx (y := (⟨"com/example/bandmark/bandmark/PlainDecimal", "read", "(Ljava/lang/String;II)Z"⟩ : MethodName)) (z := (⟨"com/example/bandmark/bandmark/PlainDecimal", "read", "(Ljava/lang/String;II)Z"⟩ : MethodName)) hown (mvT hZ (hw _ (List.mem_of_getElem? (i := 58) rfl))) (mvT hZ (hw _ (List.mem_of_getElem? (i := 59) rfl))) (notFace_of_selects (args := #[]) (mvT hZ (hw _ (List.mem_of_getElem? (i := 61) rfl)))) (mvT hZ (hw _ (List.mem_of_getElem? (i := 61) rfl))) (mvT hZ (hw _ (List.mem_of_getElem? (i := 60) rfl))) (by decide) (backOf (W := 0) (r13 l Z a0 hw [] b8 o12 i14 i13 cs a b 0 h8 n0 (Nat.le_trans Z0 K8.1) ha_ hb_ hab hbc TX HP g_b8) hZ (hw _ (List.mem_of_getElem? (i := 62) rfl)) (hw _ (List.mem_of_getElem? (i := 53) rfl)) (by decide) (by decide)) q10a q10c (g := (mkF m 437 #[s0, s1, s2, s3, s4, s5, .val (.int i6), s7, s8, s9, s10, s11, .val (.ref o12), .val (.int i13), .val (.int i14), s15, .val (.int ((i6 &&& (255 : Int32)).toUInt32.toUInt16.toUInt32.toInt32)), .val (.ref h0.size), .val (.ref b8), s19, s20, s21, s22, s23] [(.int i13), (.int i14), (.ref o12), (.ref b8)])) rfl (by rw [hml]; rfl) (Steps.refl _) (argsL := [(.ref o12), (.int i14), (.int i13)]) (rest := []) (lenOf pd_0_11 rfl) rfl (by show 2 * 0 + _ ≤ _; exact Nat.le_of_eq rfl) (hb hby at_437) (fun _ _ => ⟨rfl, e9, (by decide : 6 + 0 ≤ _), (by decide : 59 + 0 ≤ _)⟩)
  dsimp only [Pt.U, Pt.locs, Pt.cells, Pt.slots] at X10 l10 y10 z10 st10 hQ10
  subst l10 y10 z10
  obtain ⟨rfl, N10q, Kr, Pr⟩ := hQ10
  have N10 := Fr.app N9 N10q
  refine ⟨T10, _, b8, X10, N10, K8.trans Kr (allS (Or.inr sz_b8) all0), g_b8, S17.keep1 hw Kr E_b8, Pr, fun target kt => ?_⟩
  show Steps p.tables e below (T0.setTop (mkF m 404 #[s0, s1, s2, s3, s4, s5, .val (.int i6), s7, s8, s9, s10, s11, .val (.ref o12), .val (.int i13), .val (.int i14), s15, s16, s17, s18, s19, s20, s21, s22, s23] [])) _
  refine XS.iload X0.here hx rfl (hb hby at_404) rfl ?_
  show Steps p.tables e below (T0.setTop (mkF m 406 #[s0, s1, s2, s3, s4, s5, .val (.int i6), s7, s8, s9, s10, s11, .val (.ref o12), .val (.int i13), .val (.int i14), s15, s16, s17, s18, s19, s20, s21, s22, s23] [(.int i6)])) _
  refine XS.sipush X0.here hx rfl (hb hby at_406) ?_
  show Steps p.tables e below (T0.setTop (mkF m 409 #[s0, s1, s2, s3, s4, s5, .val (.int i6), s7, s8, s9, s10, s11, .val (.ref o12), .val (.int i13), .val (.int i14), s15, s16, s17, s18, s19, s20, s21, s22, s23] [(.int (255 : Int32)), (.int i6)])) _
  refine XS.iand X0.here hx rfl (hb hby at_409) rfl ?_
  show Steps p.tables e below (T0.setTop (mkF m 410 #[s0, s1, s2, s3, s4, s5, .val (.int i6), s7, s8, s9, s10, s11, .val (.ref o12), .val (.int i13), .val (.int i14), s15, s16, s17, s18, s19, s20, s21, s22, s23] [(.int (i6 &&& (255 : Int32)))])) _
  refine XS.i2c X0.here hx rfl (hb hby at_410) rfl ?_
  show Steps p.tables e below (T0.setTop (mkF m 411 #[s0, s1, s2, s3, s4, s5, .val (.int i6), s7, s8, s9, s10, s11, .val (.ref o12), .val (.int i13), .val (.int i14), s15, s16, s17, s18, s19, s20, s21, s22, s23] [(.int ((i6 &&& (255 : Int32)).toUInt32.toUInt16.toUInt32.toInt32))])) _
  refine XS.istore X0.here hx rfl (hb hby at_411) rfl (l' := #[s0, s1, s2, s3, s4, s5, .val (.int i6), s7, s8, s9, s10, s11, .val (.ref o12), .val (.int i13), .val (.int i14), s15, .val (.int ((i6 &&& (255 : Int32)).toUInt32.toUInt16.toUInt32.toInt32)), s17, s18, s19, s20, s21, s22, s23]) (os0_411_own_G hs16) ?_
  show Steps p.tables e below (T0.setTop (mkF m 413 #[s0, s1, s2, s3, s4, s5, .val (.int i6), s7, s8, s9, s10, s11, .val (.ref o12), .val (.int i13), .val (.int i14), s15, .val (.int ((i6 &&& (255 : Int32)).toUInt32.toUInt16.toUInt32.toInt32)), s17, s18, s19, s20, s21, s22, s23] [])) _
  refine XS.iload X0.here hx rfl (hb hby at_413) rfl ?_
  show Steps p.tables e below (T0.setTop (mkF m 415 #[s0, s1, s2, s3, s4, s5, .val (.int i6), s7, s8, s9, s10, s11, .val (.ref o12), .val (.int i13), .val (.int i14), s15, .val (.int ((i6 &&& (255 : Int32)).toUInt32.toUInt16.toUInt32.toInt32)), s17, s18, s19, s20, s21, s22, s23] [(.int ((i6 &&& (255 : Int32)).toUInt32.toUInt16.toUInt32.toInt32))])) _
  refine st7 _ ?_
  show Steps p.tables e below (T7.setTop (mkF m 418 #[s0, s1, s2, s3, s4, s5, .val (.int i6), s7, s8, s9, s10, s11, .val (.ref o12), .val (.int i13), .val (.int i14), s15, .val (.int ((i6 &&& (255 : Int32)).toUInt32.toUInt16.toUInt32.toInt32)), s17, s18, s19, s20, s21, s22, s23] [(.ref h0.size)])) _
  refine XS.astore X7.here hx rfl (hb hby at_418) rfl rfl (l' := #[s0, s1, s2, s3, s4, s5, .val (.int i6), s7, s8, s9, s10, s11, .val (.ref o12), .val (.int i13), .val (.int i14), s15, .val (.int ((i6 &&& (255 : Int32)).toUInt32.toUInt16.toUInt32.toInt32)), .val (.ref h0.size), s18, s19, s20, s21, s22, s23]) (os0_418_own_G hs17) ?_
  show Steps p.tables e below (T7.setTop (mkF m 420 #[s0, s1, s2, s3, s4, s5, .val (.int i6), s7, s8, s9, s10, s11, .val (.ref o12), .val (.int i13), .val (.int i14), s15, .val (.int ((i6 &&& (255 : Int32)).toUInt32.toUInt16.toUInt32.toInt32)), .val (.ref h0.size), s18, s19, s20, s21, s22, s23] [])) _
  refine st8 _ ?_
  show Steps p.tables e below (T8.setTop (mkF m 423 #[s0, s1, s2, s3, s4, s5, .val (.int i6), s7, s8, s9, s10, s11, .val (.ref o12), .val (.int i13), .val (.int i14), s15, .val (.int ((i6 &&& (255 : Int32)).toUInt32.toUInt16.toUInt32.toInt32)), .val (.ref h0.size), s18, s19, s20, s21, s22, s23] [(.ref b8)])) _
  refine XS.dup X8.here hx rfl (hb hby at_423) rfl rfl ?_
  show Steps p.tables e below (T8.setTop (mkF m 424 #[s0, s1, s2, s3, s4, s5, .val (.int i6), s7, s8, s9, s10, s11, .val (.ref o12), .val (.int i13), .val (.int i14), s15, .val (.int ((i6 &&& (255 : Int32)).toUInt32.toUInt16.toUInt32.toInt32)), .val (.ref h0.size), s18, s19, s20, s21, s22, s23] [(.ref b8), (.ref b8)])) _
  refine st9.trans ?_
  show Steps p.tables e below (T9.setTop (mkF m 427 #[s0, s1, s2, s3, s4, s5, .val (.int i6), s7, s8, s9, s10, s11, .val (.ref o12), .val (.int i13), .val (.int i14), s15, .val (.int ((i6 &&& (255 : Int32)).toUInt32.toUInt16.toUInt32.toInt32)), .val (.ref h0.size), s18, s19, s20, s21, s22, s23] [(.ref b8)])) _
  refine XS.astore X9.here hx rfl (hb hby at_427) rfl rfl (l' := #[s0, s1, s2, s3, s4, s5, .val (.int i6), s7, s8, s9, s10, s11, .val (.ref o12), .val (.int i13), .val (.int i14), s15, .val (.int ((i6 &&& (255 : Int32)).toUInt32.toUInt16.toUInt32.toInt32)), .val (.ref h0.size), .val (.ref b8), s19, s20, s21, s22, s23]) (os0_427_own_G hs18) ?_
  show Steps p.tables e below (T9.setTop (mkF m 429 #[s0, s1, s2, s3, s4, s5, .val (.int i6), s7, s8, s9, s10, s11, .val (.ref o12), .val (.int i13), .val (.int i14), s15, .val (.int ((i6 &&& (255 : Int32)).toUInt32.toUInt16.toUInt32.toInt32)), .val (.ref h0.size), .val (.ref b8), s19, s20, s21, s22, s23] [])) _
  refine XS.aload X9.here hx rfl (hb hby at_429) rfl rfl ?_
  show Steps p.tables e below (T9.setTop (mkF m 431 #[s0, s1, s2, s3, s4, s5, .val (.int i6), s7, s8, s9, s10, s11, .val (.ref o12), .val (.int i13), .val (.int i14), s15, .val (.int ((i6 &&& (255 : Int32)).toUInt32.toUInt16.toUInt32.toInt32)), .val (.ref h0.size), .val (.ref b8), s19, s20, s21, s22, s23] [(.ref b8)])) _
  refine XS.aload X9.here hx rfl (hb hby at_431) rfl rfl ?_
  show Steps p.tables e below (T9.setTop (mkF m 433 #[s0, s1, s2, s3, s4, s5, .val (.int i6), s7, s8, s9, s10, s11, .val (.ref o12), .val (.int i13), .val (.int i14), s15, .val (.int ((i6 &&& (255 : Int32)).toUInt32.toUInt16.toUInt32.toInt32)), .val (.ref h0.size), .val (.ref b8), s19, s20, s21, s22, s23] [(.ref o12), (.ref b8)])) _
  refine XS.iload X9.here hx rfl (hb hby at_433) rfl ?_
  show Steps p.tables e below (T9.setTop (mkF m 435 #[s0, s1, s2, s3, s4, s5, .val (.int i6), s7, s8, s9, s10, s11, .val (.ref o12), .val (.int i13), .val (.int i14), s15, .val (.int ((i6 &&& (255 : Int32)).toUInt32.toUInt16.toUInt32.toInt32)), .val (.ref h0.size), .val (.ref b8), s19, s20, s21, s22, s23] [(.int i14), (.ref o12), (.ref b8)])) _
  refine XS.iload X9.here hx rfl (hb hby at_435) rfl ?_
  show Steps p.tables e below (T9.setTop (mkF m 437 #[s0, s1, s2, s3, s4, s5, .val (.int i6), s7, s8, s9, s10, s11, .val (.ref o12), .val (.int i13), .val (.int i14), s15, .val (.int ((i6 &&& (255 : Int32)).toUInt32.toUInt16.toUInt32.toInt32)), .val (.ref h0.size), .val (.ref b8), s19, s20, s21, s22, s23] [(.int i13), (.int i14), (.ref o12), (.ref b8)])) _
  refine st10.trans ?_
  show Steps p.tables e below (T10.setTop (mkF m 440 #[s0, s1, s2, s3, s4, s5, .val (.int i6), s7, s8, s9, s10, s11, .val (.ref o12), .val (.int i13), .val (.int i14), s15, .val (.int ((i6 &&& (255 : Int32)).toUInt32.toUInt16.toUInt32.toInt32)), .val (.ref h0.size), .val (.ref b8), s19, s20, s21, s22, s23] [(.int (own_r (own_read (fun j => cs.getD j 0) a b)))])) _
  refine XS.istore X10.here hx rfl (hb hby at_440) rfl (l' := #[s0, s1, s2, s3, s4, s5, .val (.int i6), s7, s8, s9, s10, s11, .val (.ref o12), .val (.int i13), .val (.int i14), s15, .val (.int ((i6 &&& (255 : Int32)).toUInt32.toUInt16.toUInt32.toInt32)), .val (.ref h0.size), .val (.ref b8), .val (.int (own_r (own_read (fun j => cs.getD j 0) a b))), s20, s21, s22, s23]) (os0_440_own_G hs19) ?_
  exact kt
set_option maxRecDepth 65536 in
set_option maxHeartbeats 40000000 in
theorem H0 {p : Program} {l : Launch} {e : Env} {s : State} {m : MethodId} {args : Array Value} {below : List Frame} {meth : Method} {c : Code} {T0 : State} {locs : List Loc} {cells slots : Nat} {Z : State} {a0 : Array Value} {h0 : Heap} (s0 : Slot) (s1 : Slot) (s2 : Slot) (s3 : Slot) (s4 : Slot) (s5 : Slot) (s6 : Slot) (s7 : Slot) (s8 : Slot) (s9 : Slot) (s10 : Slot) (s11 : Slot) (s12 : Slot) (s13 : Slot) (s14 : Slot) (i15 : Int32) (s16 : Slot) (s17 : Slot) (s18 : Slot) (i19 : Int32) (s20 : Slot) (s21 : Slot) (s22 : Slot) (s23 : Slot)
    (X0 : Stand p l e room_1 s m args below meth c T0 locs cells slots) (hx : p.tables.exec = Jvm.exec) (hZ : Z.Warmed39 s.vm) (hw : ∀ d ∈ tables_1, d.before a0 Z = true) (hby : c.code = code) (hml : c.maxLocals = 24) (hown : s.vm.findClass "com/example/bandmark/bandmark/PlainDecimalIsCompactPinLaw" = some m.cls) (e0 : T0.heap = h0) (hc447 : i15 < (1 : Int32)) (hc455 : i19 = (0 : Int32)) :
    ∃ (T' : State), Stand p l e room_1 s m args below meth c T' locs cells slots ∧ T'.heap = h0 ∧
      ∀ target, Steps p.tables e below (T'.setTop (mkF m 460 #[s0, s1, s2, s3, s4, s5, s6, s7, s8, s9, s10, s11, s12, s13, s14, .val (.int i15), s16, s17, s18, .val (.int i19), s20, s21, s22, s23] [])) target → Steps p.tables e below (T0.setTop (mkF m 442 #[s0, s1, s2, s3, s4, s5, s6, s7, s8, s9, s10, s11, s12, s13, s14, .val (.int i15), s16, s17, s18, .val (.int i19), s20, s21, s22, s23] [])) target := by
  refine ⟨T0, X0, e0, fun target kt => ?_⟩
  show Steps p.tables e below (T0.setTop (mkF m 442 #[s0, s1, s2, s3, s4, s5, s6, s7, s8, s9, s10, s11, s12, s13, s14, .val (.int i15), s16, s17, s18, .val (.int i19), s20, s21, s22, s23] [])) _
  refine XS.iload X0.here hx rfl (hb hby at_442) rfl ?_
  show Steps p.tables e below (T0.setTop (mkF m 444 #[s0, s1, s2, s3, s4, s5, s6, s7, s8, s9, s10, s11, s12, s13, s14, .val (.int i15), s16, s17, s18, .val (.int i19), s20, s21, s22, s23] [(.int i19)])) _
  refine XS.iload X0.here hx rfl (hb hby at_444) rfl ?_
  show Steps p.tables e below (T0.setTop (mkF m 446 #[s0, s1, s2, s3, s4, s5, s6, s7, s8, s9, s10, s11, s12, s13, s14, .val (.int i15), s16, s17, s18, .val (.int i19), s20, s21, s22, s23] [(.int i15), (.int i19)])) _
  refine XS.iconst X0.here hx rfl (hb hby at_446) ?_
  show Steps p.tables e below (T0.setTop (mkF m 447 #[s0, s1, s2, s3, s4, s5, s6, s7, s8, s9, s10, s11, s12, s13, s14, .val (.int i15), s16, s17, s18, .val (.int i19), s20, s21, s22, s23] [(.int (1 : Int32)), (.int i15), (.int i19)])) _
  refine XS.icmpYes X0.here hx rfl (pc0 := 447) (pc' := 454) rfl (hb hby at_447) rfl (tlt hc447).1 (by decide) (by decide) ?_
  show Steps p.tables e below (T0.setTop (mkF m 454 #[s0, s1, s2, s3, s4, s5, s6, s7, s8, s9, s10, s11, s12, s13, s14, .val (.int i15), s16, s17, s18, .val (.int i19), s20, s21, s22, s23] [(.int i19)])) _
  refine XS.iconst X0.here hx rfl (hb hby at_454) ?_
  show Steps p.tables e below (T0.setTop (mkF m 455 #[s0, s1, s2, s3, s4, s5, s6, s7, s8, s9, s10, s11, s12, s13, s14, .val (.int i15), s16, s17, s18, .val (.int i19), s20, s21, s22, s23] [(.int (0 : Int32)), (.int i19)])) _
  refine XS.icmpYes X0.here hx rfl (pc0 := 455) (pc' := 460) rfl (hb hby at_455) rfl (teq hc455).1 (by decide) (by decide) ?_
  exact kt
set_option maxRecDepth 65536 in
set_option maxHeartbeats 40000000 in
theorem H1 {p : Program} {l : Launch} {e : Env} {s : State} {m : MethodId} {args : Array Value} {below : List Frame} {meth : Method} {c : Code} {T0 : State} {locs : List Loc} {cells slots : Nat} {Z : State} {a0 : Array Value} {h0 : Heap} (s0 : Slot) (s1 : Slot) (s2 : Slot) (s3 : Slot) (s4 : Slot) (s5 : Slot) (s6 : Slot) (s7 : Slot) (s8 : Slot) (s9 : Slot) (s10 : Slot) (s11 : Slot) (s12 : Slot) (s13 : Slot) (s14 : Slot) (i15 : Int32) (s16 : Slot) (s17 : Slot) (s18 : Slot) (i19 : Int32) (s20 : Slot) (s21 : Slot) (s22 : Slot) (s23 : Slot)
    (X0 : Stand p l e room_1 s m args below meth c T0 locs cells slots) (hx : p.tables.exec = Jvm.exec) (hZ : Z.Warmed39 s.vm) (hw : ∀ d ∈ tables_1, d.before a0 Z = true) (hby : c.code = code) (hml : c.maxLocals = 24) (hown : s.vm.findClass "com/example/bandmark/bandmark/PlainDecimalIsCompactPinLaw" = some m.cls) (e0 : T0.heap = h0) (hc447 : ¬ (i15 < (1 : Int32))) (hc455 : i19 = (1 : Int32)) :
    ∃ (T' : State), Stand p l e room_1 s m args below meth c T' locs cells slots ∧ T'.heap = h0 ∧
      ∀ target, Steps p.tables e below (T'.setTop (mkF m 460 #[s0, s1, s2, s3, s4, s5, s6, s7, s8, s9, s10, s11, s12, s13, s14, .val (.int i15), s16, s17, s18, .val (.int i19), s20, s21, s22, s23] [])) target → Steps p.tables e below (T0.setTop (mkF m 442 #[s0, s1, s2, s3, s4, s5, s6, s7, s8, s9, s10, s11, s12, s13, s14, .val (.int i15), s16, s17, s18, .val (.int i19), s20, s21, s22, s23] [])) target := by
  refine ⟨T0, X0, e0, fun target kt => ?_⟩
  show Steps p.tables e below (T0.setTop (mkF m 442 #[s0, s1, s2, s3, s4, s5, s6, s7, s8, s9, s10, s11, s12, s13, s14, .val (.int i15), s16, s17, s18, .val (.int i19), s20, s21, s22, s23] [])) _
  refine XS.iload X0.here hx rfl (hb hby at_442) rfl ?_
  show Steps p.tables e below (T0.setTop (mkF m 444 #[s0, s1, s2, s3, s4, s5, s6, s7, s8, s9, s10, s11, s12, s13, s14, .val (.int i15), s16, s17, s18, .val (.int i19), s20, s21, s22, s23] [(.int i19)])) _
  refine XS.iload X0.here hx rfl (hb hby at_444) rfl ?_
  show Steps p.tables e below (T0.setTop (mkF m 446 #[s0, s1, s2, s3, s4, s5, s6, s7, s8, s9, s10, s11, s12, s13, s14, .val (.int i15), s16, s17, s18, .val (.int i19), s20, s21, s22, s23] [(.int i15), (.int i19)])) _
  refine XS.iconst X0.here hx rfl (hb hby at_446) ?_
  show Steps p.tables e below (T0.setTop (mkF m 447 #[s0, s1, s2, s3, s4, s5, s6, s7, s8, s9, s10, s11, s12, s13, s14, .val (.int i15), s16, s17, s18, .val (.int i19), s20, s21, s22, s23] [(.int (1 : Int32)), (.int i15), (.int i19)])) _
  refine XS.icmpNo X0.here hx rfl (hb hby at_447) rfl (flt hc447).1 ?_
  show Steps p.tables e below (T0.setTop (mkF m 450 #[s0, s1, s2, s3, s4, s5, s6, s7, s8, s9, s10, s11, s12, s13, s14, .val (.int i15), s16, s17, s18, .val (.int i19), s20, s21, s22, s23] [(.int i19)])) _
  refine XS.iconst X0.here hx rfl (hb hby at_450) ?_
  show Steps p.tables e below (T0.setTop (mkF m 451 #[s0, s1, s2, s3, s4, s5, s6, s7, s8, s9, s10, s11, s12, s13, s14, .val (.int i15), s16, s17, s18, .val (.int i19), s20, s21, s22, s23] [(.int (1 : Int32)), (.int i19)])) _
  refine XS.goto X0.here hx rfl (pc0 := 451) (pc' := 455) rfl (hb hby at_451) (by decide) (by decide) ?_
  show Steps p.tables e below (T0.setTop (mkF m 455 #[s0, s1, s2, s3, s4, s5, s6, s7, s8, s9, s10, s11, s12, s13, s14, .val (.int i15), s16, s17, s18, .val (.int i19), s20, s21, s22, s23] [(.int (1 : Int32)), (.int i19)])) _
  refine XS.icmpYes X0.here hx rfl (pc0 := 455) (pc' := 460) rfl (hb hby at_455) rfl (teq hc455).1 (by decide) (by decide) ?_
  exact kt
theorem pd_0_12 : parseMethodDescriptor "()Z" = some ⟨[], some .boolean⟩ := by decide +kernel
theorem os0_465_H2_0 {s0 : Slot} {s1 : Slot} {s2 : Slot} {s3 : Slot} {s4 : Slot} {s5 : Slot} {s6 : Slot} {s7 : Slot} {s8 : Slot} {s9 : Slot} {s10 : Slot} {s11 : Slot} {s12 : Slot} {s13 : Slot} {s14 : Slot} {s15 : Slot} {s16 : Slot} {s17 : Slot} {z18 : Value} {z19 : Value} {s20 : Slot} {s21 : Slot} {s22 : Slot} {s23 : Slot} {v : Int32} (h : One s20) : storeLocals #[s0, s1, s2, s3, s4, s5, s6, s7, s8, s9, s10, s11, s12, s13, s14, s15, s16, s17, .val z18, .val z19, s20, s21, s22, s23] 20 (.int v) = some #[s0, s1, s2, s3, s4, s5, s6, s7, s8, s9, s10, s11, s12, s13, s14, s15, s16, s17, .val z18, .val z19, .val (.int v), s21, s22, s23] := by
  rcases h with rfl | ⟨w, rfl, hw⟩
  · rfl
  · cases w <;> first | rfl | (simp [Value.category] at hw)
set_option maxRecDepth 65536 in
set_option maxHeartbeats 40000000 in
theorem H2_0 {p : Program} {l : Launch} {e : Env} {s : State} {m : MethodId} {args : Array Value} {below : List Frame} {meth : Method} {c : Code} {T0 : State} {locs : List Loc} {cells slots : Nat} {Z : State} {a0 : Array Value} {h0 : Heap} (s0 : Slot) (s1 : Slot) (s2 : Slot) (s3 : Slot) (s4 : Slot) (s5 : Slot) (s6 : Slot) (s7 : Slot) (s8 : Slot) (s9 : Slot) (s10 : Slot) (s11 : Slot) (s12 : Slot) (s13 : Slot) (s14 : Slot) (s15 : Slot) (s16 : Slot) (s17 : Slot) (o18 : Addr) (i19 : Int32) (s20 : Slot) (s21 : Slot) (s22 : Slot) (s23 : Slot) (d : Int32) (n0 : Nat)
    (X0 : Stand p l e room_1 s m args below meth c T0 locs cells slots) (hx : p.tables.exec = Jvm.exec) (hZ : Z.Warmed39 s.vm) (hw : ∀ d ∈ tables_1, d.before a0 Z = true) (hby : c.code = code) (hml : c.maxLocals = 24) (hown : s.vm.findClass "com/example/bandmark/bandmark/PlainDecimalIsCompactPinLaw" = some m.cls) (e0 : T0.heap = h0) (HP : own_PD Z h0 o18 d) (Z0 : n0 ≤ h0.size) (N0 : Fr n0 locs) (hcl : cells ≤ room_1.cells) (hsl : slots ≤ room_1.slots) (hs20 : One s20) (hc469 : i19 = (0 : Int32)) :
    ∃ (T' : State) (locs' : List Loc), Stand p l e room_1 s m args below meth c T' locs' cells slots ∧ Fr n0 locs' ∧ T'.heap = h0 ∧
      ∀ target, Steps p.tables e below (T'.setTop (mkF m 491 #[s0, s1, s2, s3, s4, s5, s6, s7, s8, s9, s10, s11, s12, s13, s14, s15, s16, s17, .val (.ref o18), .val (.int i19), .val (.int (own_c d)), s21, s22, s23] [])) target → Steps p.tables e below (T0.setTop (mkF m 460 #[s0, s1, s2, s3, s4, s5, s6, s7, s8, s9, s10, s11, s12, s13, s14, s15, s16, s17, .val (.ref o18), .val (.int i19), s20, s21, s22, s23] [])) target := by
  obtain ⟨cq7, kq7, q7a, q7b, q7c⟩ := isOf hZ e0 HP.1
  obtain ⟨_, _, ⟨T7, L7, k7, n7⟩, -, X7, ⟨Lc7, hQ7, l7, y7, z7⟩, st7⟩ := X0.virtualBack hx (y := (⟨"com/example/bandmark/bandmark/PlainDecimal", "isCompact", "()Z"⟩ : MethodName)) (z := (⟨"com/example/bandmark/bandmark/PlainDecimal", "isCompact", "()Z"⟩ : MethodName)) hown (mvT hZ (hw _ (List.mem_of_getElem? (i := 63) rfl))) (mvT hZ (hw _ (List.mem_of_getElem? (i := 64) rfl))) (notFace_of_selects (args := #[]) (mvT hZ (hw _ (List.mem_of_getElem? (i := 66) rfl)))) (mvT hZ (hw _ (List.mem_of_getElem? (i := 66) rfl))) (mvT hZ (hw _ (List.mem_of_getElem? (i := 65) rfl))) (by decide) (backOf (W := 0) (r14 l Z a0 hw [] o18 d h0 n0 Z0 HP.2.2.2.2.2.2) hZ (hw _ (List.mem_of_getElem? (i := 67) rfl)) (hw _ (List.mem_of_getElem? (i := 53) rfl)) (by decide) (by decide)) q7a q7c (g := (mkF m 462 #[s0, s1, s2, s3, s4, s5, s6, s7, s8, s9, s10, s11, s12, s13, s14, s15, s16, s17, .val (.ref o18), .val (.int i19), s20, s21, s22, s23] [(.ref o18)])) rfl (by rw [hml]; rfl) (Steps.refl _) (argsL := []) (rest := []) (lenOf pd_0_12 rfl) rfl (by show 2 * 0 + _ ≤ _; exact Nat.le_of_eq rfl) (hb hby at_462) (fun _ _ => ⟨rfl, e0, hcl, hsl⟩)
  dsimp only [Pt.U, Pt.locs, Pt.cells, Pt.slots] at X7 l7 y7 z7 st7 hQ7
  subst l7 y7 z7
  obtain ⟨rfl, N7q, e7⟩ := hQ7
  have N7 := Fr.app N0 N7q
  refine ⟨T7, _, X7, N7, e7, fun target kt => ?_⟩
  show Steps p.tables e below (T0.setTop (mkF m 460 #[s0, s1, s2, s3, s4, s5, s6, s7, s8, s9, s10, s11, s12, s13, s14, s15, s16, s17, .val (.ref o18), .val (.int i19), s20, s21, s22, s23] [])) _
  refine XS.aload X0.here hx rfl (hb hby at_460) rfl rfl ?_
  show Steps p.tables e below (T0.setTop (mkF m 462 #[s0, s1, s2, s3, s4, s5, s6, s7, s8, s9, s10, s11, s12, s13, s14, s15, s16, s17, .val (.ref o18), .val (.int i19), s20, s21, s22, s23] [(.ref o18)])) _
  refine st7.trans ?_
  show Steps p.tables e below (T7.setTop (mkF m 465 #[s0, s1, s2, s3, s4, s5, s6, s7, s8, s9, s10, s11, s12, s13, s14, s15, s16, s17, .val (.ref o18), .val (.int i19), s20, s21, s22, s23] [(.int (own_c d))])) _
  refine XS.istore X7.here hx rfl (hb hby at_465) rfl (l' := #[s0, s1, s2, s3, s4, s5, s6, s7, s8, s9, s10, s11, s12, s13, s14, s15, s16, s17, .val (.ref o18), .val (.int i19), .val (.int (own_c d)), s21, s22, s23]) (os0_465_H2_0 hs20) ?_
  show Steps p.tables e below (T7.setTop (mkF m 467 #[s0, s1, s2, s3, s4, s5, s6, s7, s8, s9, s10, s11, s12, s13, s14, s15, s16, s17, .val (.ref o18), .val (.int i19), .val (.int (own_c d)), s21, s22, s23] [])) _
  refine XS.iload X7.here hx rfl (hb hby at_467) rfl ?_
  show Steps p.tables e below (T7.setTop (mkF m 469 #[s0, s1, s2, s3, s4, s5, s6, s7, s8, s9, s10, s11, s12, s13, s14, s15, s16, s17, .val (.ref o18), .val (.int i19), .val (.int (own_c d)), s21, s22, s23] [(.int i19)])) _
  refine XS.ifYes X7.here hx rfl (pc0 := 469) (pc' := 491) rfl (hb hby at_469) rfl ((if0 _ _).trans (teq hc469).1) (by decide) (by decide) ?_
  exact kt
theorem os0_465_H2_1 {s0 : Slot} {s1 : Slot} {s2 : Slot} {s3 : Slot} {s4 : Slot} {s5 : Slot} {s6 : Slot} {s7 : Slot} {s8 : Slot} {s9 : Slot} {s10 : Slot} {s11 : Slot} {s12 : Slot} {s13 : Slot} {s14 : Slot} {z15 : Value} {s16 : Slot} {s17 : Slot} {z18 : Value} {z19 : Value} {s20 : Slot} {s21 : Slot} {s22 : Slot} {s23 : Slot} {v : Int32} (h : One s20) : storeLocals #[s0, s1, s2, s3, s4, s5, s6, s7, s8, s9, s10, s11, s12, s13, s14, .val z15, s16, s17, .val z18, .val z19, s20, s21, s22, s23] 20 (.int v) = some #[s0, s1, s2, s3, s4, s5, s6, s7, s8, s9, s10, s11, s12, s13, s14, .val z15, s16, s17, .val z18, .val z19, .val (.int v), s21, s22, s23] := by
  rcases h with rfl | ⟨w, rfl, hw⟩
  · rfl
  · cases w <;> first | rfl | (simp [Value.category] at hw)
set_option maxRecDepth 65536 in
set_option maxHeartbeats 40000000 in
theorem H2_1 {p : Program} {l : Launch} {e : Env} {s : State} {m : MethodId} {args : Array Value} {below : List Frame} {meth : Method} {c : Code} {T0 : State} {locs : List Loc} {cells slots : Nat} {Z : State} {a0 : Array Value} {h0 : Heap} (s0 : Slot) (s1 : Slot) (s2 : Slot) (s3 : Slot) (s4 : Slot) (s5 : Slot) (s6 : Slot) (s7 : Slot) (s8 : Slot) (s9 : Slot) (s10 : Slot) (s11 : Slot) (s12 : Slot) (s13 : Slot) (s14 : Slot) (i15 : Int32) (s16 : Slot) (s17 : Slot) (o18 : Addr) (i19 : Int32) (s20 : Slot) (s21 : Slot) (s22 : Slot) (s23 : Slot) (d : Int32) (n0 : Nat)
    (X0 : Stand p l e room_1 s m args below meth c T0 locs cells slots) (hx : p.tables.exec = Jvm.exec) (hZ : Z.Warmed39 s.vm) (hw : ∀ d ∈ tables_1, d.before a0 Z = true) (hby : c.code = code) (hml : c.maxLocals = 24) (hown : s.vm.findClass "com/example/bandmark/bandmark/PlainDecimalIsCompactPinLaw" = some m.cls) (e0 : T0.heap = h0) (HP : own_PD Z h0 o18 d) (Z0 : n0 ≤ h0.size) (N0 : Fr n0 locs) (hcl : cells ≤ room_1.cells) (hsl : slots ≤ room_1.slots) (hs20 : One s20) (hc469 : ¬ (i19 = (0 : Int32))) (hc478 : (18 : Int32) < i15) (hk0 : (own_c d) = (0 : Int32)) :
    ∃ (T' : State) (locs' : List Loc), Stand p l e room_1 s m args below meth c T' locs' cells slots ∧ Fr n0 locs' ∧ T'.heap = h0 ∧
      ∀ target, Steps p.tables e below (T'.setTop (mkF m 491 #[s0, s1, s2, s3, s4, s5, s6, s7, s8, s9, s10, s11, s12, s13, s14, .val (.int i15), s16, s17, .val (.ref o18), .val (.int i19), .val (.int (own_c d)), s21, s22, s23] [])) target → Steps p.tables e below (T0.setTop (mkF m 460 #[s0, s1, s2, s3, s4, s5, s6, s7, s8, s9, s10, s11, s12, s13, s14, .val (.int i15), s16, s17, .val (.ref o18), .val (.int i19), s20, s21, s22, s23] [])) target := by
  obtain ⟨cq7, kq7, q7a, q7b, q7c⟩ := isOf hZ e0 HP.1
  obtain ⟨_, _, ⟨T7, L7, k7, n7⟩, -, X7, ⟨Lc7, hQ7, l7, y7, z7⟩, st7⟩ := X0.virtualBack hx (y := (⟨"com/example/bandmark/bandmark/PlainDecimal", "isCompact", "()Z"⟩ : MethodName)) (z := (⟨"com/example/bandmark/bandmark/PlainDecimal", "isCompact", "()Z"⟩ : MethodName)) hown (mvT hZ (hw _ (List.mem_of_getElem? (i := 63) rfl))) (mvT hZ (hw _ (List.mem_of_getElem? (i := 64) rfl))) (notFace_of_selects (args := #[]) (mvT hZ (hw _ (List.mem_of_getElem? (i := 66) rfl)))) (mvT hZ (hw _ (List.mem_of_getElem? (i := 66) rfl))) (mvT hZ (hw _ (List.mem_of_getElem? (i := 65) rfl))) (by decide) (backOf (W := 0) (r14 l Z a0 hw [] o18 d h0 n0 Z0 HP.2.2.2.2.2.2) hZ (hw _ (List.mem_of_getElem? (i := 67) rfl)) (hw _ (List.mem_of_getElem? (i := 53) rfl)) (by decide) (by decide)) q7a q7c (g := (mkF m 462 #[s0, s1, s2, s3, s4, s5, s6, s7, s8, s9, s10, s11, s12, s13, s14, .val (.int i15), s16, s17, .val (.ref o18), .val (.int i19), s20, s21, s22, s23] [(.ref o18)])) rfl (by rw [hml]; rfl) (Steps.refl _) (argsL := []) (rest := []) (lenOf pd_0_12 rfl) rfl (by show 2 * 0 + _ ≤ _; exact Nat.le_of_eq rfl) (hb hby at_462) (fun _ _ => ⟨rfl, e0, hcl, hsl⟩)
  dsimp only [Pt.U, Pt.locs, Pt.cells, Pt.slots] at X7 l7 y7 z7 st7 hQ7
  subst l7 y7 z7
  obtain ⟨rfl, N7q, e7⟩ := hQ7
  have N7 := Fr.app N0 N7q
  refine ⟨T7, _, X7, N7, e7, fun target kt => ?_⟩
  show Steps p.tables e below (T0.setTop (mkF m 460 #[s0, s1, s2, s3, s4, s5, s6, s7, s8, s9, s10, s11, s12, s13, s14, .val (.int i15), s16, s17, .val (.ref o18), .val (.int i19), s20, s21, s22, s23] [])) _
  refine XS.aload X0.here hx rfl (hb hby at_460) rfl rfl ?_
  show Steps p.tables e below (T0.setTop (mkF m 462 #[s0, s1, s2, s3, s4, s5, s6, s7, s8, s9, s10, s11, s12, s13, s14, .val (.int i15), s16, s17, .val (.ref o18), .val (.int i19), s20, s21, s22, s23] [(.ref o18)])) _
  refine st7.trans ?_
  show Steps p.tables e below (T7.setTop (mkF m 465 #[s0, s1, s2, s3, s4, s5, s6, s7, s8, s9, s10, s11, s12, s13, s14, .val (.int i15), s16, s17, .val (.ref o18), .val (.int i19), s20, s21, s22, s23] [(.int (own_c d))])) _
  refine XS.istore X7.here hx rfl (hb hby at_465) rfl (l' := #[s0, s1, s2, s3, s4, s5, s6, s7, s8, s9, s10, s11, s12, s13, s14, .val (.int i15), s16, s17, .val (.ref o18), .val (.int i19), .val (.int (own_c d)), s21, s22, s23]) (os0_465_H2_1 hs20) ?_
  show Steps p.tables e below (T7.setTop (mkF m 467 #[s0, s1, s2, s3, s4, s5, s6, s7, s8, s9, s10, s11, s12, s13, s14, .val (.int i15), s16, s17, .val (.ref o18), .val (.int i19), .val (.int (own_c d)), s21, s22, s23] [])) _
  refine XS.iload X7.here hx rfl (hb hby at_467) rfl ?_
  show Steps p.tables e below (T7.setTop (mkF m 469 #[s0, s1, s2, s3, s4, s5, s6, s7, s8, s9, s10, s11, s12, s13, s14, .val (.int i15), s16, s17, .val (.ref o18), .val (.int i19), .val (.int (own_c d)), s21, s22, s23] [(.int i19)])) _
  refine XS.ifNo X7.here hx rfl (hb hby at_469) rfl ((if0 _ _).trans (feq hc469).1) ?_
  show Steps p.tables e below (T7.setTop (mkF m 472 #[s0, s1, s2, s3, s4, s5, s6, s7, s8, s9, s10, s11, s12, s13, s14, .val (.int i15), s16, s17, .val (.ref o18), .val (.int i19), .val (.int (own_c d)), s21, s22, s23] [])) _
  refine XS.iload X7.here hx rfl (hb hby at_472) rfl ?_
  show Steps p.tables e below (T7.setTop (mkF m 474 #[s0, s1, s2, s3, s4, s5, s6, s7, s8, s9, s10, s11, s12, s13, s14, .val (.int i15), s16, s17, .val (.ref o18), .val (.int i19), .val (.int (own_c d)), s21, s22, s23] [(.int (own_c d))])) _
  refine XS.iload X7.here hx rfl (hb hby at_474) rfl ?_
  show Steps p.tables e below (T7.setTop (mkF m 476 #[s0, s1, s2, s3, s4, s5, s6, s7, s8, s9, s10, s11, s12, s13, s14, .val (.int i15), s16, s17, .val (.ref o18), .val (.int i19), .val (.int (own_c d)), s21, s22, s23] [(.int i15), (.int (own_c d))])) _
  refine XS.bipush X7.here hx rfl (hb hby at_476) ?_
  show Steps p.tables e below (T7.setTop (mkF m 478 #[s0, s1, s2, s3, s4, s5, s6, s7, s8, s9, s10, s11, s12, s13, s14, .val (.int i15), s16, s17, .val (.ref o18), .val (.int i19), .val (.int (own_c d)), s21, s22, s23] [(.int (18 : Int32)), (.int i15), (.int (own_c d))])) _
  refine XS.icmpYes X7.here hx rfl (pc0 := 478) (pc' := 485) rfl (hb hby at_478) rfl (tlt hc478).2.2.1 (by decide) (by decide) ?_
  show Steps p.tables e below (T7.setTop (mkF m 485 #[s0, s1, s2, s3, s4, s5, s6, s7, s8, s9, s10, s11, s12, s13, s14, .val (.int i15), s16, s17, .val (.ref o18), .val (.int i19), .val (.int (own_c d)), s21, s22, s23] [(.int (own_c d))])) _
  refine XS.iconst X7.here hx rfl (hb hby at_485) ?_
  show Steps p.tables e below (T7.setTop (mkF m 486 #[s0, s1, s2, s3, s4, s5, s6, s7, s8, s9, s10, s11, s12, s13, s14, .val (.int i15), s16, s17, .val (.ref o18), .val (.int i19), .val (.int (own_c d)), s21, s22, s23] [(.int (0 : Int32)), (.int (own_c d))])) _
  refine XS.icmpYes X7.here hx rfl (pc0 := 486) (pc' := 491) rfl (hb hby at_486) rfl (teq (hk0 : (own_c d) = (0 : Int32))).1 (by decide) (by decide) ?_
  exact kt
theorem os0_465_H2_2 {s0 : Slot} {s1 : Slot} {s2 : Slot} {s3 : Slot} {s4 : Slot} {s5 : Slot} {s6 : Slot} {s7 : Slot} {s8 : Slot} {s9 : Slot} {s10 : Slot} {s11 : Slot} {s12 : Slot} {s13 : Slot} {s14 : Slot} {z15 : Value} {s16 : Slot} {s17 : Slot} {z18 : Value} {z19 : Value} {s20 : Slot} {s21 : Slot} {s22 : Slot} {s23 : Slot} {v : Int32} (h : One s20) : storeLocals #[s0, s1, s2, s3, s4, s5, s6, s7, s8, s9, s10, s11, s12, s13, s14, .val z15, s16, s17, .val z18, .val z19, s20, s21, s22, s23] 20 (.int v) = some #[s0, s1, s2, s3, s4, s5, s6, s7, s8, s9, s10, s11, s12, s13, s14, .val z15, s16, s17, .val z18, .val z19, .val (.int v), s21, s22, s23] := by
  rcases h with rfl | ⟨w, rfl, hw⟩
  · rfl
  · cases w <;> first | rfl | (simp [Value.category] at hw)
set_option maxRecDepth 65536 in
set_option maxHeartbeats 40000000 in
theorem H2_2 {p : Program} {l : Launch} {e : Env} {s : State} {m : MethodId} {args : Array Value} {below : List Frame} {meth : Method} {c : Code} {T0 : State} {locs : List Loc} {cells slots : Nat} {Z : State} {a0 : Array Value} {h0 : Heap} (s0 : Slot) (s1 : Slot) (s2 : Slot) (s3 : Slot) (s4 : Slot) (s5 : Slot) (s6 : Slot) (s7 : Slot) (s8 : Slot) (s9 : Slot) (s10 : Slot) (s11 : Slot) (s12 : Slot) (s13 : Slot) (s14 : Slot) (i15 : Int32) (s16 : Slot) (s17 : Slot) (o18 : Addr) (i19 : Int32) (s20 : Slot) (s21 : Slot) (s22 : Slot) (s23 : Slot) (d : Int32) (n0 : Nat)
    (X0 : Stand p l e room_1 s m args below meth c T0 locs cells slots) (hx : p.tables.exec = Jvm.exec) (hZ : Z.Warmed39 s.vm) (hw : ∀ d ∈ tables_1, d.before a0 Z = true) (hby : c.code = code) (hml : c.maxLocals = 24) (hown : s.vm.findClass "com/example/bandmark/bandmark/PlainDecimalIsCompactPinLaw" = some m.cls) (e0 : T0.heap = h0) (HP : own_PD Z h0 o18 d) (Z0 : n0 ≤ h0.size) (N0 : Fr n0 locs) (hcl : cells ≤ room_1.cells) (hsl : slots ≤ room_1.slots) (hs20 : One s20) (hc469 : ¬ (i19 = (0 : Int32))) (hc478 : ¬ ((18 : Int32) < i15)) (hk0 : (own_c d) = (1 : Int32)) :
    ∃ (T' : State) (locs' : List Loc), Stand p l e room_1 s m args below meth c T' locs' cells slots ∧ Fr n0 locs' ∧ T'.heap = h0 ∧
      ∀ target, Steps p.tables e below (T'.setTop (mkF m 491 #[s0, s1, s2, s3, s4, s5, s6, s7, s8, s9, s10, s11, s12, s13, s14, .val (.int i15), s16, s17, .val (.ref o18), .val (.int i19), .val (.int (own_c d)), s21, s22, s23] [])) target → Steps p.tables e below (T0.setTop (mkF m 460 #[s0, s1, s2, s3, s4, s5, s6, s7, s8, s9, s10, s11, s12, s13, s14, .val (.int i15), s16, s17, .val (.ref o18), .val (.int i19), s20, s21, s22, s23] [])) target := by
  obtain ⟨cq7, kq7, q7a, q7b, q7c⟩ := isOf hZ e0 HP.1
  obtain ⟨_, _, ⟨T7, L7, k7, n7⟩, -, X7, ⟨Lc7, hQ7, l7, y7, z7⟩, st7⟩ := X0.virtualBack hx (y := (⟨"com/example/bandmark/bandmark/PlainDecimal", "isCompact", "()Z"⟩ : MethodName)) (z := (⟨"com/example/bandmark/bandmark/PlainDecimal", "isCompact", "()Z"⟩ : MethodName)) hown (mvT hZ (hw _ (List.mem_of_getElem? (i := 63) rfl))) (mvT hZ (hw _ (List.mem_of_getElem? (i := 64) rfl))) (notFace_of_selects (args := #[]) (mvT hZ (hw _ (List.mem_of_getElem? (i := 66) rfl)))) (mvT hZ (hw _ (List.mem_of_getElem? (i := 66) rfl))) (mvT hZ (hw _ (List.mem_of_getElem? (i := 65) rfl))) (by decide) (backOf (W := 0) (r14 l Z a0 hw [] o18 d h0 n0 Z0 HP.2.2.2.2.2.2) hZ (hw _ (List.mem_of_getElem? (i := 67) rfl)) (hw _ (List.mem_of_getElem? (i := 53) rfl)) (by decide) (by decide)) q7a q7c (g := (mkF m 462 #[s0, s1, s2, s3, s4, s5, s6, s7, s8, s9, s10, s11, s12, s13, s14, .val (.int i15), s16, s17, .val (.ref o18), .val (.int i19), s20, s21, s22, s23] [(.ref o18)])) rfl (by rw [hml]; rfl) (Steps.refl _) (argsL := []) (rest := []) (lenOf pd_0_12 rfl) rfl (by show 2 * 0 + _ ≤ _; exact Nat.le_of_eq rfl) (hb hby at_462) (fun _ _ => ⟨rfl, e0, hcl, hsl⟩)
  dsimp only [Pt.U, Pt.locs, Pt.cells, Pt.slots] at X7 l7 y7 z7 st7 hQ7
  subst l7 y7 z7
  obtain ⟨rfl, N7q, e7⟩ := hQ7
  have N7 := Fr.app N0 N7q
  refine ⟨T7, _, X7, N7, e7, fun target kt => ?_⟩
  show Steps p.tables e below (T0.setTop (mkF m 460 #[s0, s1, s2, s3, s4, s5, s6, s7, s8, s9, s10, s11, s12, s13, s14, .val (.int i15), s16, s17, .val (.ref o18), .val (.int i19), s20, s21, s22, s23] [])) _
  refine XS.aload X0.here hx rfl (hb hby at_460) rfl rfl ?_
  show Steps p.tables e below (T0.setTop (mkF m 462 #[s0, s1, s2, s3, s4, s5, s6, s7, s8, s9, s10, s11, s12, s13, s14, .val (.int i15), s16, s17, .val (.ref o18), .val (.int i19), s20, s21, s22, s23] [(.ref o18)])) _
  refine st7.trans ?_
  show Steps p.tables e below (T7.setTop (mkF m 465 #[s0, s1, s2, s3, s4, s5, s6, s7, s8, s9, s10, s11, s12, s13, s14, .val (.int i15), s16, s17, .val (.ref o18), .val (.int i19), s20, s21, s22, s23] [(.int (own_c d))])) _
  refine XS.istore X7.here hx rfl (hb hby at_465) rfl (l' := #[s0, s1, s2, s3, s4, s5, s6, s7, s8, s9, s10, s11, s12, s13, s14, .val (.int i15), s16, s17, .val (.ref o18), .val (.int i19), .val (.int (own_c d)), s21, s22, s23]) (os0_465_H2_2 hs20) ?_
  show Steps p.tables e below (T7.setTop (mkF m 467 #[s0, s1, s2, s3, s4, s5, s6, s7, s8, s9, s10, s11, s12, s13, s14, .val (.int i15), s16, s17, .val (.ref o18), .val (.int i19), .val (.int (own_c d)), s21, s22, s23] [])) _
  refine XS.iload X7.here hx rfl (hb hby at_467) rfl ?_
  show Steps p.tables e below (T7.setTop (mkF m 469 #[s0, s1, s2, s3, s4, s5, s6, s7, s8, s9, s10, s11, s12, s13, s14, .val (.int i15), s16, s17, .val (.ref o18), .val (.int i19), .val (.int (own_c d)), s21, s22, s23] [(.int i19)])) _
  refine XS.ifNo X7.here hx rfl (hb hby at_469) rfl ((if0 _ _).trans (feq hc469).1) ?_
  show Steps p.tables e below (T7.setTop (mkF m 472 #[s0, s1, s2, s3, s4, s5, s6, s7, s8, s9, s10, s11, s12, s13, s14, .val (.int i15), s16, s17, .val (.ref o18), .val (.int i19), .val (.int (own_c d)), s21, s22, s23] [])) _
  refine XS.iload X7.here hx rfl (hb hby at_472) rfl ?_
  show Steps p.tables e below (T7.setTop (mkF m 474 #[s0, s1, s2, s3, s4, s5, s6, s7, s8, s9, s10, s11, s12, s13, s14, .val (.int i15), s16, s17, .val (.ref o18), .val (.int i19), .val (.int (own_c d)), s21, s22, s23] [(.int (own_c d))])) _
  refine XS.iload X7.here hx rfl (hb hby at_474) rfl ?_
  show Steps p.tables e below (T7.setTop (mkF m 476 #[s0, s1, s2, s3, s4, s5, s6, s7, s8, s9, s10, s11, s12, s13, s14, .val (.int i15), s16, s17, .val (.ref o18), .val (.int i19), .val (.int (own_c d)), s21, s22, s23] [(.int i15), (.int (own_c d))])) _
  refine XS.bipush X7.here hx rfl (hb hby at_476) ?_
  show Steps p.tables e below (T7.setTop (mkF m 478 #[s0, s1, s2, s3, s4, s5, s6, s7, s8, s9, s10, s11, s12, s13, s14, .val (.int i15), s16, s17, .val (.ref o18), .val (.int i19), .val (.int (own_c d)), s21, s22, s23] [(.int (18 : Int32)), (.int i15), (.int (own_c d))])) _
  refine XS.icmpNo X7.here hx rfl (hb hby at_478) rfl (flt hc478).2.2.1 ?_
  show Steps p.tables e below (T7.setTop (mkF m 481 #[s0, s1, s2, s3, s4, s5, s6, s7, s8, s9, s10, s11, s12, s13, s14, .val (.int i15), s16, s17, .val (.ref o18), .val (.int i19), .val (.int (own_c d)), s21, s22, s23] [(.int (own_c d))])) _
  refine XS.iconst X7.here hx rfl (hb hby at_481) ?_
  show Steps p.tables e below (T7.setTop (mkF m 482 #[s0, s1, s2, s3, s4, s5, s6, s7, s8, s9, s10, s11, s12, s13, s14, .val (.int i15), s16, s17, .val (.ref o18), .val (.int i19), .val (.int (own_c d)), s21, s22, s23] [(.int (1 : Int32)), (.int (own_c d))])) _
  refine XS.goto X7.here hx rfl (pc0 := 482) (pc' := 486) rfl (hb hby at_482) (by decide) (by decide) ?_
  show Steps p.tables e below (T7.setTop (mkF m 486 #[s0, s1, s2, s3, s4, s5, s6, s7, s8, s9, s10, s11, s12, s13, s14, .val (.int i15), s16, s17, .val (.ref o18), .val (.int i19), .val (.int (own_c d)), s21, s22, s23] [(.int (1 : Int32)), (.int (own_c d))])) _
  refine XS.icmpYes X7.here hx rfl (pc0 := 486) (pc' := 491) rfl (hb hby at_486) rfl (teq (hk0 : (own_c d) = (1 : Int32))).1 (by decide) (by decide) ?_
  exact kt
theorem os0_528_J0 {s0 : Slot} {s1 : Slot} {s2 : Slot} {s3 : Slot} {s4 : Slot} {s5 : Slot} {s6 : Slot} {s7 : Slot} {s8 : Slot} {s9 : Slot} {s10 : Slot} {s11 : Slot} {s12 : Slot} {s13 : Slot} {s14 : Slot} {s15 : Slot} {z16 : Value} {s17 : Slot} {s18 : Slot} {s19 : Slot} {s20 : Slot} {s21 : Slot} {s22 : Slot} {s23 : Slot} {v : Int32} (h : One s23) : storeLocals #[s0, s1, s2, s3, s4, s5, s6, s7, s8, s9, s10, s11, s12, s13, s14, s15, .val z16, s17, s18, s19, s20, s21, s22, s23] 23 (.int v) = some #[s0, s1, s2, s3, s4, s5, s6, s7, s8, s9, s10, s11, s12, s13, s14, s15, .val z16, s17, s18, s19, s20, s21, s22, .val (.int v)] := by
  rcases h with rfl | ⟨w, rfl, hw⟩
  · rfl
  · cases w <;> first | rfl | (simp [Value.category] at hw)
set_option maxRecDepth 65536 in
set_option maxHeartbeats 40000000 in
theorem J0 {p : Program} {l : Launch} {e : Env} {s : State} {m : MethodId} {args : Array Value} {below : List Frame} {meth : Method} {c : Code} {T0 : State} {locs : List Loc} {cells slots : Nat} {Z : State} {a0 : Array Value} {h0 : Heap} (s0 : Slot) (s1 : Slot) (s2 : Slot) (s3 : Slot) (s4 : Slot) (s5 : Slot) (s6 : Slot) (s7 : Slot) (s8 : Slot) (s9 : Slot) (s10 : Slot) (s11 : Slot) (s12 : Slot) (s13 : Slot) (s14 : Slot) (s15 : Slot) (i16 : Int32) (s17 : Slot) (s18 : Slot) (s19 : Slot) (s20 : Slot) (s21 : Slot) (s22 : Slot) (s23 : Slot)
    (X0 : Stand p l e room_1 s m args below meth c T0 locs cells slots) (hx : p.tables.exec = Jvm.exec) (hZ : Z.Warmed39 s.vm) (hw : ∀ d ∈ tables_1, d.before a0 Z = true) (hby : c.code = code) (hml : c.maxLocals = 24) (hown : s.vm.findClass "com/example/bandmark/bandmark/PlainDecimalIsCompactPinLaw" = some m.cls) (e0 : T0.heap = h0) (hs23 : One s23) (hc513 : i16 < (48 : Int32)) :
    ∃ (T' : State), Stand p l e room_1 s m args below meth c T' locs cells slots ∧ T'.heap = h0 ∧
      ∀ target, Steps p.tables e below (T'.setTop (mkF m 530 #[s0, s1, s2, s3, s4, s5, s6, s7, s8, s9, s10, s11, s12, s13, s14, s15, .val (.int i16), s17, s18, s19, s20, s21, s22, .val (.int (0 : Int32))] [])) target → Steps p.tables e below (T0.setTop (mkF m 509 #[s0, s1, s2, s3, s4, s5, s6, s7, s8, s9, s10, s11, s12, s13, s14, s15, .val (.int i16), s17, s18, s19, s20, s21, s22, s23] [])) target := by
  refine ⟨T0, X0, e0, fun target kt => ?_⟩
  show Steps p.tables e below (T0.setTop (mkF m 509 #[s0, s1, s2, s3, s4, s5, s6, s7, s8, s9, s10, s11, s12, s13, s14, s15, .val (.int i16), s17, s18, s19, s20, s21, s22, s23] [])) _
  refine XS.iload X0.here hx rfl (hb hby at_509) rfl ?_
  show Steps p.tables e below (T0.setTop (mkF m 511 #[s0, s1, s2, s3, s4, s5, s6, s7, s8, s9, s10, s11, s12, s13, s14, s15, .val (.int i16), s17, s18, s19, s20, s21, s22, s23] [(.int i16)])) _
  refine XS.bipush X0.here hx rfl (hb hby at_511) ?_
  show Steps p.tables e below (T0.setTop (mkF m 513 #[s0, s1, s2, s3, s4, s5, s6, s7, s8, s9, s10, s11, s12, s13, s14, s15, .val (.int i16), s17, s18, s19, s20, s21, s22, s23] [(.int (48 : Int32)), (.int i16)])) _
  refine XS.icmpYes X0.here hx rfl (pc0 := 513) (pc' := 527) rfl (hb hby at_513) rfl (tlt hc513).1 (by decide) (by decide) ?_
  show Steps p.tables e below (T0.setTop (mkF m 527 #[s0, s1, s2, s3, s4, s5, s6, s7, s8, s9, s10, s11, s12, s13, s14, s15, .val (.int i16), s17, s18, s19, s20, s21, s22, s23] [])) _
  refine XS.iconst X0.here hx rfl (hb hby at_527) ?_
  show Steps p.tables e below (T0.setTop (mkF m 528 #[s0, s1, s2, s3, s4, s5, s6, s7, s8, s9, s10, s11, s12, s13, s14, s15, .val (.int i16), s17, s18, s19, s20, s21, s22, s23] [(.int (0 : Int32))])) _
  refine XS.istore X0.here hx rfl (hb hby at_528) rfl (l' := #[s0, s1, s2, s3, s4, s5, s6, s7, s8, s9, s10, s11, s12, s13, s14, s15, .val (.int i16), s17, s18, s19, s20, s21, s22, .val (.int (0 : Int32))]) (os0_528_J0 hs23) ?_
  exact kt
theorem os0_528_J1 {s0 : Slot} {s1 : Slot} {s2 : Slot} {s3 : Slot} {s4 : Slot} {s5 : Slot} {s6 : Slot} {s7 : Slot} {s8 : Slot} {s9 : Slot} {s10 : Slot} {s11 : Slot} {s12 : Slot} {s13 : Slot} {s14 : Slot} {s15 : Slot} {z16 : Value} {s17 : Slot} {s18 : Slot} {s19 : Slot} {s20 : Slot} {s21 : Slot} {s22 : Slot} {s23 : Slot} {v : Int32} (h : One s23) : storeLocals #[s0, s1, s2, s3, s4, s5, s6, s7, s8, s9, s10, s11, s12, s13, s14, s15, .val z16, s17, s18, s19, s20, s21, s22, s23] 23 (.int v) = some #[s0, s1, s2, s3, s4, s5, s6, s7, s8, s9, s10, s11, s12, s13, s14, s15, .val z16, s17, s18, s19, s20, s21, s22, .val (.int v)] := by
  rcases h with rfl | ⟨w, rfl, hw⟩
  · rfl
  · cases w <;> first | rfl | (simp [Value.category] at hw)
set_option maxRecDepth 65536 in
set_option maxHeartbeats 40000000 in
theorem J1 {p : Program} {l : Launch} {e : Env} {s : State} {m : MethodId} {args : Array Value} {below : List Frame} {meth : Method} {c : Code} {T0 : State} {locs : List Loc} {cells slots : Nat} {Z : State} {a0 : Array Value} {h0 : Heap} (s0 : Slot) (s1 : Slot) (s2 : Slot) (s3 : Slot) (s4 : Slot) (s5 : Slot) (s6 : Slot) (s7 : Slot) (s8 : Slot) (s9 : Slot) (s10 : Slot) (s11 : Slot) (s12 : Slot) (s13 : Slot) (s14 : Slot) (s15 : Slot) (i16 : Int32) (s17 : Slot) (s18 : Slot) (s19 : Slot) (s20 : Slot) (s21 : Slot) (s22 : Slot) (s23 : Slot)
    (X0 : Stand p l e room_1 s m args below meth c T0 locs cells slots) (hx : p.tables.exec = Jvm.exec) (hZ : Z.Warmed39 s.vm) (hw : ∀ d ∈ tables_1, d.before a0 Z = true) (hby : c.code = code) (hml : c.maxLocals = 24) (hown : s.vm.findClass "com/example/bandmark/bandmark/PlainDecimalIsCompactPinLaw" = some m.cls) (e0 : T0.heap = h0) (hs23 : One s23) (hc513 : ¬ (i16 < (48 : Int32))) (hc520 : (57 : Int32) < i16) :
    ∃ (T' : State), Stand p l e room_1 s m args below meth c T' locs cells slots ∧ T'.heap = h0 ∧
      ∀ target, Steps p.tables e below (T'.setTop (mkF m 530 #[s0, s1, s2, s3, s4, s5, s6, s7, s8, s9, s10, s11, s12, s13, s14, s15, .val (.int i16), s17, s18, s19, s20, s21, s22, .val (.int (0 : Int32))] [])) target → Steps p.tables e below (T0.setTop (mkF m 509 #[s0, s1, s2, s3, s4, s5, s6, s7, s8, s9, s10, s11, s12, s13, s14, s15, .val (.int i16), s17, s18, s19, s20, s21, s22, s23] [])) target := by
  refine ⟨T0, X0, e0, fun target kt => ?_⟩
  show Steps p.tables e below (T0.setTop (mkF m 509 #[s0, s1, s2, s3, s4, s5, s6, s7, s8, s9, s10, s11, s12, s13, s14, s15, .val (.int i16), s17, s18, s19, s20, s21, s22, s23] [])) _
  refine XS.iload X0.here hx rfl (hb hby at_509) rfl ?_
  show Steps p.tables e below (T0.setTop (mkF m 511 #[s0, s1, s2, s3, s4, s5, s6, s7, s8, s9, s10, s11, s12, s13, s14, s15, .val (.int i16), s17, s18, s19, s20, s21, s22, s23] [(.int i16)])) _
  refine XS.bipush X0.here hx rfl (hb hby at_511) ?_
  show Steps p.tables e below (T0.setTop (mkF m 513 #[s0, s1, s2, s3, s4, s5, s6, s7, s8, s9, s10, s11, s12, s13, s14, s15, .val (.int i16), s17, s18, s19, s20, s21, s22, s23] [(.int (48 : Int32)), (.int i16)])) _
  refine XS.icmpNo X0.here hx rfl (hb hby at_513) rfl (flt hc513).1 ?_
  show Steps p.tables e below (T0.setTop (mkF m 516 #[s0, s1, s2, s3, s4, s5, s6, s7, s8, s9, s10, s11, s12, s13, s14, s15, .val (.int i16), s17, s18, s19, s20, s21, s22, s23] [])) _
  refine XS.iload X0.here hx rfl (hb hby at_516) rfl ?_
  show Steps p.tables e below (T0.setTop (mkF m 518 #[s0, s1, s2, s3, s4, s5, s6, s7, s8, s9, s10, s11, s12, s13, s14, s15, .val (.int i16), s17, s18, s19, s20, s21, s22, s23] [(.int i16)])) _
  refine XS.bipush X0.here hx rfl (hb hby at_518) ?_
  show Steps p.tables e below (T0.setTop (mkF m 520 #[s0, s1, s2, s3, s4, s5, s6, s7, s8, s9, s10, s11, s12, s13, s14, s15, .val (.int i16), s17, s18, s19, s20, s21, s22, s23] [(.int (57 : Int32)), (.int i16)])) _
  refine XS.icmpYes X0.here hx rfl (pc0 := 520) (pc' := 527) rfl (hb hby at_520) rfl (tlt hc520).2.2.1 (by decide) (by decide) ?_
  show Steps p.tables e below (T0.setTop (mkF m 527 #[s0, s1, s2, s3, s4, s5, s6, s7, s8, s9, s10, s11, s12, s13, s14, s15, .val (.int i16), s17, s18, s19, s20, s21, s22, s23] [])) _
  refine XS.iconst X0.here hx rfl (hb hby at_527) ?_
  show Steps p.tables e below (T0.setTop (mkF m 528 #[s0, s1, s2, s3, s4, s5, s6, s7, s8, s9, s10, s11, s12, s13, s14, s15, .val (.int i16), s17, s18, s19, s20, s21, s22, s23] [(.int (0 : Int32))])) _
  refine XS.istore X0.here hx rfl (hb hby at_528) rfl (l' := #[s0, s1, s2, s3, s4, s5, s6, s7, s8, s9, s10, s11, s12, s13, s14, s15, .val (.int i16), s17, s18, s19, s20, s21, s22, .val (.int (0 : Int32))]) (os0_528_J1 hs23) ?_
  exact kt
theorem os0_528_J2 {s0 : Slot} {s1 : Slot} {s2 : Slot} {s3 : Slot} {s4 : Slot} {s5 : Slot} {s6 : Slot} {s7 : Slot} {s8 : Slot} {s9 : Slot} {s10 : Slot} {s11 : Slot} {s12 : Slot} {s13 : Slot} {s14 : Slot} {s15 : Slot} {z16 : Value} {s17 : Slot} {s18 : Slot} {s19 : Slot} {s20 : Slot} {s21 : Slot} {s22 : Slot} {s23 : Slot} {v : Int32} (h : One s23) : storeLocals #[s0, s1, s2, s3, s4, s5, s6, s7, s8, s9, s10, s11, s12, s13, s14, s15, .val z16, s17, s18, s19, s20, s21, s22, s23] 23 (.int v) = some #[s0, s1, s2, s3, s4, s5, s6, s7, s8, s9, s10, s11, s12, s13, s14, s15, .val z16, s17, s18, s19, s20, s21, s22, .val (.int v)] := by
  rcases h with rfl | ⟨w, rfl, hw⟩
  · rfl
  · cases w <;> first | rfl | (simp [Value.category] at hw)
set_option maxRecDepth 65536 in
set_option maxHeartbeats 40000000 in
theorem J2 {p : Program} {l : Launch} {e : Env} {s : State} {m : MethodId} {args : Array Value} {below : List Frame} {meth : Method} {c : Code} {T0 : State} {locs : List Loc} {cells slots : Nat} {Z : State} {a0 : Array Value} {h0 : Heap} (s0 : Slot) (s1 : Slot) (s2 : Slot) (s3 : Slot) (s4 : Slot) (s5 : Slot) (s6 : Slot) (s7 : Slot) (s8 : Slot) (s9 : Slot) (s10 : Slot) (s11 : Slot) (s12 : Slot) (s13 : Slot) (s14 : Slot) (s15 : Slot) (i16 : Int32) (s17 : Slot) (s18 : Slot) (s19 : Slot) (s20 : Slot) (s21 : Slot) (s22 : Slot) (s23 : Slot)
    (X0 : Stand p l e room_1 s m args below meth c T0 locs cells slots) (hx : p.tables.exec = Jvm.exec) (hZ : Z.Warmed39 s.vm) (hw : ∀ d ∈ tables_1, d.before a0 Z = true) (hby : c.code = code) (hml : c.maxLocals = 24) (hown : s.vm.findClass "com/example/bandmark/bandmark/PlainDecimalIsCompactPinLaw" = some m.cls) (e0 : T0.heap = h0) (hs23 : One s23) (hc513 : ¬ (i16 < (48 : Int32))) (hc520 : ¬ ((57 : Int32) < i16)) :
    ∃ (T' : State), Stand p l e room_1 s m args below meth c T' locs cells slots ∧ T'.heap = h0 ∧
      ∀ target, Steps p.tables e below (T'.setTop (mkF m 530 #[s0, s1, s2, s3, s4, s5, s6, s7, s8, s9, s10, s11, s12, s13, s14, s15, .val (.int i16), s17, s18, s19, s20, s21, s22, .val (.int (1 : Int32))] [])) target → Steps p.tables e below (T0.setTop (mkF m 509 #[s0, s1, s2, s3, s4, s5, s6, s7, s8, s9, s10, s11, s12, s13, s14, s15, .val (.int i16), s17, s18, s19, s20, s21, s22, s23] [])) target := by
  refine ⟨T0, X0, e0, fun target kt => ?_⟩
  show Steps p.tables e below (T0.setTop (mkF m 509 #[s0, s1, s2, s3, s4, s5, s6, s7, s8, s9, s10, s11, s12, s13, s14, s15, .val (.int i16), s17, s18, s19, s20, s21, s22, s23] [])) _
  refine XS.iload X0.here hx rfl (hb hby at_509) rfl ?_
  show Steps p.tables e below (T0.setTop (mkF m 511 #[s0, s1, s2, s3, s4, s5, s6, s7, s8, s9, s10, s11, s12, s13, s14, s15, .val (.int i16), s17, s18, s19, s20, s21, s22, s23] [(.int i16)])) _
  refine XS.bipush X0.here hx rfl (hb hby at_511) ?_
  show Steps p.tables e below (T0.setTop (mkF m 513 #[s0, s1, s2, s3, s4, s5, s6, s7, s8, s9, s10, s11, s12, s13, s14, s15, .val (.int i16), s17, s18, s19, s20, s21, s22, s23] [(.int (48 : Int32)), (.int i16)])) _
  refine XS.icmpNo X0.here hx rfl (hb hby at_513) rfl (flt hc513).1 ?_
  show Steps p.tables e below (T0.setTop (mkF m 516 #[s0, s1, s2, s3, s4, s5, s6, s7, s8, s9, s10, s11, s12, s13, s14, s15, .val (.int i16), s17, s18, s19, s20, s21, s22, s23] [])) _
  refine XS.iload X0.here hx rfl (hb hby at_516) rfl ?_
  show Steps p.tables e below (T0.setTop (mkF m 518 #[s0, s1, s2, s3, s4, s5, s6, s7, s8, s9, s10, s11, s12, s13, s14, s15, .val (.int i16), s17, s18, s19, s20, s21, s22, s23] [(.int i16)])) _
  refine XS.bipush X0.here hx rfl (hb hby at_518) ?_
  show Steps p.tables e below (T0.setTop (mkF m 520 #[s0, s1, s2, s3, s4, s5, s6, s7, s8, s9, s10, s11, s12, s13, s14, s15, .val (.int i16), s17, s18, s19, s20, s21, s22, s23] [(.int (57 : Int32)), (.int i16)])) _
  refine XS.icmpNo X0.here hx rfl (hb hby at_520) rfl (flt hc520).2.2.1 ?_
  show Steps p.tables e below (T0.setTop (mkF m 523 #[s0, s1, s2, s3, s4, s5, s6, s7, s8, s9, s10, s11, s12, s13, s14, s15, .val (.int i16), s17, s18, s19, s20, s21, s22, s23] [])) _
  refine XS.iconst X0.here hx rfl (hb hby at_523) ?_
  show Steps p.tables e below (T0.setTop (mkF m 524 #[s0, s1, s2, s3, s4, s5, s6, s7, s8, s9, s10, s11, s12, s13, s14, s15, .val (.int i16), s17, s18, s19, s20, s21, s22, s23] [(.int (1 : Int32))])) _
  refine XS.goto X0.here hx rfl (pc0 := 524) (pc' := 528) rfl (hb hby at_524) (by decide) (by decide) ?_
  show Steps p.tables e below (T0.setTop (mkF m 528 #[s0, s1, s2, s3, s4, s5, s6, s7, s8, s9, s10, s11, s12, s13, s14, s15, .val (.int i16), s17, s18, s19, s20, s21, s22, s23] [(.int (1 : Int32))])) _
  refine XS.istore X0.here hx rfl (hb hby at_528) rfl (l' := #[s0, s1, s2, s3, s4, s5, s6, s7, s8, s9, s10, s11, s12, s13, s14, s15, .val (.int i16), s17, s18, s19, s20, s21, s22, .val (.int (1 : Int32))]) (os0_528_J2 hs23) ?_
  exact kt
set_option maxRecDepth 65536 in
set_option maxHeartbeats 40000000 in
theorem J3 {p : Program} {l : Launch} {e : Env} {s : State} {m : MethodId} {args : Array Value} {below : List Frame} {meth : Method} {c : Code} {T0 : State} {locs : List Loc} {cells slots : Nat} {Z : State} {a0 : Array Value} {h0 : Heap} (s0 : Slot) (s1 : Slot) (s2 : Slot) (s3 : Slot) (s4 : Slot) (s5 : Slot) (s6 : Slot) (s7 : Slot) (s8 : Slot) (s9 : Slot) (s10 : Slot) (s11 : Slot) (s12 : Slot) (s13 : Slot) (s14 : Slot) (s15 : Slot) (s16 : Slot) (s17 : Slot) (s18 : Slot) (s19 : Slot) (s20 : Slot) (i21 : Int32) (s22 : Slot) (i23 : Int32)
    (X0 : Stand p l e room_1 s m args below meth c T0 locs cells slots) (hx : p.tables.exec = Jvm.exec) (hZ : Z.Warmed39 s.vm) (hw : ∀ d ∈ tables_1, d.before a0 Z = true) (hby : c.code = code) (hml : c.maxLocals = 24) (hown : s.vm.findClass "com/example/bandmark/bandmark/PlainDecimalIsCompactPinLaw" = some m.cls) (e0 : T0.heap = h0) (hc534 : i21 = i23) (hc541 : i23 = (0 : Int32)) :
    ∃ (T' : State), Stand p l e room_1 s m args below meth c T' locs cells slots ∧ T'.heap = h0 ∧
      ∀ target, Steps p.tables e below (T'.setTop (mkF m 547 #[s0, s1, s2, s3, s4, s5, s6, s7, s8, s9, s10, s11, s12, s13, s14, s15, s16, s17, s18, s19, s20, .val (.int i21), s22, .val (.int i23)] [])) target → Steps p.tables e below (T0.setTop (mkF m 530 #[s0, s1, s2, s3, s4, s5, s6, s7, s8, s9, s10, s11, s12, s13, s14, s15, s16, s17, s18, s19, s20, .val (.int i21), s22, .val (.int i23)] [])) target := by
  refine ⟨T0, X0, e0, fun target kt => ?_⟩
  show Steps p.tables e below (T0.setTop (mkF m 530 #[s0, s1, s2, s3, s4, s5, s6, s7, s8, s9, s10, s11, s12, s13, s14, s15, s16, s17, s18, s19, s20, .val (.int i21), s22, .val (.int i23)] [])) _
  refine XS.iload X0.here hx rfl (hb hby at_530) rfl ?_
  show Steps p.tables e below (T0.setTop (mkF m 532 #[s0, s1, s2, s3, s4, s5, s6, s7, s8, s9, s10, s11, s12, s13, s14, s15, s16, s17, s18, s19, s20, .val (.int i21), s22, .val (.int i23)] [(.int i21)])) _
  refine XS.iload X0.here hx rfl (hb hby at_532) rfl ?_
  show Steps p.tables e below (T0.setTop (mkF m 534 #[s0, s1, s2, s3, s4, s5, s6, s7, s8, s9, s10, s11, s12, s13, s14, s15, s16, s17, s18, s19, s20, .val (.int i21), s22, .val (.int i23)] [(.int i23), (.int i21)])) _
  refine XS.icmpYes X0.here hx rfl (pc0 := 534) (pc' := 539) rfl (hb hby at_534) rfl (teq hc534).1 (by decide) (by decide) ?_
  show Steps p.tables e below (T0.setTop (mkF m 539 #[s0, s1, s2, s3, s4, s5, s6, s7, s8, s9, s10, s11, s12, s13, s14, s15, s16, s17, s18, s19, s20, .val (.int i21), s22, .val (.int i23)] [])) _
  refine XS.iload X0.here hx rfl (hb hby at_539) rfl ?_
  show Steps p.tables e below (T0.setTop (mkF m 541 #[s0, s1, s2, s3, s4, s5, s6, s7, s8, s9, s10, s11, s12, s13, s14, s15, s16, s17, s18, s19, s20, .val (.int i21), s22, .val (.int i23)] [(.int i23)])) _
  refine XS.ifYes X0.here hx rfl (pc0 := 541) (pc' := 547) rfl (hb hby at_541) rfl ((if0 _ _).trans (teq hc541).1) (by decide) (by decide) ?_
  exact kt
set_option maxRecDepth 65536 in
set_option maxHeartbeats 40000000 in
theorem J4 {p : Program} {l : Launch} {e : Env} {s : State} {m : MethodId} {args : Array Value} {below : List Frame} {meth : Method} {c : Code} {T0 : State} {locs : List Loc} {cells slots : Nat} {Z : State} {a0 : Array Value} {h0 : Heap} (s0 : Slot) (s1 : Slot) (s2 : Slot) (s3 : Slot) (s4 : Slot) (s5 : Slot) (s6 : Slot) (s7 : Slot) (s8 : Slot) (s9 : Slot) (s10 : Slot) (s11 : Slot) (s12 : Slot) (s13 : Slot) (s14 : Slot) (s15 : Slot) (s16 : Slot) (s17 : Slot) (s18 : Slot) (s19 : Slot) (s20 : Slot) (i21 : Int32) (s22 : Slot) (i23 : Int32)
    (X0 : Stand p l e room_1 s m args below meth c T0 locs cells slots) (hx : p.tables.exec = Jvm.exec) (hZ : Z.Warmed39 s.vm) (hw : ∀ d ∈ tables_1, d.before a0 Z = true) (hby : c.code = code) (hml : c.maxLocals = 24) (hown : s.vm.findClass "com/example/bandmark/bandmark/PlainDecimalIsCompactPinLaw" = some m.cls) (e0 : T0.heap = h0) (hc534 : i21 = i23) (hc541 : ¬ (i23 = (0 : Int32))) :
    ∃ (T' : State), Stand p l e room_1 s m args below meth c T' locs cells slots ∧ T'.heap = h0 ∧
      ∀ target, Steps p.tables e below (T'.setTop (mkF m 544 #[s0, s1, s2, s3, s4, s5, s6, s7, s8, s9, s10, s11, s12, s13, s14, s15, s16, s17, s18, s19, s20, .val (.int i21), s22, .val (.int i23)] [])) target → Steps p.tables e below (T0.setTop (mkF m 530 #[s0, s1, s2, s3, s4, s5, s6, s7, s8, s9, s10, s11, s12, s13, s14, s15, s16, s17, s18, s19, s20, .val (.int i21), s22, .val (.int i23)] [])) target := by
  refine ⟨T0, X0, e0, fun target kt => ?_⟩
  show Steps p.tables e below (T0.setTop (mkF m 530 #[s0, s1, s2, s3, s4, s5, s6, s7, s8, s9, s10, s11, s12, s13, s14, s15, s16, s17, s18, s19, s20, .val (.int i21), s22, .val (.int i23)] [])) _
  refine XS.iload X0.here hx rfl (hb hby at_530) rfl ?_
  show Steps p.tables e below (T0.setTop (mkF m 532 #[s0, s1, s2, s3, s4, s5, s6, s7, s8, s9, s10, s11, s12, s13, s14, s15, s16, s17, s18, s19, s20, .val (.int i21), s22, .val (.int i23)] [(.int i21)])) _
  refine XS.iload X0.here hx rfl (hb hby at_532) rfl ?_
  show Steps p.tables e below (T0.setTop (mkF m 534 #[s0, s1, s2, s3, s4, s5, s6, s7, s8, s9, s10, s11, s12, s13, s14, s15, s16, s17, s18, s19, s20, .val (.int i21), s22, .val (.int i23)] [(.int i23), (.int i21)])) _
  refine XS.icmpYes X0.here hx rfl (pc0 := 534) (pc' := 539) rfl (hb hby at_534) rfl (teq hc534).1 (by decide) (by decide) ?_
  show Steps p.tables e below (T0.setTop (mkF m 539 #[s0, s1, s2, s3, s4, s5, s6, s7, s8, s9, s10, s11, s12, s13, s14, s15, s16, s17, s18, s19, s20, .val (.int i21), s22, .val (.int i23)] [])) _
  refine XS.iload X0.here hx rfl (hb hby at_539) rfl ?_
  show Steps p.tables e below (T0.setTop (mkF m 541 #[s0, s1, s2, s3, s4, s5, s6, s7, s8, s9, s10, s11, s12, s13, s14, s15, s16, s17, s18, s19, s20, .val (.int i21), s22, .val (.int i23)] [(.int i23)])) _
  refine XS.ifNo X0.here hx rfl (hb hby at_541) rfl ((if0 _ _).trans (feq hc541).1) ?_
  exact kt
set_option maxRecDepth 65536 in
set_option maxHeartbeats 40000000 in
theorem J5 {p : Program} {l : Launch} {e : Env} {s : State} {m : MethodId} {args : Array Value} {below : List Frame} {meth : Method} {c : Code} {T0 : State} {locs : List Loc} {cells slots : Nat} {Z : State} {a0 : Array Value} {h0 : Heap} (s0 : Slot) (s1 : Slot) (s2 : Slot) (s3 : Slot) (s4 : Slot) (s5 : Slot) (s6 : Slot) (s7 : Slot) (s8 : Slot) (s9 : Slot) (s10 : Slot) (s11 : Slot) (s12 : Slot) (s13 : Slot) (s14 : Slot) (s15 : Slot) (s16 : Slot) (s17 : Slot) (s18 : Slot) (s19 : Slot) (i20 : Int32) (s21 : Slot) (i22 : Int32) (s23 : Slot)
    (X0 : Stand p l e room_1 s m args below meth c T0 locs cells slots) (hx : p.tables.exec = Jvm.exec) (hZ : Z.Warmed39 s.vm) (hw : ∀ d ∈ tables_1, d.before a0 Z = true) (hby : c.code = code) (hml : c.maxLocals = 24) (hown : s.vm.findClass "com/example/bandmark/bandmark/PlainDecimalIsCompactPinLaw" = some m.cls) (e0 : T0.heap = h0) (hc551 : i22 = i20) :
    ∃ (T' : State), Stand p l e room_1 s m args below meth c T' locs cells slots ∧ T'.heap = h0 ∧
      ∀ target, Steps p.tables e below (T'.setTop (mkF m 554 #[s0, s1, s2, s3, s4, s5, s6, s7, s8, s9, s10, s11, s12, s13, s14, s15, s16, s17, s18, s19, .val (.int i20), s21, .val (.int i22), s23] [])) target → Steps p.tables e below (T0.setTop (mkF m 547 #[s0, s1, s2, s3, s4, s5, s6, s7, s8, s9, s10, s11, s12, s13, s14, s15, s16, s17, s18, s19, .val (.int i20), s21, .val (.int i22), s23] [])) target := by
  refine ⟨T0, X0, e0, fun target kt => ?_⟩
  show Steps p.tables e below (T0.setTop (mkF m 547 #[s0, s1, s2, s3, s4, s5, s6, s7, s8, s9, s10, s11, s12, s13, s14, s15, s16, s17, s18, s19, .val (.int i20), s21, .val (.int i22), s23] [])) _
  refine XS.iload X0.here hx rfl (hb hby at_547) rfl ?_
  show Steps p.tables e below (T0.setTop (mkF m 549 #[s0, s1, s2, s3, s4, s5, s6, s7, s8, s9, s10, s11, s12, s13, s14, s15, s16, s17, s18, s19, .val (.int i20), s21, .val (.int i22), s23] [(.int i22)])) _
  refine XS.iload X0.here hx rfl (hb hby at_549) rfl ?_
  show Steps p.tables e below (T0.setTop (mkF m 551 #[s0, s1, s2, s3, s4, s5, s6, s7, s8, s9, s10, s11, s12, s13, s14, s15, s16, s17, s18, s19, .val (.int i20), s21, .val (.int i22), s23] [(.int i20), (.int i22)])) _
  refine XS.icmpNo X0.here hx rfl (hb hby at_551) rfl (teq hc551).2 ?_
  exact kt
theorem os0_500_own_I {s0 : Slot} {s1 : Slot} {s2 : Slot} {s3 : Slot} {s4 : Slot} {s5 : Slot} {s6 : Slot} {s7 : Slot} {s8 : Slot} {s9 : Slot} {s10 : Slot} {s11 : Slot} {s12 : Slot} {s13 : Slot} {s14 : Slot} {s15 : Slot} {s16 : Slot} {z17 : Value} {z18 : Value} {s19 : Slot} {s20 : Slot} {s21 : Slot} {s22 : Slot} {s23 : Slot} {v : Int32} (h : One s21) : storeLocals #[s0, s1, s2, s3, s4, s5, s6, s7, s8, s9, s10, s11, s12, s13, s14, s15, s16, .val z17, .val z18, s19, s20, s21, s22, s23] 21 (.int v) = some #[s0, s1, s2, s3, s4, s5, s6, s7, s8, s9, s10, s11, s12, s13, s14, s15, s16, .val z17, .val z18, s19, s20, .val (.int v), s22, s23] := by
  rcases h with rfl | ⟨w, rfl, hw⟩
  · rfl
  · cases w <;> first | rfl | (simp [Value.category] at hw)
theorem os0_507_own_I {s0 : Slot} {s1 : Slot} {s2 : Slot} {s3 : Slot} {s4 : Slot} {s5 : Slot} {s6 : Slot} {s7 : Slot} {s8 : Slot} {s9 : Slot} {s10 : Slot} {s11 : Slot} {s12 : Slot} {s13 : Slot} {s14 : Slot} {s15 : Slot} {s16 : Slot} {z17 : Value} {z18 : Value} {s19 : Slot} {s20 : Slot} {z21 : Value} {s22 : Slot} {s23 : Slot} {v : Int32} (h : One s22) : storeLocals #[s0, s1, s2, s3, s4, s5, s6, s7, s8, s9, s10, s11, s12, s13, s14, s15, s16, .val z17, .val z18, s19, s20, .val z21, s22, s23] 22 (.int v) = some #[s0, s1, s2, s3, s4, s5, s6, s7, s8, s9, s10, s11, s12, s13, s14, s15, s16, .val z17, .val z18, s19, s20, .val z21, .val (.int v), s23] := by
  rcases h with rfl | ⟨w, rfl, hw⟩
  · rfl
  · cases w <;> first | rfl | (simp [Value.category] at hw)
set_option maxRecDepth 65536 in
set_option maxHeartbeats 40000000 in
theorem own_I {p : Program} {l : Launch} {e : Env} {s : State} {m : MethodId} {args : Array Value} {below : List Frame} {meth : Method} {c : Code} {T0 : State} {locs : List Loc} {Z : State} {a0 : Array Value} {h0 : Heap} (s0 : Slot) (s1 : Slot) (s2 : Slot) (s3 : Slot) (s4 : Slot) (s5 : Slot) (s6 : Slot) (s7 : Slot) (s8 : Slot) (s9 : Slot) (s10 : Slot) (s11 : Slot) (s12 : Slot) (s13 : Slot) (s14 : Slot) (s15 : Slot) (s16 : Slot) (o17 : Addr) (o18 : Addr) (s19 : Slot) (s20 : Slot) (s21 : Slot) (s22 : Slot) (s23 : Slot) (cs : List Int32) (d : Int32) (G1 : Int32) (fm : Value) (n0 : Nat)
    (X0 : Stand p l e room_1 s m args below meth c T0 locs 6 59) (hx : p.tables.exec = Jvm.exec) (hZ : Z.Warmed39 s.vm) (hw : ∀ d ∈ tables_1, d.before a0 Z = true) (hby : c.code = code) (hml : c.maxLocals = 24) (hown : s.vm.findClass "com/example/bandmark/bandmark/PlainDecimalIsCompactPinLaw" = some m.cls) (e0 : T0.heap = h0) (O0 : Old Z n0 h0) (O2 : Sta Z Z.heap "java/lang/String" "COMPACT_STRINGS" "Z" (.int G1)) (P5 : ¬ (G1 = (0 : Int32))) (O3 : Sta Z Z.heap "jdk/internal/util/Preconditions" "SIOOBE_FORMATTER" "Ljava/util/function/BiFunction;" fm) (rf : fm.isRef = true) (S17 : own_St Z h0 o17 cs) (hcs : cs.length = 1) (HP : own_PD Z h0 o18 d) (g18 : n0 ≤ o18) (Z0 : n0 ≤ h0.size) (N0 : Fr n0 locs) (hs21 : One s21) (hs22 : One s22) :
    ∃ (T' : State) (locs' : List Loc), Stand p l e room_1 s m args below meth c T' locs' 6 59 ∧ Fr n0 locs' ∧
      ∀ target, Steps p.tables e below (T'.setTop (mkF m 509 #[s0, s1, s2, s3, s4, s5, s6, s7, s8, s9, s10, s11, s12, s13, s14, s15, s16, .val (.ref o17), .val (.ref o18), s19, s20, .val (.int (own_r (own_read (fun j => cs.getD j 0) 0 1))), .val (.int (own_c (own_nd (own_read (fun j => cs.getD j 0) 0 1) d))), s23] [])) target → Steps p.tables e below (T0.setTop (mkF m 491 #[s0, s1, s2, s3, s4, s5, s6, s7, s8, s9, s10, s11, s12, s13, s14, s15, s16, .val (.ref o17), .val (.ref o18), s19, s20, s21, s22, s23] [])) target := by
  obtain ⟨cq7, kq7, q7a, q7b, q7c⟩ := isOf hZ e0 HP.1
  obtain ⟨_, _, ⟨T7, L7, k7, n7⟩, -, X7, ⟨Lc7, hQ7, l7, y7, z7⟩, st7⟩ := X0.virtualBack hx (y := (⟨"com/example/bandmark/bandmark/PlainDecimal", "read", "(Ljava/lang/String;II)Z"⟩ : MethodName)) (z := (⟨"com/example/bandmark/bandmark/PlainDecimal", "read", "(Ljava/lang/String;II)Z"⟩ : MethodName)) hown (mvT hZ (hw _ (List.mem_of_getElem? (i := 58) rfl))) (mvT hZ (hw _ (List.mem_of_getElem? (i := 59) rfl))) (notFace_of_selects (args := #[]) (mvT hZ (hw _ (List.mem_of_getElem? (i := 61) rfl)))) (mvT hZ (hw _ (List.mem_of_getElem? (i := 61) rfl))) (mvT hZ (hw _ (List.mem_of_getElem? (i := 60) rfl))) (by decide) (backOf (W := 0) (r13 l Z a0 hw [] o18 o17 (0 : Int32) (1 : Int32) cs 0 1 d h0 n0 Z0 rfl rfl (by decide) (by omega) (S17.tx (O2.ext O0.2) P5 (O3.ext O0.2) rf) HP g18) hZ (hw _ (List.mem_of_getElem? (i := 62) rfl)) (hw _ (List.mem_of_getElem? (i := 53) rfl)) (by decide) (by decide)) q7a q7c (g := (mkF m 497 #[s0, s1, s2, s3, s4, s5, s6, s7, s8, s9, s10, s11, s12, s13, s14, s15, s16, .val (.ref o17), .val (.ref o18), s19, s20, s21, s22, s23] [(.int (1 : Int32)), (.int (0 : Int32)), (.ref o17), (.ref o18)])) rfl (by rw [hml]; rfl) (Steps.refl _) (argsL := [(.ref o17), (.int (0 : Int32)), (.int (1 : Int32))]) (rest := []) (lenOf pd_0_11 rfl) rfl (by show 2 * 0 + _ ≤ _; exact Nat.le_of_eq rfl) (hb hby at_497) (fun _ _ => ⟨rfl, e0, (by decide : 6 + 0 ≤ _), (by decide : 59 + 0 ≤ _)⟩)
  dsimp only [Pt.U, Pt.locs, Pt.cells, Pt.slots] at X7 l7 y7 z7 st7 hQ7
  subst l7 y7 z7
  obtain ⟨rfl, N7q, Kr, Pr⟩ := hQ7
  have N7 := Fr.app N0 N7q
  obtain ⟨cq8, kq8, q8a, q8b, q8c⟩ := isOf hZ rfl Pr.1
  obtain ⟨_, _, ⟨T8, L8, k8, n8⟩, -, X8, ⟨Lc8, hQ8, l8, y8, z8⟩, st8⟩ := X7.virtualBack hx (y := (⟨"com/example/bandmark/bandmark/PlainDecimal", "isCompact", "()Z"⟩ : MethodName)) (z := (⟨"com/example/bandmark/bandmark/PlainDecimal", "isCompact", "()Z"⟩ : MethodName)) hown (mvT hZ (hw _ (List.mem_of_getElem? (i := 63) rfl))) (mvT hZ (hw _ (List.mem_of_getElem? (i := 64) rfl))) (notFace_of_selects (args := #[]) (mvT hZ (hw _ (List.mem_of_getElem? (i := 66) rfl)))) (mvT hZ (hw _ (List.mem_of_getElem? (i := 66) rfl))) (mvT hZ (hw _ (List.mem_of_getElem? (i := 65) rfl))) (by decide) (backOf (W := 0) (r14 l Z a0 hw [] o18 (own_nd (own_read (fun j => cs.getD j 0) 0 1) d) T7.heap n0 (Nat.le_trans Z0 Kr.1) Pr.2.2.2.2.2.2) hZ (hw _ (List.mem_of_getElem? (i := 67) rfl)) (hw _ (List.mem_of_getElem? (i := 53) rfl)) (by decide) (by decide)) q8a q8c (g := (mkF m 504 #[s0, s1, s2, s3, s4, s5, s6, s7, s8, s9, s10, s11, s12, s13, s14, s15, s16, .val (.ref o17), .val (.ref o18), s19, s20, .val (.int (own_r (own_read (fun j => cs.getD j 0) 0 1))), s22, s23] [(.ref o18)])) rfl (by rw [hml]; rfl) (Steps.refl _) (argsL := []) (rest := []) (lenOf pd_0_12 rfl) rfl (by show 2 * 0 + _ ≤ _; exact Nat.le_of_eq rfl) (hb hby at_504) (fun _ _ => ⟨rfl, rfl, (by decide : 6 + 0 ≤ _), (by decide : 59 + 0 ≤ _)⟩)
  dsimp only [Pt.U, Pt.locs, Pt.cells, Pt.slots] at X8 l8 y8 z8 st8 hQ8
  subst l8 y8 z8
  obtain ⟨rfl, N8q, e8⟩ := hQ8
  have N8 := Fr.app N7 N8q
  refine ⟨T8, _, X8, N8, fun target kt => ?_⟩
  show Steps p.tables e below (T0.setTop (mkF m 491 #[s0, s1, s2, s3, s4, s5, s6, s7, s8, s9, s10, s11, s12, s13, s14, s15, s16, .val (.ref o17), .val (.ref o18), s19, s20, s21, s22, s23] [])) _
  refine XS.aload X0.here hx rfl (hb hby at_491) rfl rfl ?_
  show Steps p.tables e below (T0.setTop (mkF m 493 #[s0, s1, s2, s3, s4, s5, s6, s7, s8, s9, s10, s11, s12, s13, s14, s15, s16, .val (.ref o17), .val (.ref o18), s19, s20, s21, s22, s23] [(.ref o18)])) _
  refine XS.aload X0.here hx rfl (hb hby at_493) rfl rfl ?_
  show Steps p.tables e below (T0.setTop (mkF m 495 #[s0, s1, s2, s3, s4, s5, s6, s7, s8, s9, s10, s11, s12, s13, s14, s15, s16, .val (.ref o17), .val (.ref o18), s19, s20, s21, s22, s23] [(.ref o17), (.ref o18)])) _
  refine XS.iconst X0.here hx rfl (hb hby at_495) ?_
  show Steps p.tables e below (T0.setTop (mkF m 496 #[s0, s1, s2, s3, s4, s5, s6, s7, s8, s9, s10, s11, s12, s13, s14, s15, s16, .val (.ref o17), .val (.ref o18), s19, s20, s21, s22, s23] [(.int (0 : Int32)), (.ref o17), (.ref o18)])) _
  refine XS.iconst X0.here hx rfl (hb hby at_496) ?_
  show Steps p.tables e below (T0.setTop (mkF m 497 #[s0, s1, s2, s3, s4, s5, s6, s7, s8, s9, s10, s11, s12, s13, s14, s15, s16, .val (.ref o17), .val (.ref o18), s19, s20, s21, s22, s23] [(.int (1 : Int32)), (.int (0 : Int32)), (.ref o17), (.ref o18)])) _
  refine st7.trans ?_
  show Steps p.tables e below (T7.setTop (mkF m 500 #[s0, s1, s2, s3, s4, s5, s6, s7, s8, s9, s10, s11, s12, s13, s14, s15, s16, .val (.ref o17), .val (.ref o18), s19, s20, s21, s22, s23] [(.int (own_r (own_read (fun j => cs.getD j 0) 0 1)))])) _
  refine XS.istore X7.here hx rfl (hb hby at_500) rfl (l' := #[s0, s1, s2, s3, s4, s5, s6, s7, s8, s9, s10, s11, s12, s13, s14, s15, s16, .val (.ref o17), .val (.ref o18), s19, s20, .val (.int (own_r (own_read (fun j => cs.getD j 0) 0 1))), s22, s23]) (os0_500_own_I hs21) ?_
  show Steps p.tables e below (T7.setTop (mkF m 502 #[s0, s1, s2, s3, s4, s5, s6, s7, s8, s9, s10, s11, s12, s13, s14, s15, s16, .val (.ref o17), .val (.ref o18), s19, s20, .val (.int (own_r (own_read (fun j => cs.getD j 0) 0 1))), s22, s23] [])) _
  refine XS.aload X7.here hx rfl (hb hby at_502) rfl rfl ?_
  show Steps p.tables e below (T7.setTop (mkF m 504 #[s0, s1, s2, s3, s4, s5, s6, s7, s8, s9, s10, s11, s12, s13, s14, s15, s16, .val (.ref o17), .val (.ref o18), s19, s20, .val (.int (own_r (own_read (fun j => cs.getD j 0) 0 1))), s22, s23] [(.ref o18)])) _
  refine st8.trans ?_
  show Steps p.tables e below (T8.setTop (mkF m 507 #[s0, s1, s2, s3, s4, s5, s6, s7, s8, s9, s10, s11, s12, s13, s14, s15, s16, .val (.ref o17), .val (.ref o18), s19, s20, .val (.int (own_r (own_read (fun j => cs.getD j 0) 0 1))), s22, s23] [(.int (own_c (own_nd (own_read (fun j => cs.getD j 0) 0 1) d)))])) _
  refine XS.istore X8.here hx rfl (hb hby at_507) rfl (l' := #[s0, s1, s2, s3, s4, s5, s6, s7, s8, s9, s10, s11, s12, s13, s14, s15, s16, .val (.ref o17), .val (.ref o18), s19, s20, .val (.int (own_r (own_read (fun j => cs.getD j 0) 0 1))), .val (.int (own_c (own_nd (own_read (fun j => cs.getD j 0) 0 1) d))), s23]) (os0_507_own_I hs22) ?_
  exact kt
def own_dig (c : Int32) : Prop := ¬ c < 48 ∧ ¬ 57 < c
theorem own_getD_set (l : List Int32) (i j : Nat) (v : Int32) (hj : j < l.length) : (l.set i v).getD j 0 = if i = j then v else l.getD j 0 := by
  simp only [List.getD_eq_getElem?_getD, List.getElem?_set]
  by_cases h : i = j
  · subst h; simp [hj]
  · simp [h]
theorem own_dig_at (cs : List Int32) (hd : ∀ c ∈ cs, own_dig c) (j : Nat) (hj : j < cs.length) : own_dig (cs.getD j 0) := by
  have e : cs.getD j 0 = cs[j] := by simp [List.getD_eq_getElem?_getD, hj]
  rw [e]
  exact hd _ (List.getElem_mem hj)
theorem own_f (cs : List Int32) (h22 : cs.length = 22) (nS nQ j : Nat) (hj : j < 22) : (own_cs2 nQ (own_cs1 nS cs)).getD j 0 = if own_hp nQ = true ∧ nQ = j then 46 else if j = 0 ∧ nS = 0 then 45 else if j = 0 ∧ nS = 1 then 43 else cs.getD j 0 := by
  have h1 : (own_cs1 nS cs).getD j 0 = if j = 0 ∧ nS = 0 then 45 else if j = 0 ∧ nS = 1 then 43 else cs.getD j 0 := by
    unfold own_cs1
    by_cases a0 : nS = 0
    · rw [if_pos a0, own_getD_set _ _ _ _ (by omega)]
      by_cases j0 : j = 0
      · rw [if_pos j0.symm, if_pos ⟨j0, a0⟩]
      · rw [if_neg (fun q => j0 q.symm), if_neg (fun q => j0 q.1), if_neg (fun q => j0 q.1)]
    · rw [if_neg a0]
      by_cases a1 : nS = 1
      · rw [if_pos a1, own_getD_set _ _ _ _ (by omega)]
        by_cases j0 : j = 0
        · rw [if_pos j0.symm, if_neg (fun q => a0 q.2), if_pos ⟨j0, a1⟩]
        · rw [if_neg (fun q => j0 q.symm), if_neg (fun q => j0 q.1), if_neg (fun q => j0 q.1)]
      · rw [if_neg a1, if_neg (fun q => a0 q.2), if_neg (fun q => a1 q.2)]
  have h2 := own_cs1_len nS cs h22
  unfold own_cs2
  by_cases hp : own_hp nQ = true
  · rw [if_pos hp, own_getD_set _ _ _ _ (by omega)]
    by_cases q : nQ = j
    · rw [if_pos q, if_pos ⟨hp, q⟩]
    · rw [if_neg q, if_neg (fun z => q z.2), h1]
  · rw [if_neg hp, if_neg (fun z => hp z.1), h1]
theorem own_scan_dig (f : Nat → Int32) : ∀ (k i c : Nat) (pt : Bool), (∀ j, i ≤ j → j < i + k → own_dig (f j)) → own_scan f k i c pt = some (c + k)
  | 0, i, c, pt, _ => rfl
  | k + 1, i, c, pt, h => by
    rw [own_scan_s, if_pos (show ¬ f i < 48 ∧ ¬ 57 < f i from h i (Nat.le_refl _) (by omega)), own_scan_dig f k (i + 1) (c + 1) pt (fun j h1 h2 => h j (by omega) (by omega))]
    congr 1; omega
theorem own_nodig : ¬ own_dig 46 := fun q => q.1 (by decide)
theorem own_scan_pt (f : Nat → Int32) (q : Nat) (h46 : f q = 46) : ∀ (k i c : Nat), i ≤ q → q < i + k → (∀ j, i ≤ j → j < i + k → j ≠ q → own_dig (f j)) → own_scan f k i c false = some (c + k - 1)
  | 0, i, c, h1, h2, _ => by omega
  | k + 1, i, c, h1, h2, h => by
    rw [own_scan_s]
    by_cases e : i = q
    · have n : ¬ (¬ f i < 48 ∧ ¬ 57 < f i) := by rw [e, h46]; exact own_nodig
      rw [if_neg n, if_pos ⟨by rw [e]; exact h46, rfl⟩, own_scan_dig f k (i + 1) c true (fun j h3 h4 => h j (by omega) (by omega) (by omega))]
      congr 1
    · rw [if_pos (show ¬ f i < 48 ∧ ¬ 57 < f i from h i (Nat.le_refl _) (by omega) e), own_scan_pt f q h46 k (i + 1) (c + 1) (by omega) (by omega) (fun j h3 h4 h5 => h j (by omega) (by omega) h5)]
      congr 1; omega
theorem own_count (cs : List Int32) (h22 : cs.length = 22) (hd : ∀ c ∈ cs, own_dig c) (nS nQ a b : Nat) (hab : a ≤ b) (hb : b ≤ 22) :
    own_read (fun j => (own_cs2 nQ (own_cs1 nS cs)).getD j 0) a b = b - a - own_e1 (own_sg nS) a b - own_e2 (own_hp nQ) nQ a b := by
  have hpq : own_hp nQ = true → 1 ≤ nQ := fun q => by unfold own_hp at q; exact (of_decide_eq_true q).1
  generalize hf : (fun j => (own_cs2 nQ (own_cs1 nS cs)).getD j 0) = f
  have F : ∀ j, j < 22 → f j = if own_hp nQ = true ∧ nQ = j then 46 else if j = 0 ∧ nS = 0 then 45 else if j = 0 ∧ nS = 1 then 43 else cs.getD j 0 := fun j hj => by rw [← hf]; exact own_f cs h22 nS nQ j hj
  have key : ∀ i, i ≤ b → (1 ≤ i ∨ ¬ nS < 2) → own_scan f (b - i) i 0 false = some (b - i - (if own_hp nQ = true ∧ i ≤ nQ ∧ nQ < b then 1 else 0)) := by
    intro i hi hs
    have dg : ∀ j, i ≤ j → j < i + (b - i) → (own_hp nQ = true → j ≠ nQ) → own_dig (f j) := fun j h1 h2 h3 => by
      rw [F j (by omega), if_neg (fun z => h3 z.1 z.2.symm), if_neg (by omega), if_neg (by omega)]
      exact own_dig_at cs hd j (by omega)
    by_cases hc : own_hp nQ = true ∧ i ≤ nQ ∧ nQ < b
    · rw [if_pos hc, own_scan_pt f nQ (by rw [F nQ (by omega), if_pos ⟨hc.1, rfl⟩]) (b - i) i 0 hc.2.1 (by omega) (fun j h1 h2 h3 => dg j h1 h2 (fun _ => h3))]
      congr 1; omega
    · rw [if_neg hc, own_scan_dig f (b - i) i 0 false (fun j h1 h2 => dg j h1 h2 (fun z e => hc ⟨z, by omega, by omega⟩))]
      congr 1; omega
  unfold own_read
  by_cases hs : nS < 2 ∧ a = 0 ∧ 0 < b
  · have st : own_start f a b = 1 := by
      have fa : f a = 45 ∨ f a = 43 := by
        rw [F a (by omega), if_neg (fun z => by have := hpq z.1; omega)]
        by_cases z : nS = 0
        · rw [if_pos ⟨hs.2.1, z⟩]; exact Or.inl rfl
        · rw [if_neg (fun q => z q.2), if_pos ⟨hs.2.1, by omega⟩]; exact Or.inr rfl
      unfold own_start
      rw [if_pos ⟨by omega, fa⟩]; omega
    have g1 : own_e1 (own_sg nS) a b = 1 := if_pos ⟨by rw [show own_sg nS = 1 from if_pos hs.1]; decide, hs.2.1, hs.2.2⟩
    rw [st, key 1 (by omega) (Or.inl (Nat.le_refl _)), g1]
    show b - 1 - _ = _
    have : (if own_hp nQ = true ∧ 1 ≤ nQ ∧ nQ < b then 1 else 0) = own_e2 (own_hp nQ) nQ a b := by
      unfold own_e2
      by_cases z : own_hp nQ = true ∧ 1 ≤ nQ ∧ nQ < b
      · rw [if_pos z, if_pos ⟨z.1, by omega, z.2.2⟩]
      · rw [if_neg z, if_neg (fun q => z ⟨q.1, hpq q.1, q.2.2⟩)]
    rw [this]; omega
  · have st : own_start f a b = a := by
      unfold own_start
      refine if_neg (fun z => ?_)
      have fa := z.2
      rw [F a (by omega)] at fa
      by_cases e1 : own_hp nQ = true ∧ nQ = a
      · rw [if_pos e1] at fa; revert fa; decide
      · rw [if_neg e1, if_neg (fun q => hs ⟨by omega, q.1, by omega⟩), if_neg (fun q => hs ⟨by omega, q.1, by omega⟩)] at fa
        have dd := own_dig_at cs hd a (by omega)
        rcases fa with q | q
        · rw [q] at dd; exact dd.1 (by decide)
        · rw [q] at dd; exact dd.1 (by decide)
    have g1 : own_e1 (own_sg nS) a b = 0 := if_neg (fun q => hs ⟨Classical.byContradiction fun z => q.1 (if_neg z), q.2.1, q.2.2⟩)
    rw [st, g1]
    by_cases hz : 1 ≤ a ∨ ¬ nS < 2
    · rw [key a hab hz]
      show b - a - _ = _
      unfold own_e2
      omega
    · have b0 : b = 0 := by
        rcases Nat.eq_zero_or_pos b with z | z
        · exact z
        · exact absurd ⟨by omega, by omega, z⟩ hs
      have a0 : a = 0 := by omega
      subst b0; subst a0
      show 0 = _
      omega
theorem own_second (ch : Int32) : own_read (fun j => [ch].getD j 0) 0 1 = if ¬ ch < 48 ∧ ¬ 57 < ch then 1 else 0 := by
  have f0 : (fun j => [ch].getD j 0) 0 = ch := rfl
  unfold own_read own_start
  rw [f0]
  by_cases hs : ch = 45 ∨ ch = 43
  · rw [if_pos ⟨by decide, hs⟩, if_neg (fun q => by rcases hs with z | z <;> rw [z] at q <;> exact q.1 (by decide))]
    rfl
  · rw [if_neg (fun q => hs q.2)]
    show (own_scan _ 1 0 0 false).getD 0 = _
    rw [own_scan_s]
    show Option.getD (if ¬ ch < 48 ∧ ¬ 57 < ch then own_scan (fun j => [ch].getD j 0) 0 (0 + 1) (0 + 1) false else if ch = 46 ∧ false = false then own_scan (fun j => [ch].getD j 0) 0 (0 + 1) 0 true else none) 0 = _
    by_cases hd : ¬ ch < 48 ∧ ¬ 57 < ch
    · rw [if_pos hd, if_pos hd]; rfl
    · rw [if_neg hd, if_neg hd]
      by_cases h46 : ch = 46 ∧ false = false
      · rw [if_pos h46]; rfl
      · rw [if_neg h46]; rfl
def own_dig_b (c : Int32) : Bool := decide (¬ c < 48 ∧ ¬ 57 < c)
theorem own_dig_of {c : Int32} (h : own_dig_b c = true) : own_dig c := of_decide_eq_true (p := ¬ c < 48 ∧ ¬ 57 < c) h
theorem own_dgs (q : Int64) (k : Int32) : own_dig (nar .char (own_dg q k)) := by
  have t : ∀ n : Fin 16, own_dig_b (nar .char (nar .char (((48 : Int32) + (((Int64.ofNat n.val) - ((Int64.ofNat n.val) / (10 : Int64)) * (10 : Int64)).toInt32)).toUInt32.toUInt16.toUInt32.toInt32))) = true := by decide +kernel
  have e : ∀ y : Int64, ∃ n : Fin 16, (y &&& (15 : Int64)) = Int64.ofNat n.val := by
    intro y
    have h : (y &&& 15).toBitVec.toNat < 16 := by
      simp only [Int64.toBitVec_and, BitVec.toNat_and]
      exact Nat.lt_succ_of_le Nat.and_le_right
    refine ⟨⟨_, h⟩, ?_⟩
    apply Int64.toBitVec_inj.mp
    show _ = BitVec.ofNat 64 _
    rw [BitVec.ofNat_toNat]; simp
  unfold own_dg
  obtain ⟨n, hn⟩ := e ((q.toUInt64 >>> (((2 : Int32) * k) &&& 0x3f).toInt64.toUInt64).toInt64)
  rw [hn]
  exact own_dig_of (t n)
theorem own_modn (x y : Int32) (hy : 0 < y.toInt) : ∃ n : Nat, (n : Int) < y.toInt ∧ (x &&& (2147483647 : Int32)) % y = Int32.ofNat n := by
  have h1 := c_and x 2147483647 (by decide)
  have z : (2147483647 : Int32).toInt = 2147483647 := by decide
  have h2 := (c_iremV (x &&& (2147483647 : Int32)) y).1 (by omega) hy
  refine ⟨((x &&& (2147483647 : Int32)) % y).toInt.toNat, by omega, own_ofInt _ (by omega)⟩
theorem own_byte {c : Int32} (h : own_dig c) : ¬ c < 0 ∧ ¬ (255 : Int32) < c := ⟨fun q => h.1 (Int32.lt_trans q (by decide)), fun q => h.2 (Int32.lt_trans (by decide) q)⟩
theorem own_bytes (cs : List Int32) (hd : ∀ c ∈ cs, own_dig c) (nS nQ : Nat) : ∀ c ∈ own_cs2 nQ (own_cs1 nS cs), ¬ c < 0 ∧ ¬ (255 : Int32) < c := by
  have h1 : ∀ c ∈ own_cs1 nS cs, ¬ c < 0 ∧ ¬ (255 : Int32) < c := by
    intro c hc
    unfold own_cs1 at hc
    split at hc
    · rcases List.mem_or_eq_of_mem_set hc with q | q
      · exact own_byte (hd c q)
      · rw [q]; decide
    · split at hc
      · rcases List.mem_or_eq_of_mem_set hc with q | q
        · exact own_byte (hd c q)
        · rw [q]; decide
      · exact own_byte (hd c hc)
  intro c hc
  unfold own_cs2 at hc
  split at hc
  · rcases List.mem_or_eq_of_mem_set hc with q | q
    · exact h1 c q
    · rw [q]; decide
  · exact h1 c hc
theorem own_H {p : Program} {l : Launch} {e : Env} {s : State} {m : MethodId} {args : Array Value} {below : List Frame} {meth : Method} {c : Code} {T0 : State} {locs : List Loc} {cells slots : Nat} {Z : State} {a0 : Array Value} {h0 : Heap} (s0 s1 s2 s3 s4 s5 s6 s7 s8 s9 s10 s11 s12 s13 s14 : Slot) (R : Nat) (s16 s17 : Slot) (o18 : Addr) (n0 : Nat) (X0 : Stand p l e room_1 s m args below meth c T0 locs cells slots) (hx : p.tables.exec = Jvm.exec) (hZ : Z.Warmed39 s.vm) (hw : ∀ d ∈ tables_1, d.before a0 Z = true) (hby : c.code = code) (hml : c.maxLocals = 24) (hown : s.vm.findClass "com/example/bandmark/bandmark/PlainDecimalIsCompactPinLaw" = some m.cls) (e0 : T0.heap = h0) (HP : own_PD Z h0 o18 (own_nd R 0)) (hR : R < 32) (Z0 : n0 ≤ h0.size) (N0 : Fr n0 locs) (hcl : cells ≤ room_1.cells) (hsl : slots ≤ room_1.slots) :
    ∃ (T' : State) (locs' : List Loc), Stand p l e room_1 s m args below meth c T' locs' cells slots ∧ Fr n0 locs' ∧ T'.heap = h0 ∧
      ∀ target, Steps p.tables e below (T'.setTop (mkF m 491 #[s0, s1, s2, s3, s4, s5, s6, s7, s8, s9, s10, s11, s12, s13, s14, .val (.int (Int32.ofNat R)), s16, s17, .val (.ref o18), .val (.int (own_r R)), .val (.int (own_c (own_nd R 0))), .unset, .unset, .unset] [])) target → Steps p.tables e below (T0.setTop (mkF m 442 #[s0, s1, s2, s3, s4, s5, s6, s7, s8, s9, s10, s11, s12, s13, s14, .val (.int (Int32.ofNat R)), s16, s17, .val (.ref o18), .val (.int (own_r R)), .unset, .unset, .unset, .unset] [])) target := by
  by_cases h0R : R = 0
  · obtain ⟨T1, X1, e1, st1⟩ := H0 s0 s1 s2 s3 s4 s5 s6 s7 s8 s9 s10 s11 s12 s13 s14 (Int32.ofNat R) s16 s17 (.val (.ref o18)) (own_r R) .unset .unset .unset .unset X0 hx hZ hw hby hml hown e0 ((own_lt R 1 hR (by decide)).mpr (by omega)) (if_pos h0R)
    obtain ⟨T2, L2, X2, N2, e2, st2⟩ := H2_0 s0 s1 s2 s3 s4 s5 s6 s7 s8 s9 s10 s11 s12 s13 s14 (.val (.int (Int32.ofNat R))) s16 s17 o18 (own_r R) .unset .unset .unset .unset (own_nd R 0) n0 X1 hx hZ hw hby hml hown e1 HP Z0 N0 hcl hsl One.u (if_pos h0R)
    exact ⟨T2, L2, X2, N2, e2, fun t k => st1 _ (st2 _ k)⟩
  · have r1 : own_r R = 1 := if_neg h0R
    have nd : own_nd R 0 = Int32.ofNat R := if_neg h0R
    obtain ⟨T1, X1, e1, st1⟩ := H1 s0 s1 s2 s3 s4 s5 s6 s7 s8 s9 s10 s11 s12 s13 s14 (Int32.ofNat R) s16 s17 (.val (.ref o18)) (own_r R) .unset .unset .unset .unset X0 hx hZ hw hby hml hown e0 (fun q => h0R (by have := (own_lt R 1 hR (by decide)).mp q; omega)) r1
    by_cases h18 : 18 < R
    · have l18 : (18 : Int32) < Int32.ofNat R := (own_lt 18 R (by decide) hR).mpr h18
      obtain ⟨T2, L2, X2, N2, e2, st2⟩ := H2_1 s0 s1 s2 s3 s4 s5 s6 s7 s8 s9 s10 s11 s12 s13 s14 (Int32.ofNat R) s16 s17 o18 (own_r R) .unset .unset .unset .unset (own_nd R 0) n0 X1 hx hZ hw hby hml hown e1 HP Z0 N0 hcl hsl One.u (by rw [r1]; decide) l18 (by rw [nd]; exact if_pos l18)
      exact ⟨T2, L2, X2, N2, e2, fun t k => st1 _ (st2 _ k)⟩
    · have l18 : ¬ (18 : Int32) < Int32.ofNat R := fun q => h18 ((own_lt 18 R (by decide) hR).mp q)
      obtain ⟨T2, L2, X2, N2, e2, st2⟩ := H2_2 s0 s1 s2 s3 s4 s5 s6 s7 s8 s9 s10 s11 s12 s13 s14 (Int32.ofNat R) s16 s17 o18 (own_r R) .unset .unset .unset .unset (own_nd R 0) n0 X1 hx hZ hw hby hml hown e1 HP Z0 N0 hcl hsl One.u (by rw [r1]; decide) l18 (by rw [nd]; exact if_neg l18)
      exact ⟨T2, L2, X2, N2, e2, fun t k => st1 _ (st2 _ k)⟩
theorem pn_0 : plainName "com/example/bandmark/bandmark/PlainDecimalIsCompactPinLaw" = true := by first | (simp [plainName, overriddenIn]; done) | decide +kernel
theorem ef_0 (m : MethodId) (x0 : Int32) (x1 : Int32) (x2 : Int64) (x3 : Int32) (x4 : Int32) (x5 : Int32) : entryFrame m #[(.int x0), (.int x1), (.long x2), (.int x3), (.int x4), (.int x5)] maxLocals = mkF m 0 #[.val (.int x0), .val (.int x1), .val (.long x2), .second, .val (.int x3), .val (.int x4), .val (.int x5), .unset, .unset, .unset, .unset, .unset, .unset, .unset, .unset, .unset, .unset, .unset, .unset, .unset, .unset, .unset, .unset, .unset] [] := by first | (simp [entryFrame, mkF, argsToLocals, Value.category, maxLocals]; done) | rfl
def Q0 (h0 : Heap) (n0 : Nat) (v : Option Value) (h : Heap) (L : List Loc) : Prop := v = some (.int (1 : Int32)) ∧ Fr n0 L
set_option maxRecDepth 65536 in
set_option maxHeartbeats 40000000 in
theorem rm0 (l : Launch) (Z : State) (a0 : Array Value) (hw : ∀ d ∈ tables_1, d.before a0 Z = true) (ws : List Jvm.Cond) (p1 : Int32) (p2 : Int32) (q3 : Int64) (p4 : Int32) (p5 : Int32) (p6 : Int32) (G1 : Int32) (fm : Value) (h0 : Heap) (n0 : Nat) (Z0 : n0 ≤ h0.size) (O0 : Old Z n0 h0) (O2 : Sta Z Z.heap "java/lang/String" "COMPACT_STRINGS" "Z" (.int G1)) (P5 : ¬ (G1 = (0 : Int32))) (O3 : Sta Z Z.heap "jdk/internal/util/Preconditions" "SIOOBE_FORMATTER" "Ljava/util/function/BiFunction;" fm) (rf : fm.isRef = true) :
    MetFree l x (head1 (Jvm.Cond.code x code maxLocals ret :: ws) room_1) (fun a U => a = #[(.int p1), (.int p2), (.long q3), (.int p4), (.int p5), (.int p6)] ∧ Z.Warmed39 U.vm ∧ U.heap = h0) (fun _ _ _ _ _ => True) (fun _ U o U' => ∃ v L, o = .returned v ∧ Q0 h0 n0 v U'.heap L ∧ FrameEnd U o U' L room_1.cells room_1.slots) := by
  refine MetFree.of_bodySF (plainFor_of_name pn_0) hisR ?_
  intro p e s m args below meth c s₁ Bd hml0 hP hK
  obtain ⟨rfl, hZ, hh⟩ := hP
  have hx := Bd.exec
  have hby := Bd.bytes
  have hml : c.maxLocals = 24 := hml0
  have hown : s.vm.findClass "com/example/bandmark/bandmark/PlainDecimalIsCompactPinLaw" = some m.cls := findClass_of_methodNamed Bd.named
  have hnm := (name_of_methodNamed Bd.named Bd.method).1
  have X0 : Stand p l e room_1 s m #[(.int p1), (.int p2), (.long q3), (.int p4), (.int p5), (.int p6)] below meth c s₁ [] 0 0 := Stand.of_body Bd
  have e0 : s₁.heap = h0 := by rw [← hh, Bd.state]; rfl
  have N0 := Fr.nil n0
  have pre0 : ∀ t, Steps p.tables e below (s₁.setTop (mkF m 0 #[.val (.int p1), .val (.int p2), .val (.long q3), .second, .val (.int p4), .val (.int p5), .val (.int p6), .unset, .unset, .unset, .unset, .unset, .unset, .unset, .unset, .unset, .unset, .unset, .unset, .unset, .unset, .unset, .unset, .unset] [])) t → Steps p.tables e below (s₁.setTop (entryFrame m #[(.int p1), (.int p2), (.long q3), (.int p4), (.int p5), (.int p6)] maxLocals)) t := fun t k => castTop (ef_0 m p1 p2 q3 p4 p5 p6) k
  obtain ⟨nS, hS3, hS⟩ := own_and p1 3
  have hS4 : nS < 4 := by have z : (3 : Int32).toBitVec.toNat = 3 := rfl; omega
  obtain ⟨nQ, hQ1, hQ⟩ := own_and p2 31
  have hQ3 : nQ < 32 := by have z : (31 : Int32).toBitVec.toNat = 31 := rfl; omega
  obtain ⟨b, hb0, hb_⟩ := own_modn p4 23 (by decide)
  have hb3 : b < 23 := by have z : (23 : Int32).toInt = 23 := rfl; omega
  have hb1 : (Int32.ofNat b + (1 : Int32)).toInt = (b : Int) + 1 := by rw [own_succ b (by omega), Int32.toInt_ofNat_of_lt (by omega)]; omega
  obtain ⟨a, ha0, ha_⟩ := own_modn p5 (Int32.ofNat b + (1 : Int32)) (by omega)
  have hab : a ≤ b := by omega
  have hpq : own_hp nQ = true → 1 ≤ nQ := fun q => by unfold own_hp at q; exact (of_decide_eq_true q).1
  have hd : ∀ c ∈ own_cs (own_dg q3), own_dig c := by
    intro c hc
    simp only [own_cs, List.mem_cons, List.not_mem_nil, or_false] at hc
    rcases hc with rfl | rfl | rfl | rfl | rfl | rfl | rfl | rfl | rfl | rfl | rfl | rfl | rfl | rfl | rfl | rfl | rfl | rfl | rfl | rfl | rfl | rfl <;> exact own_dgs _ _
  obtain ⟨T1, L1, b7, k7, X1, N1, K1, g7, V1, st1⟩ := own_A (.val (.int p1)) (.val (.int p2)) q3 (.val (.int p4)) (.val (.int p5)) (.val (.int p6)) .unset .unset .unset .unset .unset .unset .unset .unset .unset .unset .unset .unset .unset .unset .unset .unset (own_dg q3) n0 X0 hx hZ hw hby hml hown e0 (fun _ => rfl) Z0 N0
  have Z1 := Nat.le_trans Z0 K1.1
  obtain ⟨T2, L2, X2, N2, K2, V2, st2⟩ := own_BC p1 p2 (.val (.long q3)) .second (.val (.int p4)) (.val (.int p5)) (.val (.int p6)) b7 k7 (own_cs (own_dg q3)) nS nQ n0 X1 hx hZ hw hby hml hown rfl V1 rfl hS hS4 hQ hQ3 Z1 N1 (by decide) (by decide) g7
  have Z2 := Nat.le_trans Z1 K2.1
  have Xo2 := (O0.keep K1 all0).keep K2 (allS g7 all0)
  have hl2 : (own_cs2 nQ (own_cs1 nS (own_cs (own_dg q3)))).length = 22 := own_cs2_len nQ _ (own_cs1_len nS _ rfl)
  obtain ⟨T3, L3, o12, X3, N3, K3, S3, st3⟩ := own_D (.val (.int p1)) (.val (.int p2)) (.val (.long q3)) .second (.val (.int p4)) (.val (.int p5)) (.val (.int p6)) b7 (.val (.int (Int32.ofNat nS))) (.val (.int (own_sg nS))) (.val (.int (Int32.ofNat nQ))) (.val (.int (own_b (own_hp nQ)))) .unset .unset .unset .unset .unset .unset .unset .unset .unset .unset .unset .unset k7 (own_cs2 nQ (own_cs1 nS (own_cs (own_dg q3)))) G1 fm n0 X2 hx hZ hw hby hml hown rfl Xo2 O2 P5 O3 rf V2 hl2 (own_bytes _ hd nS nQ) Z2 N2 One.u
  have Z3 := Nat.le_trans Z2 K3.1
  have Xo3 := Xo2.keep K3 all0
  obtain ⟨T4, X4, e4, st4⟩ := own_EF (.val (.int p1)) (.val (.int p2)) (.val (.long q3)) .second p4 p5 (.val (.int p6)) (.val (.ref b7)) (.val (.int (Int32.ofNat nS))) (own_sg nS) nQ (own_hp nQ) (.val (.ref o12)) a b X3 hx hZ hw hby hml hown rfl hb_ ha_ hb3 hab hQ3 hpq
  have hcnt := own_count (own_cs (own_dg q3)) rfl hd nS nQ a b hab (by omega)
  obtain ⟨T5, L5, b8, X5, N5, K5, g8, S17, P5_, st5⟩ := own_G (.val (.int p1)) (.val (.int p2)) (.val (.long q3)) .second (.val (.int p4)) (.val (.int p5)) p6 (.val (.ref b7)) (.val (.int (Int32.ofNat nS))) (.val (.int (own_sg nS))) (.val (.int (Int32.ofNat nQ))) (.val (.int (own_b (own_hp nQ)))) o12 (Int32.ofNat b) (Int32.ofNat a) (.val (.int (Int32.ofNat (b - a - own_e1 (own_sg nS) a b - own_e2 (own_hp nQ) nQ a b)))) .unset .unset .unset .unset .unset .unset .unset .unset (own_cs2 nQ (own_cs1 nS (own_cs (own_dg q3)))) a b G1 fm n0 X4 hx hZ hw hby hml hown e4 Xo3 O2 P5 O3 rf S3 rfl rfl hab (by omega) Z3 N3 One.u One.u One.u One.u
  rw [hcnt] at P5_ st5
  obtain ⟨R, hR⟩ : ∃ R, R = (b - a - own_e1 (own_sg nS) a b - own_e2 (own_hp nQ) nQ a b) := ⟨_, rfl⟩
  rw [← hR] at P5_ st5 st4
  have hR3 : R < 32 := by omega
  have Z5 := Nat.le_trans Z3 K5.1
  obtain ⟨T6, L6, X6, N6, e6, st6⟩ := own_H (.val (.int p1)) (.val (.int p2)) (.val (.long q3)) .second (.val (.int p4)) (.val (.int p5)) (.val (.int p6)) (.val (.ref b7)) (.val (.int (Int32.ofNat nS))) (.val (.int (own_sg nS))) (.val (.int (Int32.ofNat nQ))) (.val (.int (own_b (own_hp nQ)))) (.val (.ref o12)) (.val (.int (Int32.ofNat b))) (.val (.int (Int32.ofNat a))) R (.val (.int ((p6 &&& (255 : Int32)).toUInt32.toUInt16.toUInt32.toInt32))) (.val (.ref T3.heap.size)) b8 n0 X5 hx hZ hw hby hml hown rfl P5_ hR3 Z5 N5 (by decide) (by decide)
  obtain ⟨d1, hd1⟩ : ∃ d1, d1 = own_nd R 0 := ⟨_, rfl⟩
  rw [← hd1] at P5_ st6
  obtain ⟨T7, L7, X7, N7, st7⟩ := own_I (.val (.int p1)) (.val (.int p2)) (.val (.long q3)) .second (.val (.int p4)) (.val (.int p5)) (.val (.int p6)) (.val (.ref b7)) (.val (.int (Int32.ofNat nS))) (.val (.int (own_sg nS))) (.val (.int (Int32.ofNat nQ))) (.val (.int (own_b (own_hp nQ)))) (.val (.ref o12)) (.val (.int (Int32.ofNat b))) (.val (.int (Int32.ofNat a))) (.val (.int (Int32.ofNat R))) (.val (.int ((p6 &&& (255 : Int32)).toUInt32.toUInt16.toUInt32.toInt32))) T3.heap.size b8 (.val (.int (own_r R))) (.val (.int (own_c d1))) .unset .unset .unset [((p6 &&& (255 : Int32)).toUInt32.toUInt16.toUInt32.toInt32)] d1 G1 fm n0 X6 hx hZ hw hby hml hown e6 (Xo3.keep K5 all0) O2 P5 O3 rf S17 rfl P5_ g8 Z5 N6 One.u One.u
  rw [own_second] at st7
  obtain ⟨R2, hR2⟩ : ∃ R2 : Nat, R2 = if ¬ ((p6 &&& (255 : Int32)).toUInt32.toUInt16.toUInt32.toInt32) < 48 ∧ ¬ 57 < ((p6 &&& (255 : Int32)).toUInt32.toUInt16.toUInt32.toInt32) then 1 else 0 := ⟨_, rfl⟩
  rw [← hR2] at st7
  by_cases h48 : ((p6 &&& (255 : Int32)).toUInt32.toUInt16.toUInt32.toInt32) < 48
  · have z2 : R2 = 0 := by rw [hR2]; exact if_neg (fun q => q.1 h48)
    obtain ⟨T8, X8, e8, st8⟩ := J0 (.val (.int p1)) (.val (.int p2)) (.val (.long q3)) .second (.val (.int p4)) (.val (.int p5)) (.val (.int p6)) (.val (.ref b7)) (.val (.int (Int32.ofNat nS))) (.val (.int (own_sg nS))) (.val (.int (Int32.ofNat nQ))) (.val (.int (own_b (own_hp nQ)))) (.val (.ref o12)) (.val (.int (Int32.ofNat b))) (.val (.int (Int32.ofNat a))) (.val (.int (Int32.ofNat R))) ((p6 &&& (255 : Int32)).toUInt32.toUInt16.toUInt32.toInt32) (.val (.ref T3.heap.size)) (.val (.ref b8)) (.val (.int (own_r R))) (.val (.int (own_c d1))) (.val (.int (own_r R2))) (.val (.int (own_c (own_nd R2 d1)))) .unset X7 hx hZ hw hby hml hown rfl One.u h48
    obtain ⟨T9, X9, e9, st9⟩ := J3 (.val (.int p1)) (.val (.int p2)) (.val (.long q3)) .second (.val (.int p4)) (.val (.int p5)) (.val (.int p6)) (.val (.ref b7)) (.val (.int (Int32.ofNat nS))) (.val (.int (own_sg nS))) (.val (.int (Int32.ofNat nQ))) (.val (.int (own_b (own_hp nQ)))) (.val (.ref o12)) (.val (.int (Int32.ofNat b))) (.val (.int (Int32.ofNat a))) (.val (.int (Int32.ofNat R))) (.val (.int ((p6 &&& (255 : Int32)).toUInt32.toUInt16.toUInt32.toInt32))) (.val (.ref T3.heap.size)) (.val (.ref b8)) (.val (.int (own_r R))) (.val (.int (own_c d1))) (own_r R2) (.val (.int (own_c (own_nd R2 d1)))) (0 : Int32) X8 hx hZ hw hby hml hown e8 (if_pos z2) rfl
    obtain ⟨TX, XX, eX, stX⟩ := J5 (.val (.int p1)) (.val (.int p2)) (.val (.long q3)) .second (.val (.int p4)) (.val (.int p5)) (.val (.int p6)) (.val (.ref b7)) (.val (.int (Int32.ofNat nS))) (.val (.int (own_sg nS))) (.val (.int (Int32.ofNat nQ))) (.val (.int (own_b (own_hp nQ)))) (.val (.ref o12)) (.val (.int (Int32.ofNat b))) (.val (.int (Int32.ofNat a))) (.val (.int (Int32.ofNat R))) (.val (.int ((p6 &&& (255 : Int32)).toUInt32.toUInt16.toUInt32.toInt32))) (.val (.ref T3.heap.size)) (.val (.ref b8)) (.val (.int (own_r R))) (own_c d1) (.val (.int (own_r R2))) (own_c (own_nd R2 d1)) (.val (.int (0 : Int32))) X9 hx hZ hw hby hml hown e9 (by rw [show own_nd R2 d1 = d1 from if_pos z2])
    obtain ⟨fs, hr, hrun, hended, hW, hsame⟩ := XX.leave (v := some (.int (1 : Int32))) (fun h => by rw [Bd.returns] at h; cases h)
    refine ⟨_, _, pre0 _ ?_, hrun, hended, _, _, rfl, ?_, ⟨_, rfl⟩, hW, hsame.mono (by decide) (by decide)⟩
    · refine st1 _ (st2 _ (st3 _ (st4 _ (st5 _ (st6 _ (st7 _ (st8 _ (st9 _ (stX _ ?_)))))))))
      refine XS.iconst XX.here hx rfl (hb hby at_554) ?_
      show Steps p.tables e below (TX.setTop (mkF m 555 #[.val (.int p1), .val (.int p2), .val (.long q3), .second, .val (.int p4), .val (.int p5), .val (.int p6), .val (.ref b7), .val (.int (Int32.ofNat nS)), .val (.int (own_sg nS)), .val (.int (Int32.ofNat nQ)), .val (.int (own_b (own_hp nQ))), .val (.ref o12), .val (.int (Int32.ofNat b)), .val (.int (Int32.ofNat a)), .val (.int (Int32.ofNat R)), .val (.int ((p6 &&& (255 : Int32)).toUInt32.toUInt16.toUInt32.toInt32)), .val (.ref T3.heap.size), .val (.ref b8), .val (.int (own_r R)), .val (.int (own_c d1)), .val (.int (own_r R2)), .val (.int (own_c (own_nd R2 d1))), .val (.int (0 : Int32))] [(.int (1 : Int32))])) _
      refine XS.goto XX.here hx rfl (pc0 := 555) (pc' := 559) rfl (hb hby at_555) (by decide) (by decide) ?_
      show Steps p.tables e below (TX.setTop (mkF m 559 #[.val (.int p1), .val (.int p2), .val (.long q3), .second, .val (.int p4), .val (.int p5), .val (.int p6), .val (.ref b7), .val (.int (Int32.ofNat nS)), .val (.int (own_sg nS)), .val (.int (Int32.ofNat nQ)), .val (.int (own_b (own_hp nQ))), .val (.ref o12), .val (.int (Int32.ofNat b)), .val (.int (Int32.ofNat a)), .val (.int (Int32.ofNat R)), .val (.int ((p6 &&& (255 : Int32)).toUInt32.toUInt16.toUInt32.toInt32)), .val (.ref T3.heap.size), .val (.ref b8), .val (.int (own_r R)), .val (.int (own_c d1)), .val (.int (own_r R2)), .val (.int (own_c (own_nd R2 d1))), .val (.int (0 : Int32))] [(.int (1 : Int32))])) _
      exact retN XX hx (t := .boolean) Bd.returns (by simp) (hb hby at_559) hr
    · exact ⟨rfl, N7⟩
  by_cases h57 : 57 < ((p6 &&& (255 : Int32)).toUInt32.toUInt16.toUInt32.toInt32)
  · have z2 : R2 = 0 := by rw [hR2]; exact if_neg (fun q => q.2 h57)
    obtain ⟨T8, X8, e8, st8⟩ := J1 (.val (.int p1)) (.val (.int p2)) (.val (.long q3)) .second (.val (.int p4)) (.val (.int p5)) (.val (.int p6)) (.val (.ref b7)) (.val (.int (Int32.ofNat nS))) (.val (.int (own_sg nS))) (.val (.int (Int32.ofNat nQ))) (.val (.int (own_b (own_hp nQ)))) (.val (.ref o12)) (.val (.int (Int32.ofNat b))) (.val (.int (Int32.ofNat a))) (.val (.int (Int32.ofNat R))) ((p6 &&& (255 : Int32)).toUInt32.toUInt16.toUInt32.toInt32) (.val (.ref T3.heap.size)) (.val (.ref b8)) (.val (.int (own_r R))) (.val (.int (own_c d1))) (.val (.int (own_r R2))) (.val (.int (own_c (own_nd R2 d1)))) .unset X7 hx hZ hw hby hml hown rfl One.u h48 h57
    obtain ⟨T9, X9, e9, st9⟩ := J3 (.val (.int p1)) (.val (.int p2)) (.val (.long q3)) .second (.val (.int p4)) (.val (.int p5)) (.val (.int p6)) (.val (.ref b7)) (.val (.int (Int32.ofNat nS))) (.val (.int (own_sg nS))) (.val (.int (Int32.ofNat nQ))) (.val (.int (own_b (own_hp nQ)))) (.val (.ref o12)) (.val (.int (Int32.ofNat b))) (.val (.int (Int32.ofNat a))) (.val (.int (Int32.ofNat R))) (.val (.int ((p6 &&& (255 : Int32)).toUInt32.toUInt16.toUInt32.toInt32))) (.val (.ref T3.heap.size)) (.val (.ref b8)) (.val (.int (own_r R))) (.val (.int (own_c d1))) (own_r R2) (.val (.int (own_c (own_nd R2 d1)))) (0 : Int32) X8 hx hZ hw hby hml hown e8 (if_pos z2) rfl
    obtain ⟨TX, XX, eX, stX⟩ := J5 (.val (.int p1)) (.val (.int p2)) (.val (.long q3)) .second (.val (.int p4)) (.val (.int p5)) (.val (.int p6)) (.val (.ref b7)) (.val (.int (Int32.ofNat nS))) (.val (.int (own_sg nS))) (.val (.int (Int32.ofNat nQ))) (.val (.int (own_b (own_hp nQ)))) (.val (.ref o12)) (.val (.int (Int32.ofNat b))) (.val (.int (Int32.ofNat a))) (.val (.int (Int32.ofNat R))) (.val (.int ((p6 &&& (255 : Int32)).toUInt32.toUInt16.toUInt32.toInt32))) (.val (.ref T3.heap.size)) (.val (.ref b8)) (.val (.int (own_r R))) (own_c d1) (.val (.int (own_r R2))) (own_c (own_nd R2 d1)) (.val (.int (0 : Int32))) X9 hx hZ hw hby hml hown e9 (by rw [show own_nd R2 d1 = d1 from if_pos z2])
    obtain ⟨fs, hr, hrun, hended, hW, hsame⟩ := XX.leave (v := some (.int (1 : Int32))) (fun h => by rw [Bd.returns] at h; cases h)
    refine ⟨_, _, pre0 _ ?_, hrun, hended, _, _, rfl, ?_, ⟨_, rfl⟩, hW, hsame.mono (by decide) (by decide)⟩
    · refine st1 _ (st2 _ (st3 _ (st4 _ (st5 _ (st6 _ (st7 _ (st8 _ (st9 _ (stX _ ?_)))))))))
      refine XS.iconst XX.here hx rfl (hb hby at_554) ?_
      show Steps p.tables e below (TX.setTop (mkF m 555 #[.val (.int p1), .val (.int p2), .val (.long q3), .second, .val (.int p4), .val (.int p5), .val (.int p6), .val (.ref b7), .val (.int (Int32.ofNat nS)), .val (.int (own_sg nS)), .val (.int (Int32.ofNat nQ)), .val (.int (own_b (own_hp nQ))), .val (.ref o12), .val (.int (Int32.ofNat b)), .val (.int (Int32.ofNat a)), .val (.int (Int32.ofNat R)), .val (.int ((p6 &&& (255 : Int32)).toUInt32.toUInt16.toUInt32.toInt32)), .val (.ref T3.heap.size), .val (.ref b8), .val (.int (own_r R)), .val (.int (own_c d1)), .val (.int (own_r R2)), .val (.int (own_c (own_nd R2 d1))), .val (.int (0 : Int32))] [(.int (1 : Int32))])) _
      refine XS.goto XX.here hx rfl (pc0 := 555) (pc' := 559) rfl (hb hby at_555) (by decide) (by decide) ?_
      show Steps p.tables e below (TX.setTop (mkF m 559 #[.val (.int p1), .val (.int p2), .val (.long q3), .second, .val (.int p4), .val (.int p5), .val (.int p6), .val (.ref b7), .val (.int (Int32.ofNat nS)), .val (.int (own_sg nS)), .val (.int (Int32.ofNat nQ)), .val (.int (own_b (own_hp nQ))), .val (.ref o12), .val (.int (Int32.ofNat b)), .val (.int (Int32.ofNat a)), .val (.int (Int32.ofNat R)), .val (.int ((p6 &&& (255 : Int32)).toUInt32.toUInt16.toUInt32.toInt32)), .val (.ref T3.heap.size), .val (.ref b8), .val (.int (own_r R)), .val (.int (own_c d1)), .val (.int (own_r R2)), .val (.int (own_c (own_nd R2 d1))), .val (.int (0 : Int32))] [(.int (1 : Int32))])) _
      exact retN XX hx (t := .boolean) Bd.returns (by simp) (hb hby at_559) hr
    · exact ⟨rfl, N7⟩
  · have z2 : R2 = 1 := by rw [hR2]; exact if_pos ⟨h48, h57⟩
    have c2 : own_c (own_nd R2 d1) = 1 := by rw [z2]; rfl
    obtain ⟨T8, X8, e8, st8⟩ := J2 (.val (.int p1)) (.val (.int p2)) (.val (.long q3)) .second (.val (.int p4)) (.val (.int p5)) (.val (.int p6)) (.val (.ref b7)) (.val (.int (Int32.ofNat nS))) (.val (.int (own_sg nS))) (.val (.int (Int32.ofNat nQ))) (.val (.int (own_b (own_hp nQ)))) (.val (.ref o12)) (.val (.int (Int32.ofNat b))) (.val (.int (Int32.ofNat a))) (.val (.int (Int32.ofNat R))) ((p6 &&& (255 : Int32)).toUInt32.toUInt16.toUInt32.toInt32) (.val (.ref T3.heap.size)) (.val (.ref b8)) (.val (.int (own_r R))) (.val (.int (own_c d1))) (.val (.int (own_r R2))) (.val (.int (own_c (own_nd R2 d1)))) .unset X7 hx hZ hw hby hml hown rfl One.u h48 h57
    obtain ⟨T9, X9, e9, st9⟩ := J4 (.val (.int p1)) (.val (.int p2)) (.val (.long q3)) .second (.val (.int p4)) (.val (.int p5)) (.val (.int p6)) (.val (.ref b7)) (.val (.int (Int32.ofNat nS))) (.val (.int (own_sg nS))) (.val (.int (Int32.ofNat nQ))) (.val (.int (own_b (own_hp nQ)))) (.val (.ref o12)) (.val (.int (Int32.ofNat b))) (.val (.int (Int32.ofNat a))) (.val (.int (Int32.ofNat R))) (.val (.int ((p6 &&& (255 : Int32)).toUInt32.toUInt16.toUInt32.toInt32))) (.val (.ref T3.heap.size)) (.val (.ref b8)) (.val (.int (own_r R))) (.val (.int (own_c d1))) (own_r R2) (.val (.int (own_c (own_nd R2 d1)))) (1 : Int32) X8 hx hZ hw hby hml hown e8 (by rw [z2]; rfl) (by decide)
    obtain ⟨fs, hr, hrun, hended, hW, hsame⟩ := X9.leave (v := some (.int (1 : Int32))) (fun h => by rw [Bd.returns] at h; cases h)
    refine ⟨_, _, pre0 _ ?_, hrun, hended, _, _, rfl, ?_, ⟨_, rfl⟩, hW, hsame.mono (by decide) (by decide)⟩
    · refine st1 _ (st2 _ (st3 _ (st4 _ (st5 _ (st6 _ (st7 _ (st8 _ (st9 _ ?_))))))))
      refine XS.iload X9.here hx rfl (hb hby at_544) rfl ?_
      rw [c2]
      exact retN X9 hx (t := .boolean) Bd.returns (by simp) (hb hby at_546) hr
    · exact ⟨rfl, N7⟩
theorem own_isRef {args : Array Value} {s : State} {t : Term} (h : (Cond.isRef t).value args s none s [] = some true) : ∃ v, t.eval args s none [] s = some v ∧ v.isRef = true := by
  cases hv : t.eval args s none [] s with
  | none => simp [Cond.value, hv] at h
  | some v => exact ⟨v, rfl, by cases v <;> simp_all [Cond.value, Value.isRef]⟩
set_option maxRecDepth 65536 in
set_option maxHeartbeats 40000000 in
theorem comes_1 {Post : Tables → Env → Array Value → State → Outcome → State → Prop} (hpost : ∀ tb e args s v u, (limb_1_1.after args s (.returned v) u = true ∧ limb_1_2.after args s (.returned v) u = true ∧ True) → FrameEnd s (.returned v) u (Jvm.fieldLocs frame_1_writes args s ++ Jvm.arrayLocs frame_1_arrays args s ++ Jvm.staticLocs frame_1_statics s) 24 192 → Post tb e args s (.returned v) u) :
    ArmFor flags0 classFile x code maxLocals ret World_1 tables_1 room_1 Calls_1 rest_1 Pre_1 Post := by
  intro l hfl _ _ p e ha hc hk s m args below hf hA hF happ hP
  obtain ⟨hcalls, hrest, hpre⟩ := hP
  obtain ⟨-, -, -, hnamed, -, -, -, hat⟩ := (Spec.applies_iff hf).mp happ
  obtain ⟨hg, hn⟩ := and_e (Cond.before_iff.mp (show (Jvm.Cond.and given_1 narrow_1).before args s = true from hpre))
  obtain ⟨g61, g62⟩ := and_e hg
  obtain ⟨g63, g64⟩ := and_e g62
  obtain ⟨g65, g66⟩ := and_e g64
  obtain ⟨g67, g68⟩ := and_e g66
  obtain ⟨g69, g70⟩ := and_e g68
  obtain ⟨g71, g72⟩ := and_e g70
  obtain ⟨w0, w1, w2, w3, w4, w5, rfl⟩ : ∃ w0 w1 w2 w3 w4 w5 : Value, args = #[w0, w1, w2, w3, w4, w5] := by
    have hs : args.size = 6 := by simpa [Cond.value, given_1] using g61
    obtain ⟨L⟩ := args
    match L, hs with
    | [w0, w1, w2, w3, w4, w5], _ => exact ⟨w0, w1, w2, w3, w4, w5, rfl⟩
  have hw := fun d (hd : d ∈ tables_1) => atoms_spec (ws := Jvm.Cond.code x code maxLocals ret :: tables_1) hat d (List.mem_cons_of_mem _ hd)
  have hfit : Fit s := fun {y c} hc i hi => by
    obtain ⟨ha, rfl⟩ := Array.getElem?_eq_some_iff.mp hc
    have q := List.all_eq_true.mp ((Array.all_eq_true_iff_forall_mem.mp hF) _ (Array.getElem_mem ha)) i (List.mem_range.mpr hi)
    simpa [Array.getElem?_eq_getElem hi] using q
  obtain ⟨hsets, hown0⟩ := atoms_of _ (rest_1_c_eq ▸ (show rest_1_c.before _ s = true from hrest))
  have hr0 := Cond.before_iff.mp hown0
  obtain ⟨i0, ei0⟩ := is_v g63
  obtain rfl : w0 = (.int i0) := Option.some.inj ei0
  obtain ⟨i1, ei1⟩ := is_v g65
  obtain rfl : w1 = (.int i1) := Option.some.inj ei1
  obtain ⟨i2, ei2⟩ := isL_v g67
  obtain rfl : w2 = (.long i2) := Option.some.inj ei2
  obtain ⟨i3, ei3⟩ := is_v g69
  obtain rfl : w3 = (.int i3) := Option.some.inj ei3
  obtain ⟨i4, ei4⟩ := is_v g71
  obtain rfl : w4 = (.int i4) := Option.some.inj ei4
  obtain ⟨i5, ei5⟩ := is_v g72
  obtain rfl : w5 = (.int i5) := Option.some.inj ei5
  have n5 := not_v (Cond.before_iff.mp (hsets _ (List.mem_of_getElem? (i := 2) rfl)))
  obtain ⟨G1, e9⟩ := is_v (Cond.before_iff.mp (hsets _ (List.mem_of_getElem? (i := 1) rfl)))
  have SCS : Sta s s.heap "java/lang/String" "COMPACT_STRINGS" "Z" (.int G1) := Sta.start e9 (Or.inl (hsets _ (List.mem_of_getElem? (i := 0) rfl)))
  have hcs : ¬ (G1 = (0 : Int32)) := gotF (Cond.eq_ints e9 (Term.int_eval (0))) n5
  obtain ⟨fm, ef, rf⟩ := own_isRef (Cond.before_iff.mp (hsets _ (List.mem_of_getElem? (i := 8) rfl)))
  have SFM : Sta s s.heap "jdk/internal/util/Preconditions" "SIOOBE_FORMATTER" "Ljava/util/function/BiFunction;" fm := Sta.start ef (Or.inl (hsets _ (List.mem_of_getElem? (i := 7) rfl)))
  obtain ⟨n, o, h1, h2, h3, _, L, rfl, ⟨rfl, N⟩, hq⟩ := rm0 l s _ hw tables_1 i0 i1 i2 i3 i4 i5 G1 fm s.heap s.heap.size (Nat.le_refl _) (Old.start s) SCS hcs SFM rf p e ha hc hk s m _ below hf ((Spec.applies_iff_loose hf).mp happ).1 ⟨rfl, State.Warmed39.refl s, rfl⟩ trivial
  refine ⟨n, _, h1, h2, h3, hpost _ _ _ _ _ _ ⟨Cond.after_iff.mpr rfl, Cond.after_iff.mpr (eq_i res_at (Term.int_eval (1)) rfl), trivial⟩ ⟨hq.1, hq.2.1, (hq.2.2.sift fun y hy => Or.inr (N y hy)).mono (by decide) (by decide)⟩⟩
theorem main_1_1 : Claimed_1_1 := comes_1 fun _ _ _ _ _ _ h hF => ⟨h.1, hF⟩
theorem main_1_2 : Claimed_1_2 := comes_1 fun _ _ _ _ _ _ h hF => ⟨h.2.1, hF⟩
end Jvm.Pilot.@@N@@
namespace Jvm.Pilot.@@N@@
open Jvm Jvm.ClassFile Sem Op Lib Jvm.Free Jvm.Stand Jvm.Pilot.@@N@@.Jvm.D
/-! MADE BY PROGRAM (witnessworld.py) out of the Statement's table words and the real class files: 20 classes; the members and pool entries that the words name. The judged class is class 1, her method 2. -/
namespace start1
open Jvm.ClassFile
def u (s : String) : CpInfo := .utf8 (stringToUtf16 s)
/-- a pool by its gaps: so many unusable entries, then the entry; so many at the end -/
def gap : Nat → List CpInfo → List CpInfo
  | 0, r => r
  | n + 1, r => .unusable :: gap n r
def poolList (es : List (Nat × CpInfo)) (last : Nat) : List CpInfo := es.foldr (fun e r => gap e.1 (e.2 :: r)) (gap last [])
def pool (es : List (Nat × CpInfo)) (last : Nat) : Array CpInfo := ⟨poolList es last⟩
def fileOf (pool : Array CpInfo) (this : Nat) (attrs : Array Attribute := #[]) (ms : Array MethodInfo := #[]) (fl : Nat := 33) (sup : Nat := 0) (ifs : Array Nat := #[]) (fds : Array FieldInfo := #[]) : ClassFile where
  minorVersion := 0
  majorVersion := 65
  constantPool := pool
  accessFlags := fl
  thisClass := this
  superClass := sup
  interfaces := ifs
  fields := fds
  methods := ms
  attributes := attrs
def plain (name : String) (sup : Option ClassId) : Class where
  name := name
  kind := .ordinary
  loader := none
  accessFlags := 33
  super := sup
  interfaces := #[]
  cf := none
  fields := #[]
  methods := #[]
  instanceTypes := #[]
  staticTypes := #[]
  resolved := #[]
  callSites := []
  init := .initialized
  statics := none
  mirror := none

def pool0 : Array CpInfo := pool [(5, u "<init>"), (0, u "()V"), (1, .class_ 10), (1, u "java/lang/Object")] 113

def k0c0 : Code := { maxStack := 0, maxLocals := 1, code := object_method_1_code, exceptionTable := #[], attributes := #[] }
def k0m0 : Method := { name := "<init>", desc := "()V", sig := { parameters := [], returnType := none }, accessFlags := 1, code := some k0c0 }
/-- java/lang/Object -/
def k0 : Class := { plain "java/lang/Object" none with
  accessFlags := 33
  interfaces := #[]
  cf := some (fileOf pool0 8 #[] #[{ accessFlags := 1, nameIndex := 5, descriptorIndex := 6, attributes := #[] }] 33 0 #[] #[])
  fields := #[]
  methods := #[k0m0]
  instanceTypes := #[]
  staticTypes := #[]
  resolved := Array.replicate 124 none
  statics := none }

def pool1 : Array CpInfo := pool [(2, .class_ 4), (0, .nameAndType 5 6), (0, u "java/lang/Object"), (0, u "<init>"), (0, u "()V"), (0, .long 15), (1, .long 10), (1, .methodref 12 13), (0, .class_ 14), (0, .nameAndType 15 16), (0, u "com/example/bandmark/bandmark/PlainDecimalIsCompactPinLaw"), (0, u "dg"), (0, u "(JI)C"), (0, .class_ 18), (0, u "java/lang/String"), (0, .methodref 17 20), (0, .nameAndType 5 21), (0, u "([C)V"), (0, .integer 2147483647), (0, .methodref 17 24), (0, .nameAndType 25 26), (0, u "valueOf"), (0, u "(C)Ljava/lang/String;"), (0, .class_ 28), (0, u "com/example/bandmark/bandmark/PlainDecimal"), (0, .methodref 27 3), (0, .methodref 27 31), (0, .nameAndType 32 33), (0, u "read"), (0, u "(Ljava/lang/String;II)Z"), (0, .methodref 27 35), (0, .nameAndType 36 37), (0, u "isCompact"), (0, u "()Z"), (2, u "law"), (0, u "(IIJIII)Z")] 5

def k1m0 : Method := { name := "<init>", desc := "()V", sig := { parameters := [], returnType := none }, accessFlags := 1, code := none }
def k1c1 : Code := { maxStack := 5, maxLocals := 3, code := method_2_code, exceptionTable := #[], attributes := #[] }
def k1m1 : Method := { name := "dg", desc := "(JI)C", sig := { parameters := [.long, .int], returnType := some .char }, accessFlags := 10, code := some k1c1 }
def k1c2 : Code := { maxStack := 5, maxLocals := 24, code := code, exceptionTable := #[], attributes := #[] }
def k1m2 : Method := { name := "law", desc := "(IIJIII)Z", sig := { parameters := [.int, .int, .long, .int, .int, .int], returnType := some .boolean }, accessFlags := 9, code := some k1c2 }
/-- com/example/bandmark/bandmark/PlainDecimalIsCompactPinLaw -/
def k1 : Class := { plain "com/example/bandmark/bandmark/PlainDecimalIsCompactPinLaw" (some 0) with
  accessFlags := 49
  interfaces := #[]
  cf := some (fileOf pool1 12 #[] #[{ accessFlags := 1, nameIndex := 5, descriptorIndex := 6, attributes := #[] }, { accessFlags := 10, nameIndex := 15, descriptorIndex := 16, attributes := #[] }, { accessFlags := 9, nameIndex := 40, descriptorIndex := 41, attributes := #[] }] 49 2 #[] #[])
  fields := #[]
  methods := #[k1m0, k1m1, k1m2]
  instanceTypes := #[]
  staticTypes := #[]
  resolved := Array.replicate 47 none
  statics := none }

def pool2 : Array CpInfo := pool [(1, .class_ 2), (0, u "java/io/Serializable"), (0, .class_ 4), (0, u "java/lang/Object")] 2

/-- java/io/Serializable -/
def k2 : Class := { plain "java/io/Serializable" (some 0) with
  accessFlags := 1537
  interfaces := #[]
  cf := some (fileOf pool2 1 #[] #[] 1537 3 #[] #[])
  fields := #[]
  methods := #[]
  instanceTypes := #[]
  staticTypes := #[]
  resolved := Array.replicate 7 none
  statics := none }

def pool3 : Array CpInfo := pool [(1, .class_ 2), (0, u "java/lang/Comparable"), (0, .class_ 4), (0, u "java/lang/Object")] 7

/-- java/lang/Comparable -/
def k3 : Class := { plain "java/lang/Comparable" (some 0) with
  accessFlags := 1537
  interfaces := #[]
  cf := some (fileOf pool3 1 #[] #[] 1537 3 #[] #[])
  fields := #[]
  methods := #[]
  instanceTypes := #[]
  staticTypes := #[]
  resolved := Array.replicate 12 none
  statics := none }

def pool4 : Array CpInfo := pool [(2, .class_ 4), (1, u "java/lang/CharSequence"), (42, .class_ 48), (0, u "java/lang/CharSequence$1CodePointIterator"), (10, .class_ 60), (0, u "java/lang/CharSequence$1CharIterator"), (5, .class_ 67), (0, u "java/lang/Object")] 63

/-- java/lang/CharSequence -/
def k4 : Class := { plain "java/lang/CharSequence" (some 0) with
  accessFlags := 1537
  interfaces := #[]
  cf := some (fileOf pool4 2 #[.nestMembers #[47, 59]] #[] 1537 66 #[] #[])
  fields := #[]
  methods := #[]
  instanceTypes := #[]
  staticTypes := #[]
  resolved := Array.replicate 131 none
  statics := none }

def pool5 : Array CpInfo := pool [(1, .class_ 2), (0, u "java/lang/constant/Constable"), (0, .class_ 4), (0, u "java/lang/Object")] 6

/-- java/lang/constant/Constable -/
def k5 : Class := { plain "java/lang/constant/Constable" (some 0) with
  accessFlags := 1537
  interfaces := #[]
  cf := some (fileOf pool5 1 #[] #[] 1537 3 #[] #[])
  fields := #[]
  methods := #[]
  instanceTypes := #[]
  staticTypes := #[]
  resolved := Array.replicate 11 none
  statics := none }

def pool6 : Array CpInfo := pool [(1, .class_ 2), (0, u "java/lang/constant/ConstantDesc"), (0, .class_ 4), (0, u "java/lang/Object")] 32

/-- java/lang/constant/ConstantDesc -/
def k6 : Class := { plain "java/lang/constant/ConstantDesc" (some 0) with
  accessFlags := 1537
  interfaces := #[]
  cf := some (fileOf pool6 1 #[] #[] 1537 3 #[] #[])
  fields := #[]
  methods := #[]
  instanceTypes := #[]
  staticTypes := #[]
  resolved := Array.replicate 37 none
  statics := none }

def pool7 : Array CpInfo := pool [(1, .methodref 2 3), (0, .class_ 4), (0, .nameAndType 5 6), (0, u "java/lang/Object"), (0, u "<init>"), (0, u "()V"), (2, .fieldref 10 11), (0, .class_ 12), (0, .nameAndType 13 14), (0, u "java/lang/String"), (0, u "value"), (0, u "[B"), (0, .fieldref 10 16), (0, .nameAndType 17 18), (0, u "coder"), (0, u "B"), (2, u "hash"), (0, u "I"), (2, u "hashIsZero"), (0, u "Z"), (0, .methodref 10 28), (0, .nameAndType 5 29), (0, u "([CIILjava/lang/Void;)V"), (8, .fieldref 10 39), (0, .nameAndType 40 26), (0, u "COMPACT_STRINGS"), (1, .class_ 44), (1, u "java/lang/StringUTF16"), (0, u "compress"), (1, .methodref 42 48), (0, .nameAndType 49 50), (0, u "coderFromArrayLen"), (0, u "([BI)B"), (2, u "toBytes"), (53, .class_ 109), (1, u "java/lang/StringLatin1"), (32, u "()Z"), (34, .methodref 42 178), (0, .nameAndType 45 179), (0, u "([CII)[B"), (29, .methodref 10 210), (0, .nameAndType 5 211), (0, u "([BB)V"), (151, u "([BI)C"), (5, u "(C)Z"), (21, u "(II)V"), (35, u "(I)C"), (64, .methodref 10 493), (0, .nameAndType 494 142), (0, u "isLatin1"), (0, .methodref 107 496), (0, .nameAndType 497 363), (0, u "charAt"), (3, u "checkIndex"), (73, .class_ 576), (0, u "java/lang/CharSequence"), (22, u "CASE_INSENSITIVE_ORDER"), (0, u "Ljava/util/Comparator;"), (181, u "valueOf"), (0, u "(C)Ljava/lang/String;"), (226, u "([C)V"), (4, .methodref 107 1016), (0, .nameAndType 1017 369), (0, u "canEncode"), (0, .methodref 107 1019), (0, .nameAndType 53 1020), (0, u "(C)[B"), (32, .fieldref 1054 1055), (0, .class_ 1056), (0, .nameAndType 1057 1058), (0, u "jdk/internal/util/Preconditions"), (0, u "SIOOBE_FORMATTER"), (0, u "Ljava/util/function/BiFunction;"), (0, .methodref 1054 1060), (0, .nameAndType 501 1061), (0, u "(IILjava/util/function/BiFunction;)I"), (39, u "serialPersistentFields"), (0, u "[Ljava/io/ObjectStreamField;"), (0, .class_ 1104), (0, u "java/lang/String$CaseInsensitiveComparator"), (1, .class_ 1107), (0, u "java/io/Serializable"), (0, .class_ 1109), (0, u "java/lang/Comparable"), (0, .class_ 1111), (0, u "java/lang/constant/Constable"), (0, .class_ 1113), (0, u "java/lang/constant/ConstantDesc"), (2, u "serialVersionUID"), (0, u "J"), (3, u "REPL"), (0, u "C"), (2, u "LATIN1"), (1, u "UTF16")] 323

def k7m0 : Method := { name := "<init>", desc := "()V", sig := { parameters := [], returnType := none }, accessFlags := 1, code := none }
def k7c1 : Code := { maxStack := 5, maxLocals := 2, code := jdk_42_method_3_code, exceptionTable := #[], attributes := #[] }
def k7m1 : Method := { name := "<init>", desc := "([C)V", sig := { parameters := [(.array .char)], returnType := none }, accessFlags := 1, code := some k7c1 }
def k7c2 : Code := { maxStack := 2, maxLocals := 2, code := jdk_42_method_56_code, exceptionTable := #[], attributes := #[] }
def k7m2 : Method := { name := "charAt", desc := "(I)C", sig := { parameters := [.int], returnType := some .char }, accessFlags := 1, code := some k7c2 }
def k7c3 : Code := { maxStack := 4, maxLocals := 1, code := jdk_42_method_139_code, exceptionTable := #[], attributes := #[] }
def k7m3 : Method := { name := "valueOf", desc := "(C)Ljava/lang/String;", sig := { parameters := [.char], returnType := some (.object "java/lang/String") }, accessFlags := 9, code := some k7c3 }
def k7c4 : Code := { maxStack := 4, maxLocals := 6, code := jdk_42_method_149_code, exceptionTable := #[], attributes := #[] }
def k7m4 : Method := { name := "<init>", desc := "([CIILjava/lang/Void;)V", sig := { parameters := [(.array .char), .int, .int, (.object "java/lang/Void")], returnType := none }, accessFlags := 2, code := some k7c4 }
def k7c5 : Code := { maxStack := 2, maxLocals := 3, code := jdk_42_method_151_code, exceptionTable := #[], attributes := #[] }
def k7m5 : Method := { name := "<init>", desc := "([BB)V", sig := { parameters := [(.array .byte), .byte], returnType := none }, accessFlags := 0, code := some k7c5 }
def k7c6 : Code := { maxStack := 1, maxLocals := 1, code := jdk_42_method_154_code, exceptionTable := #[], attributes := #[] }
def k7m6 : Method := { name := "isLatin1", desc := "()Z", sig := { parameters := [], returnType := some .boolean }, accessFlags := 0, code := some k7c6 }
def k7c7 : Code := { maxStack := 3, maxLocals := 2, code := jdk_42_method_155_code, exceptionTable := #[], attributes := #[] }
def k7m7 : Method := { name := "checkIndex", desc := "(II)V", sig := { parameters := [.int, .int], returnType := none }, accessFlags := 8, code := some k7c7 }
/-- java/lang/String -/
def k7 : Class := { plain "java/lang/String" (some 0) with
  accessFlags := 49
  interfaces := #[2, 3, 4, 5, 6]
  cf := some (fileOf pool7 10 #[.nestMembers #[1103]] #[{ accessFlags := 1, nameIndex := 5, descriptorIndex := 6, attributes := #[] }, { accessFlags := 1, nameIndex := 5, descriptorIndex := 1010, attributes := #[] }, { accessFlags := 1, nameIndex := 497, descriptorIndex := 427, attributes := #[] }, { accessFlags := 9, nameIndex := 782, descriptorIndex := 783, attributes := #[] }, { accessFlags := 2, nameIndex := 5, descriptorIndex := 29, attributes := #[] }, { accessFlags := 0, nameIndex := 5, descriptorIndex := 211, attributes := #[] }, { accessFlags := 0, nameIndex := 494, descriptorIndex := 142, attributes := #[] }, { accessFlags := 8, nameIndex := 501, descriptorIndex := 391, attributes := #[] }] 49 2 #[1106, 1108, 575, 1110, 1112] #[{ accessFlags := 18, nameIndex := 13, descriptorIndex := 14, attributes := #[] }, { accessFlags := 18, nameIndex := 17, descriptorIndex := 18, attributes := #[] }, { accessFlags := 2, nameIndex := 21, descriptorIndex := 22, attributes := #[] }, { accessFlags := 2, nameIndex := 25, descriptorIndex := 26, attributes := #[] }, { accessFlags := 26, nameIndex := 1116, descriptorIndex := 1117, attributes := #[] }, { accessFlags := 24, nameIndex := 40, descriptorIndex := 26, attributes := #[] }, { accessFlags := 26, nameIndex := 1101, descriptorIndex := 1102, attributes := #[] }, { accessFlags := 26, nameIndex := 1121, descriptorIndex := 1122, attributes := #[] }, { accessFlags := 25, nameIndex := 599, descriptorIndex := 600, attributes := #[] }, { accessFlags := 24, nameIndex := 1125, descriptorIndex := 18, attributes := #[] }, { accessFlags := 24, nameIndex := 1127, descriptorIndex := 18, attributes := #[] }])
  fields := #[{ name := "value", type := (.array .byte), accessFlags := 18, slot := 0, constantValue := 0 }, { name := "coder", type := .byte, accessFlags := 18, slot := 1, constantValue := 0 }, { name := "hash", type := .int, accessFlags := 2, slot := 2, constantValue := 0 }, { name := "hashIsZero", type := .boolean, accessFlags := 2, slot := 3, constantValue := 0 }, { name := "serialVersionUID", type := .long, accessFlags := 26, slot := 0, constantValue := 0 }, { name := "COMPACT_STRINGS", type := .boolean, accessFlags := 24, slot := 1, constantValue := 0 }, { name := "serialPersistentFields", type := (.array (.object "java/io/ObjectStreamField")), accessFlags := 26, slot := 2, constantValue := 0 }, { name := "REPL", type := .char, accessFlags := 26, slot := 3, constantValue := 0 }, { name := "CASE_INSENSITIVE_ORDER", type := (.object "java/util/Comparator"), accessFlags := 25, slot := 4, constantValue := 0 }, { name := "LATIN1", type := .byte, accessFlags := 24, slot := 5, constantValue := 0 }, { name := "UTF16", type := .byte, accessFlags := 24, slot := 6, constantValue := 0 }]
  methods := #[k7m0, k7m1, k7m2, k7m3, k7m4, k7m5, k7m6, k7m7]
  instanceTypes := #[(.array .byte), .byte, .int, .boolean]
  staticTypes := #[.long, .boolean, (.array (.object "java/io/ObjectStreamField")), .char, (.object "java/util/Comparator"), .byte, .byte]
  resolved := Array.replicate 1451 none
  statics := some 0 }

def pool8 : Array CpInfo := pool [(6, .class_ 8), (1, u "java/lang/Object"), (0, u "<init>"), (0, u "()V"), (1, .class_ 14), (1, u "java/lang/StringUTF16"), (31, u "$assertionsDisabled"), (0, u "Z"), (13, u "HI_BYTE_SHIFT"), (0, u "I"), (2, u "LO_BYTE_SHIFT"), (49, .methodref 12 116), (0, .nameAndType 117 118), (0, u "compress"), (0, u "([CI[BII)I"), (3, u "([CII)[B"), (138, u "coderFromArrayLen"), (0, u "([BI)B"), (106, .class_ 371), (1, u "java/lang/StringUTF16$LinesSpliterator"), (58, u "MAX_LENGTH"), (196, .class_ 628), (0, u "java/lang/StringUTF16$CodePointsSpliterator"), (0, .class_ 630), (0, u "java/lang/StringUTF16$CharsSpliterator")] 4

def k8m0 : Method := { name := "<init>", desc := "()V", sig := { parameters := [], returnType := none }, accessFlags := 0, code := none }
def k8c1 : Code := { maxStack := 2, maxLocals := 2, code := jdk_52_method_15_code, exceptionTable := #[], attributes := #[] }
def k8m1 : Method := { name := "coderFromArrayLen", desc := "([BI)B", sig := { parameters := [(.array .byte), .int], returnType := some .byte }, accessFlags := 8, code := some k8c1 }
def k8c2 : Code := { maxStack := 5, maxLocals := 6, code := jdk_52_method_16_code, exceptionTable := #[], attributes := #[] }
def k8m2 : Method := { name := "compress", desc := "([CII)[B", sig := { parameters := [(.array .char), .int, .int], returnType := some (.array .byte) }, accessFlags := 9, code := some k8c2 }
def k8c3 : Code := { maxStack := 3, maxLocals := 7, code := jdk_52_method_21_code, exceptionTable := #[], attributes := #[] }
def k8m3 : Method := { name := "compress", desc := "([CI[BII)I", sig := { parameters := [(.array .char), .int, (.array .byte), .int, .int], returnType := some .int }, accessFlags := 9, code := some k8c3 }
/-- java/lang/StringUTF16 -/
def k8 : Class := { plain "java/lang/StringUTF16" (some 0) with
  accessFlags := 48
  interfaces := #[]
  cf := some (fileOf pool8 12 #[.nestMembers #[627, 629, 369]] #[{ accessFlags := 0, nameIndex := 9, descriptorIndex := 10, attributes := #[] }, { accessFlags := 8, nameIndex := 261, descriptorIndex := 262, attributes := #[] }, { accessFlags := 9, nameIndex := 117, descriptorIndex := 122, attributes := #[] }, { accessFlags := 9, nameIndex := 117, descriptorIndex := 118, attributes := #[] }] 48 6 #[] #[{ accessFlags := 26, nameIndex := 61, descriptorIndex := 62, attributes := #[] }, { accessFlags := 26, nameIndex := 65, descriptorIndex := 62, attributes := #[] }, { accessFlags := 24, nameIndex := 430, descriptorIndex := 62, attributes := #[] }, { accessFlags := 4120, nameIndex := 46, descriptorIndex := 47, attributes := #[] }])
  fields := #[{ name := "HI_BYTE_SHIFT", type := .int, accessFlags := 26, slot := 0, constantValue := 0 }, { name := "LO_BYTE_SHIFT", type := .int, accessFlags := 26, slot := 1, constantValue := 0 }, { name := "MAX_LENGTH", type := .int, accessFlags := 24, slot := 2, constantValue := 0 }, { name := "$assertionsDisabled", type := .boolean, accessFlags := 4120, slot := 3, constantValue := 0 }]
  methods := #[k8m0, k8m1, k8m2, k8m3]
  instanceTypes := #[]
  staticTypes := #[.int, .int, .int, .boolean]
  resolved := Array.replicate 635 none
  statics := none }

def pool9 : Array CpInfo := pool [(1, .class_ 2), (0, u "java/lang/String"), (1, .class_ 6), (1, u "java/lang/Object"), (0, u "<init>"), (0, u "()V"), (0, .methodref 1 10), (0, .nameAndType 11 12), (0, u "checkIndex"), (0, u "(II)V"), (1, .class_ 16), (1, u "java/lang/StringLatin1"), (36, u "([BI)C"), (36, u "canEncode"), (14, u "(C)Z"), (15, u "$assertionsDisabled"), (0, u "Z"), (98, .class_ 223), (1, u "java/lang/StringLatin1$LinesSpliterator"), (28, u "charAt"), (127, u "toBytes"), (1, u "(C)[B"), (7, .class_ 391), (0, u "java/lang/StringLatin1$CharsSpliterator")] 3

def k9m0 : Method := { name := "<init>", desc := "()V", sig := { parameters := [], returnType := none }, accessFlags := 0, code := none }
def k9c1 : Code := { maxStack := 2, maxLocals := 2, code := jdk_43_method_2_code, exceptionTable := #[], attributes := #[] }
def k9m1 : Method := { name := "charAt", desc := "([BI)C", sig := { parameters := [(.array .byte), .int], returnType := some .char }, accessFlags := 9, code := some k9c1 }
def k9c2 : Code := { maxStack := 2, maxLocals := 1, code := jdk_43_method_3_code, exceptionTable := #[], attributes := #[] }
def k9m2 : Method := { name := "canEncode", desc := "(C)Z", sig := { parameters := [.char], returnType := some .boolean }, accessFlags := 9, code := some k9c2 }
def k9c3 : Code := { maxStack := 4, maxLocals := 1, code := jdk_43_method_46_code, exceptionTable := #[], attributes := #[] }
def k9m3 : Method := { name := "toBytes", desc := "(C)[B", sig := { parameters := [.char], returnType := some (.array .byte) }, accessFlags := 9, code := some k9c3 }
/-- java/lang/StringLatin1 -/
def k9 : Class := { plain "java/lang/StringLatin1" (some 0) with
  accessFlags := 48
  interfaces := #[]
  cf := some (fileOf pool9 14 #[.nestMembers #[390, 221]] #[{ accessFlags := 0, nameIndex := 7, descriptorIndex := 8, attributes := #[] }, { accessFlags := 9, nameIndex := 252, descriptorIndex := 53, attributes := #[] }, { accessFlags := 9, nameIndex := 90, descriptorIndex := 105, attributes := #[] }, { accessFlags := 9, nameIndex := 380, descriptorIndex := 382, attributes := #[] }] 48 4 #[] #[{ accessFlags := 4120, nameIndex := 121, descriptorIndex := 122, attributes := #[] }])
  fields := #[{ name := "$assertionsDisabled", type := .boolean, accessFlags := 4120, slot := 0, constantValue := 0 }]
  methods := #[k9m0, k9m1, k9m2, k9m3]
  instanceTypes := #[]
  staticTypes := #[.boolean]
  resolved := Array.replicate 395 none
  statics := none }

def pool10 : Array CpInfo := pool [(1, .methodref 2 3), (0, .class_ 4), (0, .nameAndType 5 6), (0, u "java/lang/Object"), (0, u "<init>"), (0, u "()V"), (0, .methodref 8 9), (0, .class_ 10), (0, .nameAndType 11 12), (0, u "java/lang/String"), (0, u "charAt"), (0, u "(I)C"), (0, .long 10), (1, .fieldref 16 17), (0, .class_ 18), (0, .nameAndType 19 20), (0, u "com/example/bandmark/bandmark/PlainDecimal"), (0, u "text"), (0, u "Ljava/lang/String;"), (0, .fieldref 16 22), (0, .nameAndType 23 24), (0, u "from"), (0, u "I"), (0, .fieldref 16 26), (0, .nameAndType 27 24), (0, u "to"), (0, .fieldref 16 29), (0, .nameAndType 30 31), (0, u "unscaled"), (0, u "J"), (0, .fieldref 16 33), (0, .nameAndType 34 24), (0, u "scale"), (0, .fieldref 16 36), (0, .nameAndType 37 24), (0, u "digits"), (2, u "isCompact"), (0, u "()Z"), (21, u "LONG_DIGITS"), (4, u "read"), (0, u "(Ljava/lang/String;II)Z")] 5

def k10c0 : Code := { maxStack := 1, maxLocals := 1, code := prog_8_method_1_code, exceptionTable := #[], attributes := #[] }
def k10m0 : Method := { name := "<init>", desc := "()V", sig := { parameters := [], returnType := none }, accessFlags := 0, code := some k10c0 }
def k10c1 : Code := { maxStack := 4, maxLocals := 12, code := prog_8_method_2_code, exceptionTable := #[], attributes := #[] }
def k10m1 : Method := { name := "read", desc := "(Ljava/lang/String;II)Z", sig := { parameters := [(.object "java/lang/String"), .int, .int], returnType := some .boolean }, accessFlags := 0, code := some k10c1 }
def k10c2 : Code := { maxStack := 2, maxLocals := 1, code := prog_8_method_3_code, exceptionTable := #[], attributes := #[] }
def k10m2 : Method := { name := "isCompact", desc := "()Z", sig := { parameters := [], returnType := some .boolean }, accessFlags := 0, code := some k10c2 }
/-- com/example/bandmark/bandmark/PlainDecimal -/
def k10 : Class := { plain "com/example/bandmark/bandmark/PlainDecimal" (some 0) with
  accessFlags := 48
  interfaces := #[]
  cf := some (fileOf pool10 16 #[] #[{ accessFlags := 0, nameIndex := 5, descriptorIndex := 6, attributes := #[] }, { accessFlags := 0, nameIndex := 68, descriptorIndex := 69, attributes := #[] }, { accessFlags := 0, nameIndex := 40, descriptorIndex := 41, attributes := #[] }] 48 2 #[] #[{ accessFlags := 24, nameIndex := 63, descriptorIndex := 24, attributes := #[] }, { accessFlags := 2, nameIndex := 19, descriptorIndex := 20, attributes := #[] }, { accessFlags := 2, nameIndex := 23, descriptorIndex := 24, attributes := #[] }, { accessFlags := 2, nameIndex := 27, descriptorIndex := 24, attributes := #[] }, { accessFlags := 2, nameIndex := 30, descriptorIndex := 31, attributes := #[] }, { accessFlags := 2, nameIndex := 34, descriptorIndex := 24, attributes := #[] }, { accessFlags := 2, nameIndex := 37, descriptorIndex := 24, attributes := #[] }])
  fields := #[{ name := "LONG_DIGITS", type := .int, accessFlags := 24, slot := 0, constantValue := 0 }, { name := "text", type := (.object "java/lang/String"), accessFlags := 2, slot := 0, constantValue := 0 }, { name := "from", type := .int, accessFlags := 2, slot := 1, constantValue := 0 }, { name := "to", type := .int, accessFlags := 2, slot := 2, constantValue := 0 }, { name := "unscaled", type := .long, accessFlags := 2, slot := 3, constantValue := 0 }, { name := "scale", type := .int, accessFlags := 2, slot := 4, constantValue := 0 }, { name := "digits", type := .int, accessFlags := 2, slot := 5, constantValue := 0 }]
  methods := #[k10m0, k10m1, k10m2]
  instanceTypes := #[(.object "java/lang/String"), .int, .int, .long, .int, .int]
  staticTypes := #[.int]
  resolved := Array.replicate 75 none
  statics := none }

def pool11 : Array CpInfo := pool [(2, .class_ 4), (1, u "java/lang/Object"), (0, u "<init>"), (0, u "()V"), (17, .class_ 26), (1, u "jdk/internal/util/Preconditions"), (6, u "checkIndex"), (21, .class_ 56), (0, u "jdk/internal/util/Preconditions$4"), (57, .class_ 115), (0, u "jdk/internal/util/Preconditions$1"), (7, u "SIOOBE_FORMATTER"), (0, u "Ljava/util/function/BiFunction;"), (0, .class_ 126), (0, u "jdk/internal/util/Preconditions$2"), (3, u "AIOOBE_FORMATTER"), (0, .class_ 132), (0, u "jdk/internal/util/Preconditions$3"), (3, u "IOOBE_FORMATTER"), (41, u "(IILjava/util/function/BiFunction;)I")] 15

def k11m0 : Method := { name := "<init>", desc := "()V", sig := { parameters := [], returnType := none }, accessFlags := 1, code := none }
def k11c1 : Code := { maxStack := 3, maxLocals := 3, code := jdk_41_method_11_code, exceptionTable := #[], attributes := #[] }
def k11m1 : Method := { name := "checkIndex", desc := "(IILjava/util/function/BiFunction;)I", sig := { parameters := [.int, .int, (.object "java/util/function/BiFunction")], returnType := some .int }, accessFlags := 9, code := some k11c1 }
/-- jdk/internal/util/Preconditions -/
def k11 : Class := { plain "jdk/internal/util/Preconditions" (some 0) with
  accessFlags := 33
  interfaces := #[]
  cf := some (fileOf pool11 24 #[.nestMembers #[55, 131, 125, 114]] #[{ accessFlags := 1, nameIndex := 5, descriptorIndex := 6, attributes := #[] }, { accessFlags := 9, nameIndex := 33, descriptorIndex := 178, attributes := #[] }] 33 2 #[] #[{ accessFlags := 25, nameIndex := 123, descriptorIndex := 124, attributes := #[] }, { accessFlags := 25, nameIndex := 130, descriptorIndex := 124, attributes := #[] }, { accessFlags := 25, nameIndex := 136, descriptorIndex := 124, attributes := #[] }])
  fields := #[{ name := "SIOOBE_FORMATTER", type := (.object "java/util/function/BiFunction"), accessFlags := 25, slot := 0, constantValue := 0 }, { name := "AIOOBE_FORMATTER", type := (.object "java/util/function/BiFunction"), accessFlags := 25, slot := 1, constantValue := 0 }, { name := "IOOBE_FORMATTER", type := (.object "java/util/function/BiFunction"), accessFlags := 25, slot := 2, constantValue := 0 }]
  methods := #[k11m0, k11m1]
  instanceTypes := #[]
  staticTypes := #[(.object "java/util/function/BiFunction"), (.object "java/util/function/BiFunction"), (.object "java/util/function/BiFunction")]
  resolved := Array.replicate 194 none
  statics := some 1 }

def pool12 : Array CpInfo := pool [(9, u "<init>"), (6, .class_ 18), (1, u "java/lang/Object"), (0, u "()V"), (1, .class_ 23), (1, u "jdk/internal/util/ArraysSupport"), (0, u "LOG2_ARRAY_LONG_INDEX_SCALE"), (0, u "I"), (2, u "U"), (0, u "Ljdk/internal/misc/Unsafe;"), (8, u "BIG_ENDIAN"), (0, u "Z"), (8, u "LOG2_BYTE_BIT_SIZE"), (4, u "LOG2_ARRAY_INT_INDEX_SCALE"), (54, u "JLA"), (0, u "Ljdk/internal/access/JavaLangAccess;"), (11, u "LOG2_ARRAY_BOOLEAN_INDEX_SCALE"), (9, u "LOG2_ARRAY_BYTE_INDEX_SCALE"), (5, u "LOG2_ARRAY_CHAR_INDEX_SCALE"), (5, u "LOG2_ARRAY_SHORT_INDEX_SCALE"), (18, u "LOG2_ARRAY_FLOAT_INDEX_SCALE"), (24, u "LOG2_ARRAY_DOUBLE_INDEX_SCALE"), (89, u "T_BOOLEAN"), (2, u "T_CHAR"), (1, u "T_FLOAT"), (1, u "T_DOUBLE"), (1, u "T_BYTE"), (1, u "T_SHORT"), (1, u "T_INT"), (1, u "T_LONG"), (1, u "SOFT_MAX_ARRAY_LENGTH")] 83

def k12m0 : Method := { name := "<init>", desc := "()V", sig := { parameters := [], returnType := none }, accessFlags := 2, code := none }
/-- jdk/internal/util/ArraysSupport -/
def k12 : Class := { plain "jdk/internal/util/ArraysSupport" (some 0) with
  accessFlags := 33
  interfaces := #[]
  cf := some (fileOf pool12 21 #[] #[{ accessFlags := 2, nameIndex := 9, descriptorIndex := 19, attributes := #[] }] 33 16 #[] #[{ accessFlags := 24, nameIndex := 28, descriptorIndex := 29, attributes := #[] }, { accessFlags := 26, nameIndex := 38, descriptorIndex := 39, attributes := #[] }, { accessFlags := 25, nameIndex := 121, descriptorIndex := 25, attributes := #[] }, { accessFlags := 25, nameIndex := 131, descriptorIndex := 25, attributes := #[] }, { accessFlags := 25, nameIndex := 137, descriptorIndex := 25, attributes := #[] }, { accessFlags := 25, nameIndex := 143, descriptorIndex := 25, attributes := #[] }, { accessFlags := 25, nameIndex := 53, descriptorIndex := 25, attributes := #[] }, { accessFlags := 25, nameIndex := 24, descriptorIndex := 25, attributes := #[] }, { accessFlags := 25, nameIndex := 162, descriptorIndex := 25, attributes := #[] }, { accessFlags := 25, nameIndex := 187, descriptorIndex := 25, attributes := #[] }, { accessFlags := 26, nameIndex := 48, descriptorIndex := 25, attributes := #[] }, { accessFlags := 25, nameIndex := 277, descriptorIndex := 25, attributes := #[] }, { accessFlags := 25, nameIndex := 280, descriptorIndex := 25, attributes := #[] }, { accessFlags := 25, nameIndex := 282, descriptorIndex := 25, attributes := #[] }, { accessFlags := 25, nameIndex := 284, descriptorIndex := 25, attributes := #[] }, { accessFlags := 25, nameIndex := 286, descriptorIndex := 25, attributes := #[] }, { accessFlags := 25, nameIndex := 288, descriptorIndex := 25, attributes := #[] }, { accessFlags := 25, nameIndex := 290, descriptorIndex := 25, attributes := #[] }, { accessFlags := 25, nameIndex := 292, descriptorIndex := 25, attributes := #[] }, { accessFlags := 26, nameIndex := 108, descriptorIndex := 109, attributes := #[] }, { accessFlags := 25, nameIndex := 294, descriptorIndex := 25, attributes := #[] }])
  fields := #[{ name := "U", type := (.object "jdk/internal/misc/Unsafe"), accessFlags := 24, slot := 0, constantValue := 0 }, { name := "BIG_ENDIAN", type := .boolean, accessFlags := 26, slot := 1, constantValue := 0 }, { name := "LOG2_ARRAY_BOOLEAN_INDEX_SCALE", type := .int, accessFlags := 25, slot := 2, constantValue := 0 }, { name := "LOG2_ARRAY_BYTE_INDEX_SCALE", type := .int, accessFlags := 25, slot := 3, constantValue := 0 }, { name := "LOG2_ARRAY_CHAR_INDEX_SCALE", type := .int, accessFlags := 25, slot := 4, constantValue := 0 }, { name := "LOG2_ARRAY_SHORT_INDEX_SCALE", type := .int, accessFlags := 25, slot := 5, constantValue := 0 }, { name := "LOG2_ARRAY_INT_INDEX_SCALE", type := .int, accessFlags := 25, slot := 6, constantValue := 0 }, { name := "LOG2_ARRAY_LONG_INDEX_SCALE", type := .int, accessFlags := 25, slot := 7, constantValue := 0 }, { name := "LOG2_ARRAY_FLOAT_INDEX_SCALE", type := .int, accessFlags := 25, slot := 8, constantValue := 0 }, { name := "LOG2_ARRAY_DOUBLE_INDEX_SCALE", type := .int, accessFlags := 25, slot := 9, constantValue := 0 }, { name := "LOG2_BYTE_BIT_SIZE", type := .int, accessFlags := 26, slot := 10, constantValue := 0 }, { name := "T_BOOLEAN", type := .int, accessFlags := 25, slot := 11, constantValue := 0 }, { name := "T_CHAR", type := .int, accessFlags := 25, slot := 12, constantValue := 0 }, { name := "T_FLOAT", type := .int, accessFlags := 25, slot := 13, constantValue := 0 }, { name := "T_DOUBLE", type := .int, accessFlags := 25, slot := 14, constantValue := 0 }, { name := "T_BYTE", type := .int, accessFlags := 25, slot := 15, constantValue := 0 }, { name := "T_SHORT", type := .int, accessFlags := 25, slot := 16, constantValue := 0 }, { name := "T_INT", type := .int, accessFlags := 25, slot := 17, constantValue := 0 }, { name := "T_LONG", type := .int, accessFlags := 25, slot := 18, constantValue := 0 }, { name := "JLA", type := (.object "jdk/internal/access/JavaLangAccess"), accessFlags := 26, slot := 19, constantValue := 0 }, { name := "SOFT_MAX_ARRAY_LENGTH", type := .int, accessFlags := 25, slot := 20, constantValue := 0 }]
  methods := #[k12m0]
  instanceTypes := #[]
  staticTypes := #[(.object "jdk/internal/misc/Unsafe"), .boolean, .int, .int, .int, .int, .int, .int, .int, .int, .int, .int, .int, .int, .int, .int, .int, .int, .int, (.object "jdk/internal/access/JavaLangAccess"), .int]
  resolved := Array.replicate 378 none
  statics := none }

def pool13 : Array CpInfo := pool [(1, u "java/lang/Cloneable"), (0, .class_ 1), (0, u "java/lang/Object"), (0, .class_ 3)] 3

/-- java/lang/Cloneable -/
def k13 : Class := { plain "java/lang/Cloneable" (some 0) with
  accessFlags := 1537
  interfaces := #[]
  cf := some (fileOf pool13 2 #[] #[] 1537 4 #[] #[])
  fields := #[]
  methods := #[]
  instanceTypes := #[]
  staticTypes := #[]
  resolved := Array.replicate 8 none
  statics := none }

/-- the primitive byte -/
def k14 : Class := { plain "byte" none with kind := .primitive 'B', accessFlags := 0x411 }
/-- [B -/
def k15 : Class := { plain "[B" (some 0) with kind := .array 14 .byte, interfaces := #[13, 2], accessFlags := 1041 }

/-- the primitive char -/
def k16 : Class := { plain "char" none with kind := .primitive 'C', accessFlags := 0x411 }
/-- [C -/
def k17 : Class := { plain "[C" (some 0) with kind := .array 16 .char, interfaces := #[13, 2], accessFlags := 1041 }

/-- the primitive int -/
def k18 : Class := { plain "int" none with kind := .primitive 'I', accessFlags := 0x411 }
/-- [I -/
def k19 : Class := { plain "[I" (some 0) with kind := .array 18 .int, interfaces := #[13, 2], accessFlags := 1041 }

def heap : Heap := #[{ cls := 7, slots := #[.long 0, .int 1, .null, .int 0, .null, .int 0, .int 0], vm := .statics 7 },
  { cls := 11, slots := #[.null, .null, .null], vm := .statics 11 }]
def classes : Array Class := #[k0, k1, k2, k3, k4, k5, k6, k7, k8, k9, k10, k11, k12, k13, k14, k15, k16, k17, k18, k19]
def interned : List (Array UInt16 × Addr) := []
def slotsUsed : Nat := 10
def theMethod : MethodId := ⟨1, 2⟩
def args0 : Array Value := #[.int 0, .int 3, .long 1, .int 7, .int 3, .int 53]
def aboutOver (below : List Frame) : State where
  vm := { classes := classes, interned := interned.toArray }
  heap := heap
  slotsUsed := slotsUsed
  threads := #[{ frames := .invoking theMethod args0 :: below }]
def below0 : List Frame := [.native { method := ⟨0, 0⟩, args := #[] }]
def about1 : State := aboutOver below0
def p0 : Program := .bare "" "" ""
def e0 : Env := launch0.env 0 0 0
theorem w_frames : about1.frames = Frame.invoking theMethod args0 :: below0 := rfl
set_option maxRecDepth 65536 in
theorem w_args : argsFit about1.vm theMethod args0 = true := by decide +kernel
set_option maxRecDepth 65536 in
theorem w_heap : heapFits about1 = true := by decide +kernel
set_option maxRecDepth 65536 in
theorem w_runnable : about1.curStatus? = some .runnable := by decide +kernel
set_option maxRecDepth 65536 in
theorem w_alone : about1.alone = true := by decide +kernel
set_option maxRecDepth 65536 in
theorem w_named : about1.methodNamed? x = some theMethod := by decide +kernel
set_option maxRecDepth 65536 in
theorem w_hears : about1.hears theMethod below0 = true := by decide +kernel
set_option maxRecDepth 65536 in
theorem w_ripe : about1.ripe theMethod args0 below0 = true := by decide +kernel
theorem w_running : about1.status = .running := rfl
set_option maxRecDepth 65536 in
theorem w_room : about1.hasRoom e0.platform room_1 = true :=
  launch0.hasRoom_least _ room_1 (by decide +kernel) (by decide +kernel) (by decide +kernel) (by decide +kernel) (by decide +kernel) (by decide +kernel)
theorem allAtoms_all (ts : List Jvm.Cond) (a : Array Jvm.Value) (st : Jvm.State) : (allAtoms ts).before a st = ts.all (fun c => c.before a st) := by
  induction ts with
  | nil => rfl
  | cons c t ih =>
    show (Jvm.Cond.and c (allAtoms t)).before a st = _
    rw [Jvm.Cond.before_and, ih, List.all_cons]
def words1 : List Jvm.Cond := Jvm.Cond.code x code maxLocals ret :: tables_1
/-- a 'code' word, met by the world's own term for the bytes: nothing is compared byte by byte -/
theorem code_word {y : MethodName} {bytes : ByteArray} {mx : Nat} {rt : Option FieldType} {a : Array Value} {s : State} {m : MethodId} {meth : Method} {c : Code} (h1 : s.methodNamed? y = some m) (h2 : s.vm.method? m = some meth) (h3 : meth.code = some c) (h4 : c.code = bytes)
    (h5 : (c.maxLocals == mx && c.exceptionTable.isEmpty && decide (c.maxStack ≤ mostOperands) && decide (meth.sig.returnType = rt) && !meth.locks && decide (parseMethodDescriptor y.desc = some meth.sig)) = true) : (Jvm.Cond.code y bytes mx rt).before a s = true := by
  simp only [Bool.and_eq_true, beq_iff_eq, Bool.not_eq_true', decide_eq_true_eq] at h5
  obtain ⟨⟨⟨⟨⟨g1, g2⟩, g3⟩, g4⟩, g5⟩, g6⟩ := h5
  simp [Cond.before, Cond.holds, Cond.value, h1, h2, h3, h4, g1, g2, g3, g4, g5, g6]
def isCode : Jvm.Cond → Bool
  | .code _ _ _ _ => true
  | _ => false
theorem all_split {L : List Jvm.Cond} {P : Jvm.Cond → Bool} (h1 : L.all (fun c => isCode c || P c) = true) (h2 : ∀ c ∈ L.filter isCode, P c = true) : L.all P = true := by
  refine List.all_eq_true.mpr fun c hc => ?_
  have h := List.all_eq_true.mp h1 c hc
  rcases Bool.eq_false_or_eq_true (isCode c) with hi | hi
  · exact h2 c (List.mem_filter.mpr ⟨hc, hi⟩)
  · simpa [hi] using h
set_option maxRecDepth 65536 in
theorem w_c0 : (Jvm.Cond.code x code maxLocals ret).before args0 about1 = true := code_word (m := ⟨1, 2⟩) (meth := k1m2) (c := k1c2) (by decide +kernel) rfl rfl rfl (by decide +kernel)
set_option maxRecDepth 65536 in
theorem w_c1 : (Jvm.Cond.code ({ cls := "com/example/bandmark/bandmark/PlainDecimalIsCompactPinLaw", name := "dg", desc := "(JI)C" } : Jvm.MethodName) method_2_code (3 : Nat) (Option.some Jvm.ClassFile.FieldType.char)).before args0 about1 = true := code_word (m := ⟨1, 1⟩) (meth := k1m1) (c := k1c1) (by decide +kernel) rfl rfl rfl (by decide +kernel)
set_option maxRecDepth 65536 in
theorem w_c2 : (Jvm.Cond.code ({ cls := "java/lang/String", name := "<init>", desc := "([C)V" } : Jvm.MethodName) jdk_42_method_3_code (2 : Nat) (Option.none : Option Jvm.ClassFile.FieldType)).before args0 about1 = true := code_word (m := ⟨7, 1⟩) (meth := k7m1) (c := k7c1) (by decide +kernel) rfl rfl rfl (by decide +kernel)
set_option maxRecDepth 65536 in
theorem w_c3 : (Jvm.Cond.code ({ cls := "java/lang/String", name := "<init>", desc := "([CIILjava/lang/Void;)V" } : Jvm.MethodName) jdk_42_method_149_code (6 : Nat) (Option.none : Option Jvm.ClassFile.FieldType)).before args0 about1 = true := code_word (m := ⟨7, 4⟩) (meth := k7m4) (c := k7c4) (by decide +kernel) rfl rfl rfl (by decide +kernel)
set_option maxRecDepth 65536 in
theorem w_c4 : (Jvm.Cond.code ({ cls := "java/lang/Object", name := "<init>", desc := "()V" } : Jvm.MethodName) object_method_1_code (1 : Nat) (Option.none : Option Jvm.ClassFile.FieldType)).before args0 about1 = true := code_word (m := ⟨0, 0⟩) (meth := k0m0) (c := k0c0) (by decide +kernel) rfl rfl rfl (by decide +kernel)
set_option maxRecDepth 65536 in
theorem w_c5 : (Jvm.Cond.code ({ cls := "java/lang/StringUTF16", name := "compress", desc := "([CII)[B" } : Jvm.MethodName) jdk_52_method_16_code (6 : Nat) (Option.some (Jvm.ClassFile.FieldType.array Jvm.ClassFile.FieldType.byte))).before args0 about1 = true := code_word (m := ⟨8, 2⟩) (meth := k8m2) (c := k8c2) (by decide +kernel) rfl rfl rfl (by decide +kernel)
set_option maxRecDepth 65536 in
theorem w_c6 : (Jvm.Cond.code ({ cls := "java/lang/StringUTF16", name := "compress", desc := "([CI[BII)I" } : Jvm.MethodName) jdk_52_method_21_code (7 : Nat) (Option.some Jvm.ClassFile.FieldType.int)).before args0 about1 = true := code_word (m := ⟨8, 3⟩) (meth := k8m3) (c := k8c3) (by decide +kernel) rfl rfl rfl (by decide +kernel)
set_option maxRecDepth 65536 in
theorem w_c7 : (Jvm.Cond.code ({ cls := "java/lang/StringUTF16", name := "coderFromArrayLen", desc := "([BI)B" } : Jvm.MethodName) jdk_52_method_15_code (2 : Nat) (Option.some Jvm.ClassFile.FieldType.byte)).before args0 about1 = true := code_word (m := ⟨8, 1⟩) (meth := k8m1) (c := k8c1) (by decide +kernel) rfl rfl rfl (by decide +kernel)
set_option maxRecDepth 65536 in
theorem w_c8 : (Jvm.Cond.code ({ cls := "java/lang/String", name := "valueOf", desc := "(C)Ljava/lang/String;" } : Jvm.MethodName) jdk_42_method_139_code (1 : Nat) (Option.some (Jvm.ClassFile.FieldType.object "java/lang/String"))).before args0 about1 = true := code_word (m := ⟨7, 3⟩) (meth := k7m3) (c := k7c3) (by decide +kernel) rfl rfl rfl (by decide +kernel)
set_option maxRecDepth 65536 in
theorem w_c9 : (Jvm.Cond.code ({ cls := "java/lang/StringLatin1", name := "canEncode", desc := "(C)Z" } : Jvm.MethodName) jdk_43_method_3_code (1 : Nat) (Option.some Jvm.ClassFile.FieldType.boolean)).before args0 about1 = true := code_word (m := ⟨9, 2⟩) (meth := k9m2) (c := k9c2) (by decide +kernel) rfl rfl rfl (by decide +kernel)
set_option maxRecDepth 65536 in
theorem w_c10 : (Jvm.Cond.code ({ cls := "java/lang/StringLatin1", name := "toBytes", desc := "(C)[B" } : Jvm.MethodName) jdk_43_method_46_code (1 : Nat) (Option.some (Jvm.ClassFile.FieldType.array Jvm.ClassFile.FieldType.byte))).before args0 about1 = true := code_word (m := ⟨9, 3⟩) (meth := k9m3) (c := k9c3) (by decide +kernel) rfl rfl rfl (by decide +kernel)
set_option maxRecDepth 65536 in
theorem w_c11 : (Jvm.Cond.code ({ cls := "java/lang/String", name := "<init>", desc := "([BB)V" } : Jvm.MethodName) jdk_42_method_151_code (3 : Nat) (Option.none : Option Jvm.ClassFile.FieldType)).before args0 about1 = true := code_word (m := ⟨7, 5⟩) (meth := k7m5) (c := k7c5) (by decide +kernel) rfl rfl rfl (by decide +kernel)
set_option maxRecDepth 65536 in
theorem w_c12 : (Jvm.Cond.code ({ cls := "com/example/bandmark/bandmark/PlainDecimal", name := "<init>", desc := "()V" } : Jvm.MethodName) prog_8_method_1_code (1 : Nat) (Option.none : Option Jvm.ClassFile.FieldType)).before args0 about1 = true := code_word (m := ⟨10, 0⟩) (meth := k10m0) (c := k10c0) (by decide +kernel) rfl rfl rfl (by decide +kernel)
set_option maxRecDepth 65536 in
theorem w_c13 : (Jvm.Cond.code ({ cls := "com/example/bandmark/bandmark/PlainDecimal", name := "read", desc := "(Ljava/lang/String;II)Z" } : Jvm.MethodName) prog_8_method_2_code (12 : Nat) (Option.some Jvm.ClassFile.FieldType.boolean)).before args0 about1 = true := code_word (m := ⟨10, 1⟩) (meth := k10m1) (c := k10c1) (by decide +kernel) rfl rfl rfl (by decide +kernel)
set_option maxRecDepth 65536 in
theorem w_c14 : (Jvm.Cond.code ({ cls := "com/example/bandmark/bandmark/PlainDecimal", name := "isCompact", desc := "()Z" } : Jvm.MethodName) prog_8_method_3_code (1 : Nat) (Option.some Jvm.ClassFile.FieldType.boolean)).before args0 about1 = true := code_word (m := ⟨10, 2⟩) (meth := k10m2) (c := k10c2) (by decide +kernel) rfl rfl rfl (by decide +kernel)
set_option maxRecDepth 65536 in
theorem w_c15 : (Jvm.Cond.code ({ cls := "java/lang/String", name := "charAt", desc := "(I)C" } : Jvm.MethodName) jdk_42_method_56_code (2 : Nat) (Option.some Jvm.ClassFile.FieldType.char)).before args0 about1 = true := code_word (m := ⟨7, 2⟩) (meth := k7m2) (c := k7c2) (by decide +kernel) rfl rfl rfl (by decide +kernel)
set_option maxRecDepth 65536 in
theorem w_c16 : (Jvm.Cond.code ({ cls := "java/lang/String", name := "isLatin1", desc := "()Z" } : Jvm.MethodName) jdk_42_method_154_code (1 : Nat) (Option.some Jvm.ClassFile.FieldType.boolean)).before args0 about1 = true := code_word (m := ⟨7, 6⟩) (meth := k7m6) (c := k7c6) (by decide +kernel) rfl rfl rfl (by decide +kernel)
set_option maxRecDepth 65536 in
theorem w_c17 : (Jvm.Cond.code ({ cls := "java/lang/StringLatin1", name := "charAt", desc := "([BI)C" } : Jvm.MethodName) jdk_43_method_2_code (2 : Nat) (Option.some Jvm.ClassFile.FieldType.char)).before args0 about1 = true := code_word (m := ⟨9, 1⟩) (meth := k9m1) (c := k9c1) (by decide +kernel) rfl rfl rfl (by decide +kernel)
set_option maxRecDepth 65536 in
theorem w_c18 : (Jvm.Cond.code ({ cls := "java/lang/String", name := "checkIndex", desc := "(II)V" } : Jvm.MethodName) jdk_42_method_155_code (2 : Nat) (Option.none : Option Jvm.ClassFile.FieldType)).before args0 about1 = true := code_word (m := ⟨7, 7⟩) (meth := k7m7) (c := k7c7) (by decide +kernel) rfl rfl rfl (by decide +kernel)
set_option maxRecDepth 65536 in
theorem w_c19 : (Jvm.Cond.code ({ cls := "jdk/internal/util/Preconditions", name := "checkIndex", desc := "(IILjava/util/function/BiFunction;)I" } : Jvm.MethodName) jdk_41_method_11_code (3 : Nat) (Option.some Jvm.ClassFile.FieldType.int)).before args0 about1 = true := code_word (m := ⟨11, 1⟩) (meth := k11m1) (c := k11c1) (by decide +kernel) rfl rfl rfl (by decide +kernel)
def codes1 : List Jvm.Cond := [Jvm.Cond.code x code maxLocals ret, Jvm.Cond.code ({ cls := "com/example/bandmark/bandmark/PlainDecimalIsCompactPinLaw", name := "dg", desc := "(JI)C" } : Jvm.MethodName) method_2_code (3 : Nat) (Option.some Jvm.ClassFile.FieldType.char), Jvm.Cond.code ({ cls := "java/lang/String", name := "<init>", desc := "([C)V" } : Jvm.MethodName) jdk_42_method_3_code (2 : Nat) (Option.none : Option Jvm.ClassFile.FieldType), Jvm.Cond.code ({ cls := "java/lang/String", name := "<init>", desc := "([CIILjava/lang/Void;)V" } : Jvm.MethodName) jdk_42_method_149_code (6 : Nat) (Option.none : Option Jvm.ClassFile.FieldType), Jvm.Cond.code ({ cls := "java/lang/Object", name := "<init>", desc := "()V" } : Jvm.MethodName) object_method_1_code (1 : Nat) (Option.none : Option Jvm.ClassFile.FieldType), Jvm.Cond.code ({ cls := "java/lang/StringUTF16", name := "compress", desc := "([CII)[B" } : Jvm.MethodName) jdk_52_method_16_code (6 : Nat) (Option.some (Jvm.ClassFile.FieldType.array Jvm.ClassFile.FieldType.byte)), Jvm.Cond.code ({ cls := "java/lang/StringUTF16", name := "compress", desc := "([CI[BII)I" } : Jvm.MethodName) jdk_52_method_21_code (7 : Nat) (Option.some Jvm.ClassFile.FieldType.int), Jvm.Cond.code ({ cls := "java/lang/StringUTF16", name := "coderFromArrayLen", desc := "([BI)B" } : Jvm.MethodName) jdk_52_method_15_code (2 : Nat) (Option.some Jvm.ClassFile.FieldType.byte), Jvm.Cond.code ({ cls := "java/lang/String", name := "valueOf", desc := "(C)Ljava/lang/String;" } : Jvm.MethodName) jdk_42_method_139_code (1 : Nat) (Option.some (Jvm.ClassFile.FieldType.object "java/lang/String")), Jvm.Cond.code ({ cls := "java/lang/StringLatin1", name := "canEncode", desc := "(C)Z" } : Jvm.MethodName) jdk_43_method_3_code (1 : Nat) (Option.some Jvm.ClassFile.FieldType.boolean), Jvm.Cond.code ({ cls := "java/lang/StringLatin1", name := "toBytes", desc := "(C)[B" } : Jvm.MethodName) jdk_43_method_46_code (1 : Nat) (Option.some (Jvm.ClassFile.FieldType.array Jvm.ClassFile.FieldType.byte)), Jvm.Cond.code ({ cls := "java/lang/String", name := "<init>", desc := "([BB)V" } : Jvm.MethodName) jdk_42_method_151_code (3 : Nat) (Option.none : Option Jvm.ClassFile.FieldType), Jvm.Cond.code ({ cls := "com/example/bandmark/bandmark/PlainDecimal", name := "<init>", desc := "()V" } : Jvm.MethodName) prog_8_method_1_code (1 : Nat) (Option.none : Option Jvm.ClassFile.FieldType), Jvm.Cond.code ({ cls := "com/example/bandmark/bandmark/PlainDecimal", name := "read", desc := "(Ljava/lang/String;II)Z" } : Jvm.MethodName) prog_8_method_2_code (12 : Nat) (Option.some Jvm.ClassFile.FieldType.boolean), Jvm.Cond.code ({ cls := "com/example/bandmark/bandmark/PlainDecimal", name := "isCompact", desc := "()Z" } : Jvm.MethodName) prog_8_method_3_code (1 : Nat) (Option.some Jvm.ClassFile.FieldType.boolean), Jvm.Cond.code ({ cls := "java/lang/String", name := "charAt", desc := "(I)C" } : Jvm.MethodName) jdk_42_method_56_code (2 : Nat) (Option.some Jvm.ClassFile.FieldType.char), Jvm.Cond.code ({ cls := "java/lang/String", name := "isLatin1", desc := "()Z" } : Jvm.MethodName) jdk_42_method_154_code (1 : Nat) (Option.some Jvm.ClassFile.FieldType.boolean), Jvm.Cond.code ({ cls := "java/lang/StringLatin1", name := "charAt", desc := "([BI)C" } : Jvm.MethodName) jdk_43_method_2_code (2 : Nat) (Option.some Jvm.ClassFile.FieldType.char), Jvm.Cond.code ({ cls := "java/lang/String", name := "checkIndex", desc := "(II)V" } : Jvm.MethodName) jdk_42_method_155_code (2 : Nat) (Option.none : Option Jvm.ClassFile.FieldType), Jvm.Cond.code ({ cls := "jdk/internal/util/Preconditions", name := "checkIndex", desc := "(IILjava/util/function/BiFunction;)I" } : Jvm.MethodName) jdk_41_method_11_code (3 : Nat) (Option.some Jvm.ClassFile.FieldType.int)]
set_option maxRecDepth 65536 in
theorem codes_eq : words1.filter isCode = codes1 := rfl
theorem w_codes : ∀ c ∈ words1.filter isCode, c.before args0 about1 = true := by
  rw [codes_eq]
  intro c hc
  simp only [codes1, List.mem_cons, List.not_mem_nil, or_false] at hc
  rcases hc with rfl | rfl | rfl | rfl | rfl | rfl | rfl | rfl | rfl | rfl | rfl | rfl | rfl | rfl | rfl | rfl | rfl | rfl | rfl | rfl
  · exact w_c0
  · exact w_c1
  · exact w_c2
  · exact w_c3
  · exact w_c4
  · exact w_c5
  · exact w_c6
  · exact w_c7
  · exact w_c8
  · exact w_c9
  · exact w_c10
  · exact w_c11
  · exact w_c12
  · exact w_c13
  · exact w_c14
  · exact w_c15
  · exact w_c16
  · exact w_c17
  · exact w_c18
  · exact w_c19
set_option maxRecDepth 65536 in
theorem w_t1 : (words1.take 24).all (fun c => isCode c || c.before args0 about1) = true := by decide +kernel
set_option maxRecDepth 65536 in
theorem w_t2 : ((words1.drop 24).take 24).all (fun c => isCode c || c.before args0 about1) = true := by decide +kernel
set_option maxRecDepth 65536 in
theorem w_t3 : (((words1.drop 24).drop 24).take 24).all (fun c => isCode c || c.before args0 about1) = true := by decide +kernel
set_option maxRecDepth 65536 in
theorem w_t4 : ((((words1.drop 24).drop 24).drop 24).take 24).all (fun c => isCode c || c.before args0 about1) = true := by decide +kernel
set_option maxRecDepth 65536 in
theorem w_t5 : ((((words1.drop 24).drop 24).drop 24).drop 24).all (fun c => isCode c || c.before args0 about1) = true := by decide +kernel
theorem w_tables : (allAtoms (Jvm.Cond.code x code maxLocals ret :: tables_1)).before args0 about1 = true := by
  rw [allAtoms_all]
  show words1.all (fun c => c.before args0 about1) = true
  refine all_split ?_ w_codes
  rw [← List.take_append_drop 24 words1, List.all_append, w_t1, ← List.take_append_drop 24 (words1.drop 24), List.all_append, w_t2, ← List.take_append_drop 24 ((words1.drop 24).drop 24), List.all_append, w_t3, ← List.take_append_drop 24 (((words1.drop 24).drop 24).drop 24), List.all_append, w_t4, w_t5]
  rfl
set_option maxRecDepth 65536 in
theorem w_rest : rest_1_c.before args0 about1 = true := by decide +kernel
set_option maxRecDepth 65536 in
theorem w_case : (Jvm.Cond.and given_1 narrow_1).before args0 about1 = true := by decide +kernel
theorem w_applies : (headSpec (Jvm.Cond.code x code maxLocals ret :: tables_1) room_1).applies x e0.platform about1 = true :=
  (Spec.applies_iff w_frames).mpr ⟨w_running, w_runnable, w_alone, w_named, w_hears, w_ripe, w_room, w_tables⟩
theorem atStart : AtStart classFile x code maxLocals ret World_1 tables_1 room_1 Calls_1 rest_1 Pre_1 launch0 p0 e0 about1 theMethod args0 below0 :=
  ⟨lists_1, trivial, launch0.admits_env _ _ _, launch0.least_env, fairChoices_fair.cas, fairChoices_fair.clock, w_frames, w_args, w_heap, w_applies, trivial, w_rest, w_case⟩
end start1
theorem witness_1 : WitnessClaimed_1 := ⟨start1.p0, start1.e0, start1.about1, start1.theMethod, start1.args0, start1.below0, start1.atStart⟩
end Jvm.Pilot.@@N@@
