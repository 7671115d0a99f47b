import JvmDerived
import JvmDerived.Pilot.@@N@@Statement
import JvmDerived.Pilot.@@N@@Code
set_option linter.unusedVariables false
set_option linter.unusedSimpArgs false
namespace Jvm.RoadKit
open Sem ClassFile Op Lib Jvm.Stand Jvm.Free Jvm.LawKit
section New
variable {p : Program} {l : Launch} {e : Env} {R : Room} {s : State} {m : MethodId} {args : Array Value} {below : List Frame} {meth : Method} {c : Code} {T : State} {locs : List Loc} {cells slots : Nat}
theorem retI (X : Stand p l e R s m args below meth c T locs cells slots) (hx : p.tables.exec = Jvm.exec) {pc : Nat} {Ls : Array Slot} {z : Int32} {rest : List Value} (hret : meth.sig.returnType = some .int) (hd : decode c.code pc = .ok (.ireturn, 1)) {fs : List Frame}
    (hl : ∀ (f : JFrame) (acts : List Action), f.method = m → f.locked = none → f.entered = [] → (doReturn e (T.setTop f) acts (some (.int z))).1 = T.setFrames fs) : Steps p.tables e below (T.setTop (mkF m pc Ls (.int z :: rest))) (T.setFrames fs) := by
  have hm' : T.vm.method? m = some meth := X.method'
  have hn : narrow .int (.int z) = .int z := rfl
  show Steps p.tables e below (T.setTop { method := m, pc := pc, locals := Ls, stack := _ :: rest, locked := none }) _
  jvm_step X.here [X.here.top, hx, hd, hm', hret, hn]
  first | (intro acts; rw [hl _ acts rfl rfl rfl]) | rw [hl _ _ rfl rfl rfl]
  exact Steps.refl _
end New
end Jvm.RoadKit
/- laws to paste: Road.backV, Road.chN, Road.codOf (cut by pick.py; bodies as the Statement names them) -/
namespace Jvm.Pilot.@@N@@
namespace StrChars
open Jvm Sem ClassFile Op Lib Jvm.Stand Jvm.Free.XT Jvm.Free.ALB Jvm.Free.JM Jvm.Free
open Jvm.Lib.Cold (StaticIs)
/-- a char array whose places are chars -/
def Ch (a : Addr) (A : Cell) (U : State) : Prop := Arr .char a A U ∧ Typed .char A
theorem Ch.mv {a : Addr} {A : Cell} {U U' : State} (h : Ch a A U) (hal : U.vm.Alike U'.vm) (hh : U'.heap = U.heap) : Ch a A U' := ⟨h.1.mv hal hh, h.2⟩
theorem Ch.keep {a : Addr} {A : Cell} {U U' : State} (h : Ch a A U) (hal : U.vm.Alike U'.vm) (hk : U'.heap[a]? = some A) : Ch a A U' := ⟨h.1.keep hal hk, h.2⟩
/-- what place i of a char[]'s cell holds -/
def cv (A : Cell) (i : Nat) : Int32 := match A.slots[i]? with | some (.int x) => x | _ => 0
theorem Ch.get {a : Addr} {A : Cell} {U : State} (h : Ch a A U) {i : Nat} (hi : i < A.slots.size) : A.slots[i]? = some (.int (cv A i)) := by
  have e := Array.getElem?_eq_getElem hi
  have f := h.2 i _ e
  unfold cv; rw [e]
  generalize A.slots[i] = v at f
  cases v <;> simp [fits] at f ⊢
/-- the byte that i2b leaves of a char -/
def lo8 (x : Int32) : Int32 := x.toInt8.toInt32
theorem fits_lo8 (y : Int32) : fits .byte (.int (lo8 y)) = true := by
  have h1 := y.toInt8.le_toInt
  have h2 := y.toInt8.toInt_lt
  simp only [lo8, fits, Bool.and_eq_true, decide_eq_true_eq, Int32.le_iff_toInt_le, Int8.toInt_toInt32, show (-128 : Int32).toInt = -128 from by decide, show (127 : Int32).toInt = 127 from by decide]
  omega
/-- A' is A but that each place j of lo .. hi - 1 holds f j -/
def Laid (A A' : Cell) (lo hi : Nat) (f : Nat → Value) : Prop := A'.cls = A.cls ∧ A'.vm = A.vm ∧ A'.slots.size = A.slots.size ∧ ∀ i, A'.slots[i]? = if lo ≤ i ∧ i < hi then some (f i) else A.slots[i]?
theorem Laid.zero (A : Cell) (lo : Nat) (f : Nat → Value) : Laid A A lo (lo + 0) f := ⟨rfl, rfl, rfl, fun i => by rw [if_neg (by omega)]⟩
theorem Laid.step {A Ak : Cell} {lo k : Nat} {f : Nat → Value} {v : Value} (h : Laid A Ak lo k f) (hlo : lo ≤ k) (hk : k < Ak.slots.size) (hv : v = f k) : Laid A (Ak.setSlot k v) lo (k + 1) f := by
  refine ⟨h.1, h.2.1, by simpa [Cell.setSlot] using h.2.2.1, fun i => ?_⟩
  by_cases e : k = i
  · subst e; rw [Cell.slots_setSlot_self v hk, if_pos (by omega), hv]
  · rw [Cell.slots_setSlot_ne v e, h.2.2.2 i]
    by_cases q : lo ≤ i ∧ i < k
    · rw [if_pos q, if_pos (by omega)]
    · rw [if_neg q, if_neg (by omega)]
def U16 : String := "java/lang/StringUTF16"
namespace Cmp5
def yN : MethodName := ⟨"java/lang/StringUTF16", "compress", "([CI[BII)I"⟩
abbrev yB : ByteArray := jdk_52_method_21_code
theorem d0 : decode yB 0 = .ok (.iconst 0, 1) := by decide +kernel
theorem d1 : decode yB 1 = .ok (.istore 5, 2) := by decide +kernel
theorem d3 : decode yB 3 = .ok (.iload 5, 2) := by decide +kernel
theorem d5 : decode yB 5 = .ok (.iload 4, 2) := by decide +kernel
theorem d7 : decode yB 7 = .ok (.if_icmp (.ge) 37, 3) := by decide +kernel
theorem d10 : decode yB 10 = .ok (.aload_n 0, 1) := by decide +kernel
theorem d11 : decode yB 11 = .ok (.iload_n 1, 1) := by decide +kernel
theorem d12 : decode yB 12 = .ok (.caload, 1) := by decide +kernel
theorem d13 : decode yB 13 = .ok (.istore 6, 2) := by decide +kernel
theorem d15 : decode yB 15 = .ok (.iload 6, 2) := by decide +kernel
theorem d17 : decode yB 17 = .ok (.sipush 255, 3) := by decide +kernel
theorem d20 : decode yB 20 = .ok (.if_icmp (.le) 6, 3) := by decide +kernel
theorem d26 : decode yB 26 = .ok (.aload_n 2, 1) := by decide +kernel
theorem d27 : decode yB 27 = .ok (.iload_n 3, 1) := by decide +kernel
theorem d28 : decode yB 28 = .ok (.iload 6, 2) := by decide +kernel
theorem d30 : decode yB 30 = .ok (.i2b, 1) := by decide +kernel
theorem d31 : decode yB 31 = .ok (.bastore, 1) := by decide +kernel
theorem d32 : decode yB 32 = .ok (.iinc 1 1, 3) := by decide +kernel
theorem d35 : decode yB 35 = .ok (.iinc 3 1, 3) := by decide +kernel
theorem d38 : decode yB 38 = .ok (.iinc 5 1, 3) := by decide +kernel
theorem d41 : decode yB 41 = .ok (.goto (-38), 3) := by decide +kernel
theorem d44 : decode yB 44 = .ok (.iload 4, 2) := by decide +kernel
theorem d46 : decode yB 46 = .ok (.ireturn, 1) := by decide +kernel
def site : List Cond := []
def tab : Cond := tabOf yN yB 7 (some .int) site
def P (b : Addr) (A : Cell) (d : Addr) (B : Cell) (o q len : Nat) (args : Array Value) (s : State) : Prop := args = #[.ref b, .int (Int32.ofNat o), .ref d, .int (Int32.ofNat q), .int (Int32.ofNat len)] ∧ Ch b A s ∧ Arr .byte d B s ∧ b ≠ d ∧ o + len ≤ A.slots.size ∧ q + len ≤ B.slots.size ∧ ∀ i, i < len → ¬ 255 < cv A (o + i)
def E (b : Addr) (A : Cell) (d : Addr) (B : Cell) (o q len : Nat) (r : Option Value) (s u : State) : Prop := r = some (.int (Int32.ofNat len)) ∧ ∃ B', Put d B' s u ∧ Laid B B' q (q + len) (fun j => Value.int (lo8 (cv A (o + (j - q)))))
/-- no char of the range above 255: len; the places written hold each char's low byte -/
theorem law (l : Launch) (b : Addr) (A : Cell) (d : Addr) (B : Cell) (o q len : Nat) : Law l yN 5 5 0 0 yB 7 (some .int) site (P b A d B o q len) (E b A d B o q len) (copyLocs d q len) 0 0 := by
  refine Law.of_walk (plainFor_of_name (by decide +kernel)) (by decide +kernel) (by decide +kernel) (by decide) (fun _ _ h => by rw [h.1]; rfl) (fun _ U U' hal hh h => ⟨h.1, h.2.1.mv hal hh, h.2.2.1.mv hal hh, h.2.2.2⟩) (fun r U U' V V' h1 hal h2 h => ⟨h.1, h.2.elim fun B' q => ⟨B', q.1.mv h1 h2, q.2⟩⟩) ?_
  intro p e s m args below meth c s₁ X0 hexec hbytes hml hret hlk hnm hown hh0 W hP
  obtain ⟨rfl, hA, hB, hne, l1, l2, hp⟩ := hP
  have c1 : Steps p.tables e below (s₁.setTop (entryFrame m #[.ref b, .int (Int32.ofNat o), .ref d, .int (Int32.ofNat q), .int (Int32.ofNat len)] 7)) (s₁.setTop (mkF m 0 #[.val (.ref b), .val (.int (Int32.ofNat o)), .val (.ref d), .val (.int (Int32.ofNat q)), .val (.int (Int32.ofNat len)), .unset, .unset] [])) := entry rfl
  have hA0 := hA.1.mv X0.warmed.alike hh0
  have hB0 := hB.mv X0.warmed.alike hh0
  have a31 := hA.1.2.2.2
  have c2 : Steps p.tables e below (s₁.setTop (entryFrame m #[.ref b, .int (Int32.ofNat o), .ref d, .int (Int32.ofNat q), .int (Int32.ofNat len)] 7)) (s₁.setTop (mkF m 3 #[.val (.ref b), .val (.int (Int32.ofNat o)), .val (.ref d), .val (.int (Int32.ofNat q)), .val (.int (Int32.ofNat len)), .val (.int 0), .unset] [])) := c1.trans (by
    refine iconstV X0.here hexec rfl 0 (hb hbytes d0) (by decide) ?_
    refine XS.istore X0.here hexec rfl (hb hbytes d1) rfl rfl ?_
    exact Steps.refl _)
  have loop : ∀ (r i : Nat), i + r = len → ∀ (z : Slot), (z = .unset ∨ ∃ w, z = .val w ∧ w.category = 1) → ∀ (Tl : State) (Bk : Cell), Stand p l e { frames := 0, locals := 0, cells := 0, slots := 0 } s m #[.ref b, .int (Int32.ofNat o), .ref d, .int (Int32.ofNat q), .int (Int32.ofNat len)] below meth c Tl ([] ++ copyLocs d q i) 0 0 → Put d Bk s₁ Tl → Laid B Bk q (q + i) (fun j => Value.int (lo8 (cv A (o + (j - q))))) →
      Steps p.tables e below (s₁.setTop (entryFrame m #[.ref b, .int (Int32.ofNat o), .ref d, .int (Int32.ofNat q), .int (Int32.ofNat len)] 7)) (Tl.setTop (mkF m 3 #[.val (.ref b), .val (.int (Int32.ofNat (o + i))), .val (.ref d), .val (.int (Int32.ofNat (q + i))), .val (.int (Int32.ofNat len)), .val (.int (Int32.ofNat i)), z] [])) → ∃ (T' : State) (B' : Cell) (z' : Slot), Stand p l e { frames := 0, locals := 0, cells := 0, slots := 0 } s m #[.ref b, .int (Int32.ofNat o), .ref d, .int (Int32.ofNat q), .int (Int32.ofNat len)] below meth c T' ([] ++ copyLocs d q len) 0 0 ∧ Put d B' s₁ T' ∧ Laid B B' q (q + len) (fun j => Value.int (lo8 (cv A (o + (j - q))))) ∧
      Steps p.tables e below (s₁.setTop (entryFrame m #[.ref b, .int (Int32.ofNat o), .ref d, .int (Int32.ofNat q), .int (Int32.ofNat len)] 7)) (T'.setTop (mkF m 3 #[.val (.ref b), .val (.int (Int32.ofNat (o + len))), .val (.ref d), .val (.int (Int32.ofNat (q + len))), .val (.int (Int32.ofNat len)), .val (.int (Int32.ofNat len)), z'] [])) := by
    intro r
    induction r with
    | zero =>
      intro i hi z hz Tl Bk Xl pl fl cl
      have hil : i = len := by omega
      rw [hil] at Xl fl cl
      exact ⟨Tl, Bk, z, Xl, pl, fl, cl⟩
    | succ r ih =>
      intro i hi z hz Tl Bk Xl pl fl cl
      have all := X0.warmed.alike.symm.trans Xl.warmed.alike
      have hAl := hA0.keep all (pl.other hne hA0.1)
      have hBk := hB0.like all pl.1 fl.1 fl.2.1 fl.2.2.1
      have hlt : q + i < Bk.slots.size := by rw [fl.2.2.1]; omega
      have c3 : Steps p.tables e below (s₁.setTop (entryFrame m #[.ref b, .int (Int32.ofNat o), .ref d, .int (Int32.ofNat q), .int (Int32.ofNat len)] 7)) (Tl.setTop (mkF m 12 #[.val (.ref b), .val (.int (Int32.ofNat (o + i))), .val (.ref d), .val (.int (Int32.ofNat (q + i))), .val (.int (Int32.ofNat len)), .val (.int (Int32.ofNat i)), z] [.int (Int32.ofNat (o + i)), .ref b])) := cl.trans (by
        refine XS.iload Xl.here hexec rfl (hb hbytes d3) rfl ?_
        refine XS.iload Xl.here hexec rfl (hb hbytes d5) rfl ?_
        refine XS.icmpNo Xl.here hexec rfl (hb hbytes d7) rfl (ii_ge_f (lt32 (by omega) (by omega))) ?_
        refine XS.aloadN Xl.here hexec rfl (hb hbytes d10) rfl rfl ?_
        refine XS.iloadN Xl.here hexec rfl (hb hbytes d11) rfl ?_
        exact Steps.refl _)
      have c4 : Steps p.tables e below (s₁.setTop (entryFrame m #[.ref b, .int (Int32.ofNat o), .ref d, .int (Int32.ofNat q), .int (Int32.ofNat len)] 7)) (Tl.setTop (mkF m 13 #[.val (.ref b), .val (.int (Int32.ofNat (o + i))), .val (.ref d), .val (.int (Int32.ofNat (q + i))), .val (.int (Int32.ofNat len)), .val (.int (Int32.ofNat i)), z] [.int (cv A (o + i))])) := c3.trans (by
        refine Xl.aget hexec hAl rfl (hA.get (i := o + i) (by omega)) rfl rfl (hb hbytes d12) ?_
        exact Steps.refl _)
      have c5 : Steps p.tables e below (s₁.setTop (entryFrame m #[.ref b, .int (Int32.ofNat o), .ref d, .int (Int32.ofNat q), .int (Int32.ofNat len)] 7)) (Tl.setTop (mkF m 15 #[.val (.ref b), .val (.int (Int32.ofNat (o + i))), .val (.ref d), .val (.int (Int32.ofNat (q + i))), .val (.int (Int32.ofNat len)), .val (.int (Int32.ofNat i)), .val (.int (cv A (o + i)))] [])) := c4.trans (by
        refine XS.istoreS Xl.here hexec rfl (hb hbytes d13) rfl rfl hz ?_
        exact Steps.refl _)
      have c6 : Steps p.tables e below (s₁.setTop (entryFrame m #[.ref b, .int (Int32.ofNat o), .ref d, .int (Int32.ofNat q), .int (Int32.ofNat len)] 7)) (Tl.setTop (mkF m 31 #[.val (.ref b), .val (.int (Int32.ofNat (o + i))), .val (.ref d), .val (.int (Int32.ofNat (q + i))), .val (.int (Int32.ofNat len)), .val (.int (Int32.ofNat i)), .val (.int (cv A (o + i)))] [.int (lo8 (cv A (o + i))), .int (Int32.ofNat (q + i)), .ref d])) := c5.trans (by
        refine XS.iload Xl.here hexec rfl (hb hbytes d15) rfl ?_
        refine sipushV Xl.here hexec rfl 255 (hb hbytes d17) (by decide) ?_
        refine XS.icmpYes Xl.here hexec rfl (pc0 := 20) rfl (hb hbytes d20) rfl (ii_le_t (hp i (by omega))) (by decide) rfl ?_
        refine XS.aloadN Xl.here hexec rfl (hb hbytes d26) rfl rfl ?_
        refine XS.iloadN Xl.here hexec rfl (hb hbytes d27) rfl ?_
        refine XS.iload Xl.here hexec rfl (hb hbytes d28) rfl ?_
        refine i2b Xl.here hexec rfl (hb hbytes d30) rfl ?_
        exact Steps.refl _)
      obtain ⟨T7, X7, p7, st7⟩ := Xl.aput hexec hBk rfl hlt rfl (fits_lo8 (cv A (o + i))) (g := (mkF m 31 #[.val (.ref b), .val (.int (Int32.ofNat (o + i))), .val (.ref d), .val (.int (Int32.ofNat (q + i))), .val (.int (Int32.ofNat len)), .val (.int (Int32.ofNat i)), .val (.int (cv A (o + i)))] [.int (lo8 (cv A (o + i))), .int (Int32.ofNat (q + i)), .ref d])) rfl (rest := []) rfl (hb hbytes d31)
      have c8 : Steps p.tables e below (s₁.setTop (entryFrame m #[.ref b, .int (Int32.ofNat o), .ref d, .int (Int32.ofNat q), .int (Int32.ofNat len)] 7)) (T7.setTop (mkF m 32 #[.val (.ref b), .val (.int (Int32.ofNat (o + i))), .val (.ref d), .val (.int (Int32.ofNat (q + i))), .val (.int (Int32.ofNat len)), .val (.int (Int32.ofNat i)), .val (.int (cv A (o + i)))] [])) := c6.trans (st7 _ (Steps.refl _))
      have c9 : Steps p.tables e below (s₁.setTop (entryFrame m #[.ref b, .int (Int32.ofNat o), .ref d, .int (Int32.ofNat q), .int (Int32.ofNat len)] 7)) (T7.setTop (mkF m 3 #[.val (.ref b), .val (.int (Int32.ofNat (o + i) + 1)), .val (.ref d), .val (.int (Int32.ofNat (q + i) + 1)), .val (.int (Int32.ofNat len)), .val (.int (Int32.ofNat i + 1)), .val (.int (cv A (o + i)))] [])) := c8.trans (by
        refine iincV X7.here hexec rfl 1 (hb hbytes d32) (by decide) rfl rfl ?_
        refine iincV X7.here hexec rfl 1 (hb hbytes d35) (by decide) rfl rfl ?_
        refine iincV X7.here hexec rfl 1 (hb hbytes d38) (by decide) rfl rfl ?_
        refine XS.goto X7.here hexec rfl (pc0 := 41) rfl (hb hbytes d41) (by decide) rfl ?_
        exact Steps.refl _)
      have c10 : Steps p.tables e below (s₁.setTop (entryFrame m #[.ref b, .int (Int32.ofNat o), .ref d, .int (Int32.ofNat q), .int (Int32.ofNat len)] 7)) (T7.setTop (mkF m 3 #[.val (.ref b), .val (.int (Int32.ofNat (o + (i + 1)))), .val (.ref d), .val (.int (Int32.ofNat (q + (i + 1)))), .val (.int (Int32.ofNat len)), .val (.int (Int32.ofNat (i + 1))), .val (.int (cv A (o + i)))] [])) := by
        have := c9
        rw [succ32, succ32, succ32] at this
        exact this
      exact ih (i + 1) (by omega) _ (Or.inr ⟨_, rfl, rfl⟩) T7 _ (by rw [copyLocs_step, ← List.append_assoc]; exact X7) (pl.trans p7) (fl.step (by omega) hlt (by simp)) c10
  obtain ⟨T9, B9, z9, X9, p9, f9, g9⟩ := loop len 0 (by omega) .unset (Or.inl rfl) s₁ B (by simpa [copyLocs] using X0) ⟨hB0.1, fun _ _ => rfl, rfl⟩ (Laid.zero _ _ _) c2
  have c11 : Steps p.tables e below (s₁.setTop (entryFrame m #[.ref b, .int (Int32.ofNat o), .ref d, .int (Int32.ofNat q), .int (Int32.ofNat len)] 7)) (T9.setTop (mkF m 46 #[.val (.ref b), .val (.int (Int32.ofNat (o + len))), .val (.ref d), .val (.int (Int32.ofNat (q + len))), .val (.int (Int32.ofNat len)), .val (.int (Int32.ofNat len)), z9] [.int (Int32.ofNat len)])) := g9.trans (by
    refine XS.iload X9.here hexec rfl (hb hbytes d3) rfl ?_
    refine XS.iload X9.here hexec rfl (hb hbytes d5) rfl ?_
    refine XS.icmpYes X9.here hexec rfl (pc0 := 7) rfl (hb hbytes d7) rfl (ii_ge_t (nlt32 (by omega) (Nat.le_refl _))) (by decide) rfl ?_
    refine XS.iload X9.here hexec rfl (hb hbytes d44) rfl ?_
    exact Steps.refl _)
  exact ⟨T9, some (.int (Int32.ofNat len)), _, _, _, X9, by simp, rfl, rfl, (fun h => by cases h), ⟨rfl, B9, p9.from hh0, f9⟩, fun fs hl => c11.trans (X9.ireturnOut hexec hret rfl (Or.inl rfl) (hb hbytes d46) hl)⟩
end Cmp5
namespace Cmp3
def yN : MethodName := ⟨"java/lang/StringUTF16", "compress", "([CII)[B"⟩
abbrev yB : ByteArray := jdk_52_method_16_code
theorem d0 : decode yB 0 = .ok (.iload_n 2, 1) := by decide +kernel
theorem d1 : decode yB 1 = .ok (.newarray .byte, 2) := by decide +kernel
theorem d3 : decode yB 3 = .ok (.astore_n 3, 1) := by decide +kernel
theorem d4 : decode yB 4 = .ok (.aload_n 0, 1) := by decide +kernel
theorem d5 : decode yB 5 = .ok (.iload_n 1, 1) := by decide +kernel
theorem d6 : decode yB 6 = .ok (.aload_n 3, 1) := by decide +kernel
theorem d7 : decode yB 7 = .ok (.iconst 0, 1) := by decide +kernel
theorem d8 : decode yB 8 = .ok (.iload_n 2, 1) := by decide +kernel
theorem d9 : decode yB 9 = .ok (.invokestatic 115, 3) := by decide +kernel
theorem d12 : decode yB 12 = .ok (.istore 4, 2) := by decide +kernel
theorem d14 : decode yB 14 = .ok (.iload 4, 2) := by decide +kernel
theorem d16 : decode yB 16 = .ok (.iload_n 2, 1) := by decide +kernel
theorem d17 : decode yB 17 = .ok (.if_icmp (.eq) 40, 3) := by decide +kernel
theorem d57 : decode yB 57 = .ok (.aload_n 3, 1) := by decide +kernel
theorem d58 : decode yB 58 = .ok (.areturn, 1) := by decide +kernel
def site : List Cond := [.arrayClass .byte, Cmp5.tab] ++ staticW U16 115 Cmp5.yN
def tab : Cond := tabOf yN yB 6 (some (.array .byte)) site
def P (b : Addr) (A : Cell) (o len : Nat) (args : Array Value) (s : State) : Prop := args = #[.ref b, .int (Int32.ofNat o), .int (Int32.ofNat len)] ∧ Ch b A s ∧ o + len ≤ A.slots.size ∧ len ≤ 536870912 ∧ ∀ i, i < len → ¬ 255 < cv A (o + i)
def E (b : Addr) (A : Cell) (o len : Nat) (r : Option Value) (s u : State) : Prop := NewArr .byte "[B" len (fun j => .int (lo8 (cv A (o + j)))) r s u ∧ u.heap.size = s.heap.size + 1
/-- no char of the range above 255: a new byte[] of their low bytes -/
theorem law (l : Launch) (b : Addr) (A : Cell) (o len : Nat) : Law l yN 3 3 1 18 yB 6 (some (.array .byte)) site (P b A o len) (E b A o len) [] 1 len := by
  refine Law.of_walk (plainFor_of_name (by decide +kernel)) (by decide +kernel) (by decide +kernel) (by decide) (fun _ _ h => by rw [h.1]; rfl) (fun _ U U' hal hh h => ⟨h.1, h.2.1.mv hal hh, h.2.2⟩) (fun r U U' V V' h1 hal h2 h => ⟨NewArr.mv r U U' V V' h1 hal h2 h.1, by rw [h1, h2]; exact h.2⟩) ?_
  intro p e s m args below meth c s₁ X0 hexec hbytes hml hret hlk hnm hown hh0 W hP
  obtain ⟨rfl, hA, l1, l2, hp⟩ := hP
  have a31 := hA.1.2.2.2
  have c1 : Steps p.tables e below (s₁.setTop (entryFrame m #[.ref b, .int (Int32.ofNat o), .int (Int32.ofNat len)] 6)) (s₁.setTop (mkF m 0 #[.val (.ref b), .val (.int (Int32.ofNat o)), .val (.int (Int32.ofNat len)), .unset, .unset, .unset] [])) := entry rfl
  have c2 : Steps p.tables e below (s₁.setTop (entryFrame m #[.ref b, .int (Int32.ofNat o), .int (Int32.ofNat len)] 6)) (s₁.setTop (mkF m 1 #[.val (.ref b), .val (.int (Int32.ofNat o)), .val (.int (Int32.ofNat len)), .unset, .unset, .unset] [.int (Int32.ofNat len)])) := c1.trans (by
    refine XS.iloadN X0.here hexec rfl (hb hbytes d0) rfl ?_
    exact Steps.refl _)
  obtain ⟨T3, B3, X3, ba3, bs3, bv3, bh3, bf3, st3⟩ := X0.anew hexec (atype := .byte) (wk W (.arrayClass .byte)) rfl (by show len * 1 ≤ _; omega) (by omega) (g := (mkF m 1 #[.val (.ref b), .val (.int (Int32.ofNat o)), .val (.int (Int32.ofNat len)), .unset, .unset, .unset] [.int (Int32.ofNat len)])) rfl (hb hbytes d1) (rest := []) rfl (Nat.le_refl _) (by show 0 + len ≤ len; omega)
  rw [hh0] at ba3 st3
  have kp3 : XT.Kept s T3 := (XT.Kept.of_eq hh0).push bh3
  have hA3 := hA.keep X3.warmed.alike (kp3 _ _ hA.1.1)
  have hne : b ≠ s.heap.size := hA.1.ne
  have c4 : Steps p.tables e below (s₁.setTop (entryFrame m #[.ref b, .int (Int32.ofNat o), .int (Int32.ofNat len)] 6)) (T3.setTop (mkF m 3 #[.val (.ref b), .val (.int (Int32.ofNat o)), .val (.int (Int32.ofNat len)), .unset, .unset, .unset] [.ref s.heap.size])) := c2.trans (st3 _ (Steps.refl _))
  have c5 : Steps p.tables e below (s₁.setTop (entryFrame m #[.ref b, .int (Int32.ofNat o), .int (Int32.ofNat len)] 6)) (T3.setTop (mkF m 9 #[.val (.ref b), .val (.int (Int32.ofNat o)), .val (.int (Int32.ofNat len)), .val (.ref s.heap.size), .unset, .unset] [.int (Int32.ofNat len), .int 0, .ref s.heap.size, .int (Int32.ofNat o), .ref b])) := c4.trans (by
    refine XS.astoreN X3.here hexec rfl (hb hbytes d3) rfl rfl rfl ?_
    refine XS.aloadN X3.here hexec rfl (hb hbytes d4) rfl rfl ?_
    refine XS.iloadN X3.here hexec rfl (hb hbytes d5) rfl ?_
    refine XS.aloadN X3.here hexec rfl (hb hbytes d6) rfl rfl ?_
    refine iconstV X3.here hexec rfl 0 (hb hbytes d7) (by decide) ?_
    refine XS.iloadN X3.here hexec rfl (hb hbytes d8) rfl ?_
    exact Steps.refl _)
  obtain ⟨v6, T6, X6, E6, g6⟩ := X3.callS hexec (Cmp5.law l b A s.heap.size B3 o 0 len) hown (wks W (staticW U16 115 Cmp5.yN)) (wk W Cmp5.tab) (W := 0) (Nat.le_of_ble_eq_true rfl) (Nat.le_of_ble_eq_true rfl) (Nat.le_refl _) (by show 0 + len + 0 ≤ len; omega) (g := (mkF m 9 #[.val (.ref b), .val (.int (Int32.ofNat o)), .val (.int (Int32.ofNat len)), .val (.ref s.heap.size), .unset, .unset] [.int (Int32.ofNat len), .int (Int32.ofNat 0), .ref s.heap.size, .int (Int32.ofNat o), .ref b])) rfl (by rw [hml]; rfl) c5 (argsL := [.ref b, .int (Int32.ofNat o), .ref s.heap.size, .int (Int32.ofNat 0), .int (Int32.ofNat len)]) (rest := []) rfl rfl (by show 2 * 0 + 0 ≤ _; decide) (hb hbytes d9) (⟨rfl, hA3, ba3, hne, l1, by rw [bs3]; simp, hp⟩)
  obtain ⟨rfl, B6, p6, f6⟩ := E6
  have c7 : Steps p.tables e below (s₁.setTop (entryFrame m #[.ref b, .int (Int32.ofNat o), .int (Int32.ofNat len)] 6)) (T6.setTop (mkF m 12 #[.val (.ref b), .val (.int (Int32.ofNat o)), .val (.int (Int32.ofNat len)), .val (.ref s.heap.size), .unset, .unset] [.int (Int32.ofNat len)])) := g6
  have c8 : Steps p.tables e below (s₁.setTop (entryFrame m #[.ref b, .int (Int32.ofNat o), .int (Int32.ofNat len)] 6)) (T6.setTop (mkF m 58 #[.val (.ref b), .val (.int (Int32.ofNat o)), .val (.int (Int32.ofNat len)), .val (.ref s.heap.size), .val (.int (Int32.ofNat len)), .unset] [.ref s.heap.size])) := c7.trans (by
    refine XS.istore X6.here hexec rfl (hb hbytes d12) rfl rfl ?_
    refine XS.iload X6.here hexec rfl (hb hbytes d14) rfl ?_
    refine XS.iloadN X6.here hexec rfl (hb hbytes d16) rfl ?_
    refine XS.icmpYes X6.here hexec rfl (pc0 := 17) rfl (hb hbytes d17) rfl (ii_eq_t rfl) (by decide) rfl ?_
    refine XS.aloadN X6.here hexec rfl (hb hbytes d57) rfl rfl ?_
    exact Steps.refl _)
  have X8 := X6.wide (L' := []) (cells' := 1) (slots' := len) (fun x hx hlt => by
    simp only [List.nil_append, copyLocs, List.mem_map, List.mem_range] at hx
    obtain ⟨i, -, rfl⟩ := hx
    exact absurd hlt (Nat.lt_irrefl _)) (Nat.le_refl _) (by omega)
  exact ⟨T6, some (.ref s.heap.size), _, _, _, X8, rfl, rfl, rfl, (fun h => by cases h), ⟨⟨rfl, B6, ba3.like (X3.warmed.alike.symm.trans X6.warmed.alike) p6.1 f6.1 f6.2.1 f6.2.2.1, f6.2.1.trans bv3, by rw [X6.warmed.alike.findClass, f6.1]; exact bf3, by rw [f6.2.2.1, bs3]; simp, fun j hj => by rw [f6.2.2.2 j, if_pos (by omega)]; rfl, kp3.put p6 (Nat.le_refl _)⟩, by rw [p6.2.2, bh3, hh0]; simp⟩, fun fs hl => c8.trans (X8.areturnOut hexec rfl hret rfl (hb hbytes d58) hl)⟩
end Cmp3
namespace CodL
def yN : MethodName := ⟨"java/lang/StringUTF16", "coderFromArrayLen", "([BI)B"⟩
abbrev yB : ByteArray := jdk_52_method_15_code
theorem d0 : decode yB 0 = .ok (.iload_n 1, 1) := by decide +kernel
theorem d1 : decode yB 1 = .ok (.aload_n 0, 1) := by decide +kernel
theorem d2 : decode yB 2 = .ok (.arraylength, 1) := by decide +kernel
theorem d3 : decode yB 3 = .ok (.isub, 1) := by decide +kernel
theorem d4 : decode yB 4 = .ok (.bipush 31, 2) := by decide +kernel
theorem d6 : decode yB 6 = .ok (.iushr, 1) := by decide +kernel
theorem d7 : decode yB 7 = .ok (.i2b, 1) := by decide +kernel
theorem d8 : decode yB 8 = .ok (.ireturn, 1) := by decide +kernel
def site : List Cond := []
def tab : Cond := tabOf yN yB 2 (some .byte) site
def P (d : Addr) (B : Cell) (args : Array Value) (s : State) : Prop := args = #[.ref d, .int (Int32.ofNat B.slots.size)] ∧ Arr .byte d B s
def E (r : Option Value) (s u : State) : Prop := XT.PureE (some (.int 0)) r s u
/-- an array as long as the number of chars: LATIN1 -/
theorem law (l : Launch) (d : Addr) (B : Cell) : Law l yN 2 2 0 0 yB 2 (some .byte) site (P d B) E [] 0 0 := by
  refine Law.of_walk (plainFor_of_name (by decide +kernel)) (by decide +kernel) (by decide +kernel) (by decide) (fun _ _ h => by rw [h.1]; rfl) (fun _ U U' hal hh h => ⟨h.1, h.2.mv hal hh⟩) (fun r U U' V V' h1 hal h2 h => XT.PureE.mv r U U' V V' h1 hal h2 h) ?_
  intro p e s m args below meth c s₁ X0 hexec hbytes hml hret hlk hnm hown hh0 W hP
  obtain ⟨rfl, hB⟩ := hP
  have hB0 := hB.mv X0.warmed.alike hh0
  have c1 : Steps p.tables e below (s₁.setTop (entryFrame m #[.ref d, .int (Int32.ofNat B.slots.size)] 2)) (s₁.setTop (mkF m 0 #[.val (.ref d), .val (.int (Int32.ofNat B.slots.size))] [])) := entry rfl
  have c2 : Steps p.tables e below (s₁.setTop (entryFrame m #[.ref d, .int (Int32.ofNat B.slots.size)] 2)) (s₁.setTop (mkF m 2 #[.val (.ref d), .val (.int (Int32.ofNat B.slots.size))] [.ref d, .int (Int32.ofNat B.slots.size)])) := c1.trans (by
    refine XS.iloadN X0.here hexec rfl (hb hbytes d0) rfl ?_
    refine XS.aloadN X0.here hexec rfl (hb hbytes d1) rfl rfl ?_
    exact Steps.refl _)
  have c3 : Steps p.tables e below (s₁.setTop (entryFrame m #[.ref d, .int (Int32.ofNat B.slots.size)] 2)) (s₁.setTop (mkF m 8 #[.val (.ref d), .val (.int (Int32.ofNat B.slots.size))] [.int (lo8 (ushr (Int32.ofNat B.slots.size - Int32.ofNat B.slots.size) 31))])) := c2.trans (by
    refine X0.alen hexec hB0 rfl rfl (hb hbytes d2) ?_
    refine XS.isub X0.here hexec rfl (hb hbytes d3) rfl ?_
    refine bipushV X0.here hexec rfl 31 (hb hbytes d4) (by decide) ?_
    refine iushr X0.here hexec rfl (hb hbytes d6) rfl ?_
    refine i2b X0.here hexec rfl (hb hbytes d7) rfl ?_
    exact Steps.refl _)
  have e0 : lo8 (ushr (Int32.ofNat B.slots.size - Int32.ofNat B.slots.size) 31) = 0 := by rw [Int32.sub_self]; decide
  rw [e0] at c3
  exact ⟨s₁, some (.int 0), _, _, _, X0, rfl, rfl, rfl, (fun h => by cases h), ⟨rfl, hh0⟩, fun fs hl => c3.trans (X0.ireturnOut hexec hret rfl (Or.inr (Or.inr (Or.inl rfl))) (hb hbytes d8) hl)⟩
end CodL
/-- the String at a is Latin-1 over a new byte[] (the heap's one new cell): the low bytes of the len chars of A from o on; every cell but a is kept -/
def Got (a : Addr) (D : Cell) (fV fC : Field) (A : Cell) (o len : Nat) (r : Option Value) (s u : State) : Prop := r = none ∧ ∃ D' V : Cell, Blank "java/lang/String" a D' u ∧ Same D D' [fV.slot, fC.slot] ∧ D'.slots[fV.slot]? = some (.ref s.heap.size) ∧ D'.slots[fC.slot]? = some (.int 0) ∧ Arr .byte s.heap.size V u ∧ V.vm = .none ∧ u.vm.findClass "[B" = some V.cls ∧ V.slots.size = len ∧ (∀ j, j < len → V.slots[j]? = some (.int (lo8 (cv A (o + j))))) ∧ (∀ (y : Addr) (c : Cell), y ≠ a → s.heap[y]? = some c → u.heap[y]? = some c) ∧ u.heap.size = s.heap.size + 1
theorem Got.mv {a : Addr} {D A : Cell} {fV fC : Field} {o len : Nat} : ∀ r (U U' V V' : State), U'.heap = U.heap → V.vm.Alike V'.vm → V'.heap = V.heap → Got a D fV fC A o len r U V → Got a D fV fC A o len r U' V' :=
  fun r U U' V V' h1 hal h2 ⟨e0, D', X, a1, a2, a3, a4, a5, a6, a7, a8, a9, a10, a11⟩ => ⟨e0, D', X, a1.mv hal h2, a2, by rw [h1]; exact a3, a4, by rw [h1]; exact a5.mv hal h2, a6, by rw [hal.findClass]; exact a7, a8, a9, by rw [h1, h2]; exact a10, by rw [h1, h2]; exact a11⟩
namespace New4
def yN : MethodName := ⟨"java/lang/String", "<init>", "([CIILjava/lang/Void;)V"⟩
abbrev yB : ByteArray := jdk_42_method_149_code
theorem d0 : decode yB 0 = .ok (.aload_n 0, 1) := by decide +kernel
theorem d1 : decode yB 1 = .ok (.invokespecial 1, 3) := by decide +kernel
theorem d4 : decode yB 4 = .ok (.iload_n 3, 1) := by decide +kernel
theorem d5 : decode yB 5 = .ok (.ifCond (.ne) 22, 3) := by decide +kernel
theorem d27 : decode yB 27 = .ok (.getstatic 38, 3) := by decide +kernel
theorem d30 : decode yB 30 = .ok (.ifCond (.eq) 28, 3) := by decide +kernel
theorem d33 : decode yB 33 = .ok (.aload_n 1, 1) := by decide +kernel
theorem d34 : decode yB 34 = .ok (.iload_n 2, 1) := by decide +kernel
theorem d35 : decode yB 35 = .ok (.iload_n 3, 1) := by decide +kernel
theorem d36 : decode yB 36 = .ok (.invokestatic 177, 3) := by decide +kernel
theorem d39 : decode yB 39 = .ok (.astore 5, 2) := by decide +kernel
theorem d41 : decode yB 41 = .ok (.aload_n 0, 1) := by decide +kernel
theorem d42 : decode yB 42 = .ok (.aload 5, 2) := by decide +kernel
theorem d44 : decode yB 44 = .ok (.iload_n 3, 1) := by decide +kernel
theorem d45 : decode yB 45 = .ok (.invokestatic 47, 3) := by decide +kernel
theorem d48 : decode yB 48 = .ok (.putfield 15, 3) := by decide +kernel
theorem d51 : decode yB 51 = .ok (.aload_n 0, 1) := by decide +kernel
theorem d52 : decode yB 52 = .ok (.aload 5, 2) := by decide +kernel
theorem d54 : decode yB 54 = .ok (.putfield 9, 3) := by decide +kernel
theorem d57 : decode yB 57 = .ok (.return_, 1) := by decide +kernel
def site : List Cond := [.fieldLink "java/lang/String" 38 "java/lang/String" "COMPACT_STRINGS" "Z", Cmp3.tab, CodL.tab, .laysFinal "java/lang/String" "java/lang/String" "value" "[B", .fieldLink "java/lang/String" 9 "java/lang/String" "value" "[B", .laysFinal "java/lang/String" "java/lang/String" "coder" "B", .fieldLink "java/lang/String" 15 "java/lang/String" "coder" "B"] ++ objW "java/lang/String" 1 ++ staticW "java/lang/String" 177 Cmp3.yN ++ staticW "java/lang/String" 47 CodL.yN
def tab : Cond := tabOf yN yB 6 none site
def P (a : Addr) (D : Cell) (fV fC : Field) (b : Addr) (A : Cell) (z : Int32) (o len : Nat) (args : Array Value) (s : State) : Prop := args = #[.ref a, .ref b, .int (Int32.ofNat o), .int (Int32.ofNat len), .null] ∧ Blank "java/lang/String" a D s ∧ Found "java/lang/String" "value" "[B" fV s ∧ Found "java/lang/String" "coder" "B" fC s ∧ Ch b A s ∧ StaticIs s "java/lang/String" "COMPACT_STRINGS" "Z" (.int z) ∧ ¬ z = 0 ∧ 0 < len ∧ o + len ≤ A.slots.size ∧ len ≤ 536870912 ∧ ∀ i, i < len → ¬ 255 < cv A (o + i)
def E (a : Addr) (D : Cell) (fV fC : Field) (A : Cell) (o len : Nat) (r : Option Value) (s u : State) : Prop := Got a D fV fC A o len r s u
/-- len > 0, no char of the range above 255: a Latin-1 String of their low bytes -/
theorem law (l : Launch) (a : Addr) (D : Cell) (fV fC : Field) (b : Addr) (A : Cell) (z : Int32) (o len : Nat) : Law l yN 5 4 2 35 yB 6 none site (P a D fV fC b A z o len) (E a D fV fC A o len) [⟨a, fC.slot⟩, ⟨a, fV.slot⟩] 1 len := by
  refine Law.of_walk (plainFor_of_name (by decide +kernel)) (by decide +kernel) (by decide +kernel) (by decide) (fun _ _ h => by rw [h.1]; rfl) (fun _ U U' hal hh h => ⟨h.1, h.2.1.mv hal hh, h.2.2.1.al hal, h.2.2.2.1.al hal, h.2.2.2.2.1.mv hal hh, h.2.2.2.2.2.1.there hal hh, h.2.2.2.2.2.2⟩) (fun r U U' V V' h1 hal h2 h => Got.mv r U U' V V' h1 hal h2 h) ?_
  intro p e s m args below meth c s₁ X0 hexec hbytes hml hret hlk hnm hown hh0 W hP
  obtain ⟨rfl, hB, f1, f2, hA, s1, hz, l0, l1, l2, hp⟩ := hP
  have a31 := hA.1.2.2.2
  have c1 : Steps p.tables e below (s₁.setTop (entryFrame m #[.ref a, .ref b, .int (Int32.ofNat o), .int (Int32.ofNat len), .null] 6)) (s₁.setTop (mkF m 0 #[.val (.ref a), .val (.ref b), .val (.int (Int32.ofNat o)), .val (.int (Int32.ofNat len)), .val .null, .unset] [])) := entry rfl
  have c2 : Steps p.tables e below (s₁.setTop (entryFrame m #[.ref a, .ref b, .int (Int32.ofNat o), .int (Int32.ofNat len), .null] 6)) (s₁.setTop (mkF m 1 #[.val (.ref a), .val (.ref b), .val (.int (Int32.ofNat o)), .val (.int (Int32.ofNat len)), .val .null, .unset] [.ref a])) := c1.trans (by
    refine XS.aloadN X0.here hexec rfl (hb hbytes d0) rfl rfl ?_
    exact Steps.refl _)
  obtain ⟨T3, X3, q3, st3⟩ := X0.oinit hexec hown (wks W (objW "java/lang/String" 1)) (g := (mkF m 1 #[.val (.ref a), .val (.ref b), .val (.int (Int32.ofNat o)), .val (.int (Int32.ofNat len)), .val .null, .unset] [.ref a])) rfl (by rw [hml]; rfl) (rest := []) rfl (hb hbytes d1) (W := 0) (by show 2 * 0 + 0 ≤ _; decide) (Nat.le_of_ble_eq_true rfl) (Nat.le_of_ble_eq_true rfl)
  have hh3 := q3.trans hh0
  have c4 : Steps p.tables e below (s₁.setTop (entryFrame m #[.ref a, .ref b, .int (Int32.ofNat o), .int (Int32.ofNat len), .null] 6)) (T3.setTop (mkF m 27 #[.val (.ref a), .val (.ref b), .val (.int (Int32.ofNat o)), .val (.int (Int32.ofNat len)), .val .null, .unset] [])) := (c2.trans (st3 _ (Steps.refl _))).trans (by
    refine XS.iloadN X3.here hexec rfl (hb hbytes d4) rfl ?_
    refine XS.ifYes X3.here hexec rfl (pc0 := 5) rfl (hb hbytes d5) rfl (i0_ne_t (nz32 (by omega) l0)) (by decide) rfl ?_
    exact Steps.refl _)
  obtain ⟨T5, X5, q5, st5⟩ := X3.sget hexec hown (wk W (.fieldLink "java/lang/String" 38 "java/lang/String" "COMPACT_STRINGS" "Z")) s1 (fun _ _ h => by rw [hh3]; exact h) (g := (mkF m 27 #[.val (.ref a), .val (.ref b), .val (.int (Int32.ofNat o)), .val (.int (Int32.ofNat len)), .val .null, .unset] [])) rfl (hb hbytes d27)
  have hh5 := q5.trans hh3
  have c6 : Steps p.tables e below (s₁.setTop (entryFrame m #[.ref a, .ref b, .int (Int32.ofNat o), .int (Int32.ofNat len), .null] 6)) (T5.setTop (mkF m 30 #[.val (.ref a), .val (.ref b), .val (.int (Int32.ofNat o)), .val (.int (Int32.ofNat len)), .val .null, .unset] [.int z])) := c4.trans (st5 _ (Steps.refl _))
  have c7 : Steps p.tables e below (s₁.setTop (entryFrame m #[.ref a, .ref b, .int (Int32.ofNat o), .int (Int32.ofNat len), .null] 6)) (T5.setTop (mkF m 36 #[.val (.ref a), .val (.ref b), .val (.int (Int32.ofNat o)), .val (.int (Int32.ofNat len)), .val .null, .unset] [.int (Int32.ofNat len), .int (Int32.ofNat o), .ref b])) := c6.trans (by
    refine XS.ifNo X5.here hexec rfl (hb hbytes d30) rfl (i0_eq_f hz) ?_
    refine XS.aloadN X5.here hexec rfl (hb hbytes d33) rfl rfl ?_
    refine XS.iloadN X5.here hexec rfl (hb hbytes d34) rfl ?_
    refine XS.iloadN X5.here hexec rfl (hb hbytes d35) rfl ?_
    exact Steps.refl _)
  obtain ⟨v8, T8, X8, E8, g8⟩ := X5.callS hexec (Cmp3.law l b A o len) hown (wks W (staticW "java/lang/String" 177 Cmp3.yN)) (wk W Cmp3.tab) (W := 0) (Nat.le_of_ble_eq_true rfl) (Nat.le_of_ble_eq_true rfl) (Nat.le_refl _) (by show 0 + len ≤ len; omega) (g := (mkF m 36 #[.val (.ref a), .val (.ref b), .val (.int (Int32.ofNat o)), .val (.int (Int32.ofNat len)), .val .null, .unset] [.int (Int32.ofNat len), .int (Int32.ofNat o), .ref b])) rfl (by rw [hml]; rfl) c7 (argsL := [.ref b, .int (Int32.ofNat o), .int (Int32.ofNat len)]) (rest := []) rfl rfl (by show 2 * 0 + 0 ≤ _; decide) (hb hbytes d36) (⟨rfl, hA.mv X5.warmed.alike hh5, l1, l2, hp⟩)
  obtain ⟨e8, z8⟩ := E8
  obtain ⟨rfl, N, n1, n2, n3, n4, n5, n6⟩ := NewArr.mv _ T5 s _ _ hh5.symm (Vm.Alike.refl _) rfl e8
  rw [hh5] at z8
  have hB1 := hB.keep X8.warmed.alike (n6 _ _ hB.1)
  have hne : s.heap.size ≠ a := (Nat.ne_of_lt (Array.getElem?_eq_some_iff.mp hB.1).1).symm
  have c9 : Steps p.tables e below (s₁.setTop (entryFrame m #[.ref a, .ref b, .int (Int32.ofNat o), .int (Int32.ofNat len), .null] 6)) (T8.setTop (mkF m 39 #[.val (.ref a), .val (.ref b), .val (.int (Int32.ofNat o)), .val (.int (Int32.ofNat len)), .val .null, .unset] [.ref s.heap.size])) := g8
  have c10 : Steps p.tables e below (s₁.setTop (entryFrame m #[.ref a, .ref b, .int (Int32.ofNat o), .int (Int32.ofNat len), .null] 6)) (T8.setTop (mkF m 45 #[.val (.ref a), .val (.ref b), .val (.int (Int32.ofNat o)), .val (.int (Int32.ofNat len)), .val .null, .val (.ref s.heap.size)] [.int (Int32.ofNat N.slots.size), .ref s.heap.size, .ref a])) := by
    have hc : Steps p.tables e below (s₁.setTop (entryFrame m #[.ref a, .ref b, .int (Int32.ofNat o), .int (Int32.ofNat len), .null] 6)) (T8.setTop (mkF m 45 #[.val (.ref a), .val (.ref b), .val (.int (Int32.ofNat o)), .val (.int (Int32.ofNat len)), .val .null, .val (.ref s.heap.size)] [.int (Int32.ofNat len), .ref s.heap.size, .ref a])) := c9.trans (by
      refine XS.astore X8.here hexec rfl (hb hbytes d39) rfl rfl rfl ?_
      refine XS.aloadN X8.here hexec rfl (hb hbytes d41) rfl rfl ?_
      refine XS.aload X8.here hexec rfl (hb hbytes d42) rfl rfl ?_
      refine XS.iloadN X8.here hexec rfl (hb hbytes d44) rfl ?_
      exact Steps.refl _)
    rw [n4]; exact hc
  obtain ⟨v11, T11, X11, E11, g11⟩ := X8.callS hexec (CodL.law l s.heap.size N) hown (wks W (staticW "java/lang/String" 47 CodL.yN)) (wk W CodL.tab) (W := 1) (Nat.le_of_ble_eq_true rfl) (Nat.le_of_ble_eq_true rfl) (Nat.le_refl _) (by show 0 + len + 0 ≤ len; omega) (g := (mkF m 45 #[.val (.ref a), .val (.ref b), .val (.int (Int32.ofNat o)), .val (.int (Int32.ofNat len)), .val .null, .val (.ref s.heap.size)] [.int (Int32.ofNat N.slots.size), .ref s.heap.size, .ref a])) rfl (by rw [hml]; rfl) c10 (argsL := [.ref s.heap.size, .int (Int32.ofNat N.slots.size)]) (rest := [.ref a]) rfl rfl (by show 2 * 0 + (1 + 0) ≤ _; decide) (hb hbytes d45) (⟨rfl, n1⟩)
  obtain ⟨rfl, q11⟩ := E11
  have hB11 := hB1.mv (X8.warmed.alike.symm.trans X11.warmed.alike) q11
  have c12 : Steps p.tables e below (s₁.setTop (entryFrame m #[.ref a, .ref b, .int (Int32.ofNat o), .int (Int32.ofNat len), .null] 6)) (T11.setTop (mkF m 48 #[.val (.ref a), .val (.ref b), .val (.int (Int32.ofNat o)), .val (.int (Int32.ofNat len)), .val .null, .val (.ref s.heap.size)] [.int 0, .ref a])) := g11
  obtain ⟨T13, X13, p13, bl13, sl13, st13⟩ := X11.finit hexec hown (wk W (.fieldLink "java/lang/String" 15 "java/lang/String" "coder" "B")) (Or.inr ⟨_, (wk W (.laysFinal "java/lang/String" "java/lang/String" "coder" "B"))⟩) (Or.inl ⟨rfl, hnm⟩) f2 (Or.inl rfl) hB11 (t := .byte) (by decide +kernel) rfl (g := (mkF m 48 #[.val (.ref a), .val (.ref b), .val (.int (Int32.ofNat o)), .val (.int (Int32.ofNat len)), .val .null, .val (.ref s.heap.size)] [.int 0, .ref a])) rfl (rest := []) rfl (hb hbytes d48)
  have c14 : Steps p.tables e below (s₁.setTop (entryFrame m #[.ref a, .ref b, .int (Int32.ofNat o), .int (Int32.ofNat len), .null] 6)) (T13.setTop (mkF m 54 #[.val (.ref a), .val (.ref b), .val (.int (Int32.ofNat o)), .val (.int (Int32.ofNat len)), .val .null, .val (.ref s.heap.size)] [.ref s.heap.size, .ref a])) := (c12.trans (st13 _ (Steps.refl _))).trans (by
    refine XS.aloadN X13.here hexec rfl (hb hbytes d51) rfl rfl ?_
    refine XS.aload X13.here hexec rfl (hb hbytes d52) rfl rfl ?_
    exact Steps.refl _)
  obtain ⟨T15, X15, p15, bl15, sl15, st15⟩ := X13.finit hexec hown (wk W (.fieldLink "java/lang/String" 9 "java/lang/String" "value" "[B")) (Or.inr ⟨_, (wk W (.laysFinal "java/lang/String" "java/lang/String" "value" "[B"))⟩) (Or.inl ⟨rfl, hnm⟩) f1 (Or.inl rfl) bl13 (t := (.array .byte)) (by decide +kernel) rfl (g := (mkF m 54 #[.val (.ref a), .val (.ref b), .val (.int (Int32.ofNat o)), .val (.int (Int32.ofNat len)), .val .null, .val (.ref s.heap.size)] [.ref s.heap.size, .ref a])) rfl (rest := []) rfl (hb hbytes d54)
  have c16 : Steps p.tables e below (s₁.setTop (entryFrame m #[.ref a, .ref b, .int (Int32.ofNat o), .int (Int32.ofNat len), .null] 6)) (T15.setTop (mkF m 57 #[.val (.ref a), .val (.ref b), .val (.int (Int32.ofNat o)), .val (.int (Int32.ofNat len)), .val .null, .val (.ref s.heap.size)] [])) := c14.trans (st15 _ (Steps.refl _))
  have ap := apart (Or.inr ⟨_, (wk W (.laysFinal "java/lang/String" "java/lang/String" "value" "[B"))⟩) (Or.inr ⟨_, (wk W (.laysFinal "java/lang/String" "java/lang/String" "coder" "B"))⟩) f1 f2 (t₁ := .array .byte) (t₂ := .byte) (by decide +kernel) (by decide +kernel) (by decide)
  have al := X8.warmed.alike.symm.trans X15.warmed.alike
  have n7 : T11.heap[s.heap.size]? = some N := by rw [q11]; exact n1.1
  exact ⟨T15, none, _, _, _, X15, by simp, rfl, by omega, (fun _ => rfl), ⟨rfl, _, N, bl15, ((Same.refl D _).set _ (by simp)).set _ (by simp), sl15, (Cell.slots_setSlot_ne _ ap).trans sl13, n1.keep al (p15.other hne (p13.other hne n7)), n2, by rw [al.findClass]; exact n3, n4, n5, fun y c h1 h2 => p15.other h1 (p13.other h1 (by rw [q11]; exact n6 y c h2)), by rw [p15.2.2, p13.2.2, q11]; exact z8⟩, fun fs hl => c16.trans (X15.returnOut hexec hret (hb hbytes d57) hl)⟩
end New4
namespace New1
def yN : MethodName := ⟨"java/lang/String", "<init>", "([C)V"⟩
abbrev yB : ByteArray := jdk_42_method_3_code
theorem d0 : decode yB 0 = .ok (.aload_n 0, 1) := by decide +kernel
theorem d1 : decode yB 1 = .ok (.aload_n 1, 1) := by decide +kernel
theorem d2 : decode yB 2 = .ok (.iconst 0, 1) := by decide +kernel
theorem d3 : decode yB 3 = .ok (.aload_n 1, 1) := by decide +kernel
theorem d4 : decode yB 4 = .ok (.arraylength, 1) := by decide +kernel
theorem d5 : decode yB 5 = .ok (.aconst_null, 1) := by decide +kernel
theorem d6 : decode yB 6 = .ok (.invokespecial 27, 3) := by decide +kernel
theorem d9 : decode yB 9 = .ok (.return_, 1) := by decide +kernel
def site : List Cond := [New4.tab] ++ initW "java/lang/String" 27 New4.yN
def tab : Cond := tabOf yN yB 2 none site
def P (a : Addr) (D : Cell) (fV fC : Field) (b : Addr) (A : Cell) (z : Int32) (args : Array Value) (s : State) : Prop := args = #[.ref a, .ref b] ∧ Blank "java/lang/String" a D s ∧ Found "java/lang/String" "value" "[B" fV s ∧ Found "java/lang/String" "coder" "B" fC s ∧ Ch b A s ∧ StaticIs s "java/lang/String" "COMPACT_STRINGS" "Z" (.int z) ∧ ¬ z = 0 ∧ 0 < A.slots.size ∧ A.slots.size ≤ 536870912 ∧ ∀ i, i < A.slots.size → ¬ 255 < cv A i
def E (a : Addr) (D : Cell) (fV fC : Field) (A : Cell) (r : Option Value) (s u : State) : Prop := Got a D fV fC A 0 A.slots.size r s u
/-- new String(chars), not empty, no char above 255: a Latin-1 String of their low bytes -/
theorem law (l : Launch) (a : Addr) (D : Cell) (fV fC : Field) (b : Addr) (A : Cell) (z : Int32) : Law l yN 2 1 3 52 yB 2 none site (P a D fV fC b A z) (E a D fV fC A) [⟨a, fC.slot⟩, ⟨a, fV.slot⟩] 1 A.slots.size := by
  refine Law.of_walk (plainFor_of_name (by decide +kernel)) (by decide +kernel) (by decide +kernel) (by decide) (fun _ _ h => by rw [h.1]; rfl) (fun _ U U' hal hh h => ⟨h.1, h.2.1.mv hal hh, h.2.2.1.al hal, h.2.2.2.1.al hal, h.2.2.2.2.1.mv hal hh, h.2.2.2.2.2.1.there hal hh, h.2.2.2.2.2.2⟩) (fun r U U' V V' h1 hal h2 h => Got.mv r U U' V V' h1 hal h2 h) ?_
  intro p e s m args below meth c s₁ X0 hexec hbytes hml hret hlk hnm hown hh0 W hP
  obtain ⟨rfl, hB, f1, f2, hA, s1, hz, l0, l2, hp⟩ := hP
  have c1 : Steps p.tables e below (s₁.setTop (entryFrame m #[.ref a, .ref b] 2)) (s₁.setTop (mkF m 0 #[.val (.ref a), .val (.ref b)] [])) := entry rfl
  have c2 : Steps p.tables e below (s₁.setTop (entryFrame m #[.ref a, .ref b] 2)) (s₁.setTop (mkF m 6 #[.val (.ref a), .val (.ref b)] [.null, .int (Int32.ofNat A.slots.size), .int 0, .ref b, .ref a])) := c1.trans (by
    refine XS.aloadN X0.here hexec rfl (hb hbytes d0) rfl rfl ?_
    refine XS.aloadN X0.here hexec rfl (hb hbytes d1) rfl rfl ?_
    refine iconstV X0.here hexec rfl 0 (hb hbytes d2) (by decide) ?_
    refine XS.aloadN X0.here hexec rfl (hb hbytes d3) rfl rfl ?_
    refine X0.alen hexec (hA.1.mv X0.warmed.alike hh0) rfl rfl (hb hbytes d4) ?_
    refine XS.aconstNull X0.here hexec rfl (hb hbytes d5) ?_
    exact Steps.refl _)
  obtain ⟨v3, T3, X3, E3, g3⟩ := X0.callN hexec (New4.law l a D fV fC b A z 0 A.slots.size) rfl hown (wks W (initW "java/lang/String" 27 New4.yN)) (W New4.tab (by simp only [site, List.mem_cons, List.mem_append, true_or, or_true])) (W := 0) (Nat.le_of_ble_eq_true rfl) (Nat.le_of_ble_eq_true rfl) (Nat.le_refl _) (by show 0 + A.slots.size ≤ A.slots.size; omega) (g := (mkF m 6 #[.val (.ref a), .val (.ref b)] [.null, .int (Int32.ofNat A.slots.size), .int (Int32.ofNat 0), .ref b, .ref a])) rfl (by rw [hml]; rfl) c2 (argsL := [.ref b, .int (Int32.ofNat 0), .int (Int32.ofNat A.slots.size), .null]) (rest := []) rfl rfl (by show 2 * 0 + 0 ≤ _; decide) (hb hbytes d6) (⟨rfl, hB.mv X0.warmed.alike hh0, f1.al X0.warmed.alike, f2.al X0.warmed.alike, hA.mv X0.warmed.alike hh0, s1.there X0.warmed.alike hh0, hz, l0, by omega, l2, fun i hi => by rw [Nat.zero_add]; exact hp i hi⟩)
  have e0 := Got.mv _ s₁ s _ _ hh0.symm (Vm.Alike.refl _) rfl E3
  obtain rfl := e0.1
  have c4 : Steps p.tables e below (s₁.setTop (entryFrame m #[.ref a, .ref b] 2)) (T3.setTop (mkF m 9 #[.val (.ref a), .val (.ref b)] [])) := g3
  exact ⟨T3, none, _, _, _, X3, by simp, rfl, by omega, (fun _ => rfl), e0, fun fs hl => c4.trans (X3.returnOut hexec hret (hb hbytes d9) hl)⟩
theorem pays {l : Launch} {R : Room} {p : Program} {e : Env} {below : List Frame} {s : State} {sargs : Array Value} {len W : Nat} (a : Addr) (D : Cell) (fV fC : Field) (b : Addr) (A : Cell) (z : Int32) (htab : tab.before sargs s = true) (hfr : 4 ≤ R.frames) (hlo : W + 65 ≤ R.locals) :
    Back l R p e below s sargs yN len W (fun A₁ a₁ => A₁.cells + 1 ≤ R.cells ∧ A₁.slots + A.slots.size ≤ R.slots ∧ P a D fV fC b A z a₁ A₁.U) (fun A₁ _ v₁ B₁ => E a D fV fC A v₁ A₁.U B₁.U ∧ B₁.locs = A₁.locs ++ [⟨a, fC.slot⟩, ⟨a, fV.slot⟩] ∧ B₁.cells = A₁.cells + 1 ∧ B₁.slots = A₁.slots + A.slots.size) :=
  (law l a D fV fC b A z).pays htab hfr (by omega)
end New1
/-- the byte, read back as charAt reads it, is the char -/
theorem lo8_mask {x : Int32} (h0 : ¬ x < 0) (h1 : ¬ 255 < x) : lo8 x &&& 255 = x := by
  have t : ∀ k : Fin 256, lo8 (Int32.ofNat k.val) &&& 255 = Int32.ofNat k.val := by decide +kernel
  rw [Int32.lt_iff_toInt_lt] at h0 h1
  have e0 : (0 : Int32).toInt = 0 := rfl
  have e1 : (255 : Int32).toInt = 255 := rfl
  obtain ⟨k, hk⟩ : ∃ k : Nat, x.toInt = k := ⟨x.toInt.toNat, by omega⟩
  have hx : x = Int32.ofNat k := Int32.toInt_inj.mp (by rw [hk, Int32.toInt_ofNat_small (by omega)])
  rw [hx]
  exact t ⟨k, by omega⟩
end StrChars
namespace StrChars.Road
open Jvm Sem ClassFile Op Lib Jvm.Stand Jvm.Free Jvm.Free.XT
open Jvm.Lib.Cold (StaticIs)
abbrev ST : String := "java/lang/String"
/-- every table word that New1's law asks, flat -/
abbrev words : List Jvm.Cond := [.code New1.yN New1.yB 2 none, .initialized ST, .methodLink ST 27 New4.yN, .instanceMethod New4.yN,
  .code New4.yN New4.yB 6 none, .fieldLink ST 38 ST "COMPACT_STRINGS" "Z", .laysFinal ST ST "value" "[B", .fieldLink ST 9 ST "value" "[B", .laysFinal ST ST "coder" "B", .fieldLink ST 15 ST "coder" "B",
  .methodLink ST 1 Lib.objectInit, .instanceMethod Lib.objectInit, .code Lib.objectInit ⟨#[0xb1]⟩ 1 none, .methodLink ST 177 Cmp3.yN, .static Cmp3.yN, .methodLink ST 47 CodL.yN, .static CodL.yN,
  .code Cmp3.yN Cmp3.yB 6 (some (.array .byte)), .initialized U16, .arrayClass .byte, .methodLink U16 115 Cmp5.yN, .static Cmp5.yN, .code Cmp5.yN Cmp5.yB 7 (some .int), .code CodL.yN CodL.yB 2 (some .byte)]
theorem tab_of {a : Array Value} {s : State} (h : ∀ w ∈ words, w.before a s = true) : New1.tab.before a s = true := by
  have h5 : Cmp5.tab.before a s = true := unparts (wk h (.code Cmp5.yN Cmp5.yB 7 (some .int))) (wks h (.initialized Cmp5.yN.cls :: Cmp5.site))
  have hc : CodL.tab.before a s = true := unparts (wk h (.code CodL.yN CodL.yB 2 (some .byte))) (wks h (.initialized CodL.yN.cls :: CodL.site))
  have q5 : ∀ w ∈ Cmp5.tab :: words, w.before a s = true := fun w hw => (List.mem_cons.mp hw).elim (fun e => e ▸ h5) (h w)
  have h3 : Cmp3.tab.before a s = true := unparts (wk q5 (.code Cmp3.yN Cmp3.yB 6 (some (.array .byte)))) (wks q5 (.initialized Cmp3.yN.cls :: Cmp3.site))
  have q3 : ∀ w ∈ Cmp3.tab :: CodL.tab :: words, w.before a s = true := fun w hw => (List.mem_cons.mp hw).elim (fun e => e ▸ h3) fun hw => (List.mem_cons.mp hw).elim (fun e => e ▸ hc) (h w)
  have h4 : New4.tab.before a s = true := unparts (wk q3 (.code New4.yN New4.yB 6 none)) (wks q3 (.initialized New4.yN.cls :: New4.site))
  have q4 : ∀ w ∈ New4.tab :: words, w.before a s = true := fun w hw => (List.mem_cons.mp hw).elim (fun e => e ▸ h4) (h w)
  exact unparts (wk q4 (.code New1.yN New1.yB 2 none)) (wks q4 (.initialized New1.yN.cls :: New1.site))
/-- the words ride from the start Z to the walk's own state -/
theorem moved {Z s : State} {a0 args : Array Value} (hZ : Z.Warmed39 s.vm) (hw : ∀ d ∈ words, d.before a0 Z = true) : ∀ d ∈ words, d.before args s = true := fun d hd => by
  have q := hw d hd
  have t : ∀ d ∈ words, d = .arrayClass .byte ∨ (d.onTables && d.keepsFace) = true := by decide +kernel
  rcases t d hd with rfl | t
  · exact RoadKit.mvA hZ q
  · exact RoadKit.mv hZ q t
/-- WHAT COMES BACK, over the tables of the start Z: h the heap at the call, h' behind it -/
def Q (Z : State) (x : Addr) (A : Cell) (h : Heap) (v : Option Value) (h' : Heap) (L : List Loc) : Prop := v = none ∧ (∀ y ∈ L, y.base = x) ∧ RoadKit.Keep h h' [x] ∧ h'.size = h.size + 1 ∧ RoadKit.Exa Z h' x ST ∧ RoadKit.Fld Z h' x ST "value" "[B" (.ref h.size) ∧ RoadKit.Fld Z h' x ST "coder" "B" (.int 0) ∧
  (∃ V : Cell, RoadKit.Arr Z h' h.size V .byte ∧ V.vm = .none ∧ Z.vm.findClass "[B" = some V.cls ∧ V.slots.size = A.slots.size ∧ ∀ j, j < A.slots.size → V.slots[j]? = some (.int (lo8 (cv A j)))) ∧
  ∀ (O n d : String) (w : Value), RoadKit.Fld Z h x O n d w → RoadKit.slotOf Z O n d ≠ RoadKit.slotOf Z ST "value" "[B" → RoadKit.slotOf Z O n d ≠ RoadKit.slotOf Z ST "coder" "B" → RoadKit.Fld Z h' x O n d w
/-- **new String(chars) AT A CALL, IN THE ROAD'S FORM**: for specialBack behind newO: x the fresh String, b the char[] with the cell A -/
theorem back {p : Program} {l : Launch} {e : Env} {R : Room} {s : State} {args : Array Value} {below : List Frame} {len W : Nat} {Z : State} {a0 : Array Value} {h : Heap} (hZ : Z.Warmed39 s.vm) (hw : ∀ d ∈ words, d.before a0 Z = true) {kI : Nat} (wi : (Jvm.Cond.instantiable ST kI).before a0 Z = true)
    {x b : Addr} {A : Cell} {z : Int32} {v0 c0 : Value} (E : RoadKit.Exa Z h x ST) (V : RoadKit.Fld Z h x ST "value" "[B" v0) (C : RoadKit.Fld Z h x ST "coder" "B" c0) (K : RoadKit.Arr Z h b A .char) (hty : Typed .char A) (S : RoadKit.Sta Z h ST "COMPACT_STRINGS" "Z" (.int z)) (hz : ¬ z = 0)
    (l0 : 0 < A.slots.size) (l2 : A.slots.size ≤ 536870912) (hp : ∀ i, i < A.slots.size → ¬ 255 < cv A i) (hfr : 4 ≤ R.frames) (hlo : W + 65 ≤ R.locals) :
    Back l R p e below s args New1.yN len W (fun P a => a = #[.ref x, .ref b] ∧ P.U.heap = h ∧ P.cells + 1 ≤ R.cells ∧ P.slots + A.slots.size ≤ R.slots)
      (fun P _ v B => ∃ L, Q Z x A h v B.U.heap L ∧ B.locs = P.locs ++ L ∧ B.cells = P.cells + 1 ∧ B.slots = P.slots + A.slots.size) := by
  intro m meth c P g ig mk a X hg hsize hdg hW hn hp'
  obtain ⟨rfl, rfl, r1, r2⟩ := hp'
  have al : Z.vm.Alike P.U.vm := hZ.alike.trans X.warmed.alike
  obtain ⟨D, cfV, kV, iV, fV, hD, gV, stV, knV, obV, asV, slV⟩ := id V
  obtain ⟨D', cfC, kC, iC, fC, hD', gC, stC, -, -, asC, slC⟩ := id C
  cases hD.symm.trans hD'
  obtain ⟨D2, kD, e1, e2, e3, e4, e5⟩ := id E
  cases hD.symm.trans e1
  obtain ⟨c2, k2, i1, i2, i3, -⟩ := Cond.instantiable_spec wi
  cases e2.symm.trans i1
  cases e3.symm.trans i2
  obtain ⟨kU, u1, u2⟩ := al.2.2 _ _ e3
  have hB : Blank ST x D P.U := ⟨hD, ⟨knV, fun q hq => by rw [hq] at obV; cases obV⟩, by rw [al.findClass]; exact e2, kU, u1, by rw [u2]; exact i3, by rw [u2]; exact e5 i3⟩
  have F1 : Found ST "value" "[B" fV P.U := ⟨SBG.found_only al ⟨cfV, kV, iV, gV⟩, stV⟩
  have F2 : Found ST "coder" "B" fC P.U := ⟨SBG.found_only al ⟨cfC, kC, iC, gC⟩, stC⟩
  have hA : Ch b A P.U := ⟨⟨K.1, State.isArrayOf_alike al K.2.1, K.2.2, by omega⟩, hty⟩
  have hS : StaticIs P.U ST "COMPACT_STRINGS" "Z" (.int z) := by
    obtain ⟨cfS, iS, kS, fS, st, cS, t1, t2, t3, t4, t5, t6, t7⟩ := S
    exact StaticIs.there (s := { Z with heap := P.U.heap }) ⟨cfS, iS, kS, fS, st, cS, t1, t2, t3, t4, t5, (fun q => by rw [q] at t6; cases t6), t7⟩ al rfl
  obtain ⟨v, B, X', ⟨⟨hv, E', V', q1, q2, q3, q4, q5, q6, q7, q8, q9, q10, q11⟩, hl, hc, hs⟩, st⟩ := New1.pays x D fV fC b A z (tab_of (moved hZ hw)) hfr hlo m meth c P g ig mk _ X hg hsize hdg hW hn ⟨r1, r2, rfl, hB, F1, F2, hA, hS, hz, l0, l2, hp⟩
  have al' : Z.vm.Alike B.U.vm := hZ.alike.trans X'.warmed.alike
  have hsz : E'.slots.size = D.slots.size := by
    obtain ⟨-, -, -, kB, w1, w2, w3⟩ := q1
    obtain ⟨kB', y1, y2⟩ := al'.2.2 _ _ e3
    rw [q2.2.1] at w1
    cases w1.symm.trans y1
    rw [w3, e5 i3, y2]
  refine ⟨v, B, X', ⟨_, ⟨hv, ?_, ⟨by omega, fun y cy hy hn' => q10 y cy (by simpa using hn') hy, fun y cy hy => ?_⟩, q11, ⟨E', _, q1.1, by rw [q2.2.1]; exact e2, by rw [q2.2.1]; exact e3, by rw [q2.1]; exact obV, fun _ => by rw [hsz]; exact e5 i3⟩,
    ⟨E', cfV, kV, iV, fV, q1.1, gV, stV, by rw [q2.1]; exact knV, by rw [q2.1]; exact obV, by rw [q2.2.1]; exact asV, q3⟩, ⟨E', cfC, kC, iC, fC, q1.1, gC, stC, by rw [q2.1]; exact knV, by rw [q2.1]; exact obV, by rw [q2.2.1]; exact asC, q4⟩,
    ⟨V', ⟨q5.1, State.isArrayOf_alike al'.symm q5.2.1, q5.2.2.1⟩, q6, by rw [← al'.findClass]; exact q7, q8, fun j hj => by have := q9 j hj; rwa [Nat.zero_add] at this⟩, fun O n d w F n1 n2 => ?_⟩, hl, hc, hs⟩, st⟩
  · intro y hy
    simp only [List.mem_cons, List.not_mem_nil, or_false] at hy
    rcases hy with rfl | rfl <;> rfl
  · by_cases q : y = x
    · subst q
      cases hD.symm.trans hy
      exact ⟨E', q1.1, q2.2.1, q2.1, hsz⟩
    · exact ⟨cy, q10 y cy q hy, rfl, rfl, rfl⟩
  · obtain ⟨D3, cf, k, i, f, g1, g2, g3, g4, g5, g6, g7⟩ := F
    cases hD.symm.trans g1
    simp only [RoadKit.slotOf, g2, gV, gC, Option.map_some, Option.getD_some] at n1 n2
    exact ⟨E', cf, k, i, f, q1.1, g2, g3, by rw [q2.1]; exact g4, by rw [q2.1]; exact g5, by rw [q2.2.1]; exact g6, by rw [q2.2.2 f.slot (by simp [n1, n2])]; exact g7⟩
end StrChars.Road
namespace StrChars.Road
open Jvm Sem ClassFile Op Lib Jvm.Stand Jvm.Free Jvm.Free.XT
/-- WHAT COMES BACK, the byte[] as a list of values -/
def QA (Z : State) (x : Addr) (zn : Int32) (cs : List Int32) (h : Heap) (v : Option Value) (h' : Heap) (L : List Loc) : Prop := v = none ∧ (∀ y ∈ L, y.base = x) ∧ RoadKit.Keep h h' [x] ∧ h'.size = h.size + 1 ∧ RoadKit.Exa Z h' x ST ∧ RoadKit.Fld Z h' x ST "value" "[B" (.ref h.size) ∧ RoadKit.Fld Z h' x ST "coder" "B" (.int 0) ∧
  (∃ kb, Z.vm.findClass "[B" = some kb ∧ RoadKit.Arv Z h' h.size kb .byte zn (cs.map fun c => .int (lo8 c)) (.int 0)) ∧
  ∀ (O n d : String) (w : Value), RoadKit.Fld Z h x O n d w → RoadKit.slotOf Z O n d ≠ RoadKit.slotOf Z ST "value" "[B" → RoadKit.slotOf Z O n d ≠ RoadKit.slotOf Z ST "coder" "B" → RoadKit.Fld Z h' x O n d w
/-- **new String(chars) AT A CALL, THE ARRAYS AS LISTS**: the char[] at b holds cs, not empty, no char above 255 -/
theorem backArv {p : Program} {l : Launch} {e : Env} {R : Room} {s : State} {args : Array Value} {below : List Frame} {len W : Nat} {Z : State} {a0 : Array Value} {h : Heap} (hZ : Z.Warmed39 s.vm) (hw : ∀ d ∈ words, d.before a0 Z = true) {kI : Nat} (wi : (Jvm.Cond.instantiable ST kI).before a0 Z = true)
    {x b : Addr} {k : ClassId} {zn z : Int32} {cs : List Int32} {dv v0 c0 : Value} (E : RoadKit.Exa Z h x ST) (V : RoadKit.Fld Z h x ST "value" "[B" v0) (C : RoadKit.Fld Z h x ST "coder" "B" c0) (K : RoadKit.Arv Z h b k .char zn (cs.map Value.int) dv) (S : RoadKit.Sta Z h ST "COMPACT_STRINGS" "Z" (.int z)) (hz : ¬ z = 0)
    (hlen : zn.toNatClampNeg = cs.length) (h0 : 0 < cs.length) (hbig : cs.length ≤ 536870912) (hall : ∀ c ∈ cs, ¬ 255 < c) (hfr : 4 ≤ R.frames) (hlo : W + 65 ≤ R.locals) :
    Back l R p e below s args New1.yN len W (fun P a => a = #[.ref x, .ref b] ∧ P.U.heap = h ∧ P.cells + 1 ≤ R.cells ∧ P.slots + cs.length ≤ R.slots)
      (fun P _ v B => ∃ L, QA Z x zn cs h v B.U.heap L ∧ B.locs = P.locs ++ L ∧ B.cells = P.cells + 1 ∧ B.slots = P.slots + cs.length) := by
  obtain ⟨A, K1, K2, K3, K4, K5, K6⟩ := K
  have e : A.slots.size = cs.length := K3.trans hlen
  have hat : ∀ (i : Nat) (hi : i < cs.length), A.slots[i]? = some (.int cs[i]) := fun i hi => by rw [K5 i (by omega)]; simp [List.getD_eq_getElem?_getD, hi]
  have hcv : ∀ (i : Nat) (hi : i < cs.length), cv A i = cs[i] := fun i hi => by unfold cv; rw [hat i hi]
  have hty : Typed .char A := fun i v hv => by
    have hi : i < A.slots.size := (Array.getElem?_eq_some_iff.mp hv).1
    have q := K5 i hi
    rw [hv] at q
    rw [Option.some.inj q]
    exact K6 i hi
  refine Back.mono (back hZ hw wi E V C K1 hty S hz (by omega) (by omega) (fun i hi => by rw [hcv i (by omega)]; exact hall _ (List.getElem_mem _)) hfr hlo) (fun P a hp => ⟨hp.1, hp.2.1, hp.2.2.1, by rw [e]; exact hp.2.2.2⟩) (fun P a v B hp hq => ?_)
  obtain ⟨L, ⟨q1, q2, q3, q4, q5, q6, q7, ⟨V', v1, v2, v3, v4, v5⟩, q9⟩, hl, hc, hs⟩ := hq
  refine ⟨L, ⟨q1, q2, q3, q4, q5, q6, q7, ⟨V'.cls, v3, V', v1, rfl, by rw [v4, e, hlen], K4, fun i hi => ?_, fun i hi => ?_⟩, q9⟩, hl, hc, by rw [hs, e]⟩
  · have hi' : i < cs.length := by omega
    rw [v5 i (by omega), hcv i hi']; simp [List.getD_eq_getElem?_getD, hi']
  · have hi' : i < cs.length := by omega
    simp only [List.getD_eq_getElem?_getD, List.getElem?_map, List.getElem?_eq_getElem hi', Option.map_some, Option.getD_some]
    exact fits_lo8 _
end StrChars.Road
namespace StrChars.Road
open Jvm Sem ClassFile Op Lib Jvm.Stand Jvm.Free Jvm.Free.XT
/-- WHAT COMES BACK, in the writer's own shape -/
def QV (Z : State) (x : Addr) (N : Int32) (bs : List Int32) (h : Heap) (n0 : Nat) (v : Option Value) (h' : Heap) (L : List Loc) : Prop := v = none ∧ RoadKit.Fr n0 L ∧ RoadKit.Keep h h' [x] ∧ RoadKit.Exa Z h' x ST ∧ RoadKit.Fld Z h' x ST "coder" "B" (.int 0) ∧
  ∃ (t : Addr) (kb : ClassId), n0 ≤ t ∧ h.size ≤ t ∧ ¬ t = x ∧ RoadKit.Fld Z h' x ST "value" "[B" (.ref t) ∧ RoadKit.Arv Z h' t kb .byte N (bs.map Value.int) (.int 0)
/-- **new String(chars) AT A CALL, FOR THE WRITER**: a char[] of n known ints, each 0 to 255 -/
theorem backV {p : Program} {l : Launch} {e : Env} {R : Room} {s : State} {args : Array Value} {below : List Frame} {len W : Nat} {Z : State} {a0 : Array Value} {h : Heap} (hZ : Z.Warmed39 s.vm) (hw : ∀ d ∈ words, d.before a0 Z = true) {kI : Nat} (wi : (Jvm.Cond.instantiable ST kI).before a0 Z = true)
    {x b : Addr} {kC : ClassId} {cs bs : List Int32} {d v0 c0 : Value} {z N : Int32} {n n0 : Nat} (hx0 : n0 ≤ x) (hh0 : n0 ≤ h.size) (E : RoadKit.Exa Z h x ST) (V : RoadKit.Fld Z h x ST "value" "[B" v0) (C : RoadKit.Fld Z h x ST "coder" "B" c0) (K : RoadKit.Arv Z h b kC .char N (cs.map Value.int) d) (S : RoadKit.Sta Z h ST "COMPACT_STRINGS" "Z" (.int z)) (hz : ¬ z = 0)
    (hn : cs.length = n) (hN : N = Int32.ofNat n) (l0 : 0 < n) (l2 : n ≤ 4000) (hp : ∀ c ∈ cs, ¬ c < 0 ∧ ¬ (255 : Int32) < c) (hb : bs = cs.map (fun c => c.toInt8.toInt32)) (hfr : 4 ≤ R.frames) (hlo : W + 65 ≤ R.locals) :
    Back l R p e below s args (⟨"java/lang/String", "<init>", "([C)V"⟩ : MethodName) len W (fun P a => a = #[.ref x, .ref b] ∧ P.U.heap = h ∧ P.cells + 1 ≤ R.cells ∧ P.slots + n ≤ R.slots)
      (fun P _ v B => ∃ L, QV Z x N bs h n0 v B.U.heap L ∧ B.locs = P.locs ++ L ∧ B.cells = P.cells + 1 ∧ B.slots = P.slots + n) := by
  subst hn hN hb
  refine Back.mono (backArv hZ hw wi E V C K S hz (n32 (by omega)) l0 (by omega) (fun c hc => (hp c hc).2) hfr hlo) (fun P a hp => hp) (fun P a v B hp hq => ?_)
  obtain ⟨L, ⟨q1, q2, q3, q4, q5, q6, q7, ⟨kb, v1, v2⟩, q9⟩, hl, hc, hs⟩ := hq
  exact ⟨L, ⟨q1, fun y hy => by rw [q2 y hy]; exact hx0, q3, q5, q7, h.size, kb, hh0, Nat.le_refl _, Nat.ne_of_gt E.lt, q6, by rw [List.map_map]; exact v2⟩, hl, hc, hs⟩
end StrChars.Road
namespace StrChars
open Jvm Sem ClassFile Op Lib Jvm.Stand Jvm.Free.XT Jvm.Free.ALB Jvm.Free.JM Jvm.Free
open Jvm.Lib.Cold (StaticIs)
def hi8 (x : Int32) : Int32 := lo8 (x >>> ((8 : Int32) &&& 31))
/-- what StringUTF16.getChar makes of two bytes -/
def pairCh (u v : Int32) : Int32 := (((u &&& 255) <<< ((0 : Int32) &&& 31)) ||| ((v &&& 255) <<< ((8 : Int32) &&& 31))).toUInt32.toUInt16.toUInt32.toInt32
theorem lo8_and (x : Int32) : (lo8 x &&& 255).toBitVec.toNat = x.toBitVec.toNat % 256 := by
  have h : (lo8 x).toBitVec = (x.toBitVec.signExtend 8).signExtend 32 := by rw [lo8, Int8.toBitVec_toInt32, Int32.toBitVec_toInt8]
  rw [Int32.toBitVec_and, BitVec.toNat_and, h]
  have e : ((x.toBitVec.signExtend 8).signExtend 32).toNat % 256 = x.toBitVec.toNat % 256 := by
    rw [BitVec.toNat_signExtend]
    have hlt := x.toBitVec.isLt
    simp only [BitVec.toNat_setWidth, BitVec.toNat_signExtend]
    split <;> split <;> omega
  rw [← e]
  exact Nat.and_two_pow_sub_one_eq_mod _ 8
theorem pair_says {c : Int32} (h0 : ¬ c < 0) (h1 : ¬ 65535 < c) : pairCh (lo8 c) (hi8 c) = c := by
  rw [Int32.lt_iff_toInt_lt] at h0 h1
  have e0 : (0 : Int32).toInt = 0 := rfl
  have e1 : (65535 : Int32).toInt = 65535 := rfl
  have hc : c.toInt = c.toBitVec.toNat := by
    have := c.toBitVec.isLt
    have e : c.toInt = c.toBitVec.toInt := rfl
    rw [e] at h0 h1
    rw [e]
    rw [BitVec.toInt_eq_toNat_cond] at h0 h1 ⊢
    split at h0 <;> split <;> omega
  have hn : c.toBitVec.toNat < 65536 := by omega
  have a1 := lo8_and c
  have a2 : (hi8 c &&& 255).toBitVec.toNat = c.toBitVec.toNat / 256 := by
    rw [hi8, lo8_and]
    have e : ((8 : Int32) &&& 31) = 8 := by decide
    rw [e, Int32.toBitVec_shiftRight]
    have e2 : ((8 : Int32).toBitVec.smod 32) = 8#32 := by decide
    rw [e2, BitVec.sshiftRight_eq', BitVec.toNat_sshiftRight_of_msb_false (by rw [BitVec.msb_eq_false_iff_two_mul_lt]; omega)]
    show c.toBitVec.toNat >>> 8 % 256 = _
    rw [Nat.shiftRight_eq_div_pow]
    omega
  unfold pairCh
  apply Int32.toBitVec_inj.mp
  apply BitVec.eq_of_toNat_eq
  have f0 : ((0 : Int32) &&& 31) = 0 := by decide
  have f8 : ((8 : Int32) &&& 31) = 8 := by decide
  rw [f0, f8]
  have g : (((lo8 c &&& 255) <<< (0 : Int32)) ||| ((hi8 c &&& 255) <<< (8 : Int32))).toBitVec.toNat = c.toBitVec.toNat := by
    rw [Int32.toBitVec_or, Int32.toBitVec_shiftLeft, Int32.toBitVec_shiftLeft]
    have s0 : ((0 : Int32).toBitVec.smod 32) = 0#32 := by decide
    have s8 : ((8 : Int32).toBitVec.smod 32) = 8#32 := by decide
    rw [s0, s8, BitVec.toNat_or]
    simp only [BitVec.shiftLeft_eq', BitVec.toNat_shiftLeft, a1, a2]
    show (c.toBitVec.toNat % 256) <<< 0 % 2 ^ 32 ||| (c.toBitVec.toNat / 256) <<< 8 % 2 ^ 32 = _
    rw [Nat.shiftLeft_zero, Nat.mod_eq_of_lt (show c.toBitVec.toNat % 256 < 2 ^ 32 by omega), Nat.mod_eq_of_lt (show (c.toBitVec.toNat / 256) <<< 8 < 2 ^ 32 by rw [Nat.shiftLeft_eq]; omega), Nat.or_comm, ← Nat.shiftLeft_add_eq_or_of_lt (by omega), Nat.shiftLeft_eq]
    omega
  show BitVec.toNat (((((lo8 c &&& 255) <<< (0 : Int32)) ||| ((hi8 c &&& 255) <<< (8 : Int32))).toBitVec.setWidth 16).setWidth 32) = _
  rw [BitVec.toNat_setWidth, BitVec.toNat_setWidth, g]
  omega
end StrChars
namespace StrChars
open Jvm Sem ClassFile Op Lib Jvm.Stand Jvm.Free.XT Jvm.Free.ALB Jvm.Free.JM Jvm.Free
open Jvm.Lib.Cold (StaticIs)
/-- charAt's cast of a byte read back -/
def chr8 (u : Int32) : Int32 := (u &&& 255).toUInt32.toUInt16.toUInt32.toInt32
theorem chr8_lo8 {c : Int32} (h0 : ¬ c < 0) (h1 : ¬ 255 < c) : chr8 (lo8 c) = c := by
  have t : ∀ k : Fin 256, (Int32.ofNat k.val).toUInt32.toUInt16.toUInt32.toInt32 = Int32.ofNat k.val := by decide +kernel
  unfold chr8
  rw [lo8_mask h0 h1]
  rw [Int32.lt_iff_toInt_lt] at h0 h1
  have e0 : (0 : Int32).toInt = 0 := rfl
  have e1 : (255 : Int32).toInt = 255 := rfl
  obtain ⟨k, hk⟩ : ∃ k : Nat, c.toInt = k := ⟨c.toInt.toNat, by omega⟩
  have hx : c = Int32.ofNat k := Int32.toInt_inj.mp (by rw [hk, Int32.toInt_ofNat_small (by omega)])
  rw [hx]
  exact t ⟨k, by omega⟩
theorem narrow_ch {c : Int32} (h0 : ¬ c < 0) (h1 : ¬ 65535 < c) : narrow .char (.int c) = .int c := by
  have q : narrow .char (.int (pairCh (lo8 c) (hi8 c))) = .int (pairCh (lo8 c) (hi8 c)) := narrow_c _
  rwa [pair_says h0 h1] at q
/-- the array's cell V codes the n chars f 0 .. f (n - 1) by the coder cd, as the JDK does: coder 1 just where some char is above 255 -/
def Cod (cd : Int32) (n : Nat) (f : Nat → Int32) (V : Cell) : Prop := (cd = 0 ∧ V.slots.size = n ∧ ∀ j, j < n → V.slots[j]? = some (.int (lo8 (f j))) ∧ ¬ 255 < f j) ∨ (cd = 1 ∧ V.slots.size = 2 * n ∧ (∀ j, j < n → V.slots[2 * j]? = some (.int (lo8 (f j))) ∧ V.slots[2 * j + 1]? = some (.int (hi8 (f j)))) ∧ ∃ j, j < n ∧ 255 < f j)
theorem Cod.cd {cd : Int32} {n : Nat} {f : Nat → Int32} {V : Cell} (h : Cod cd n f V) : cd = 0 ∨ cd = 1 := h.imp (fun q => q.1) fun q => q.1
/-- **x is a String of the n chars f 0 .. f (n - 1)**, Latin-1 or UTF-16; its array at t has the cell V -/
def Txt (x t : Addr) (V : Cell) (cd : Int32) (n : Nat) (f : Nat → Int32) (U : State) : Prop := Exact "java/lang/String" x U ∧ Has x "java/lang/String" "value" "[B" (.ref t) U ∧ Has x "java/lang/String" "coder" "B" (.int cd) U ∧ XT.Arr .byte t V U ∧ Cod cd n f V ∧ ∀ j, j < n → ¬ f j < 0 ∧ ¬ 65535 < f j
theorem Txt.mv {x t : Addr} {V : Cell} {cd : Int32} {n : Nat} {f : Nat → Int32} {U U' : State} (h : Txt x t V cd n f U) (hal : U.vm.Alike U'.vm) (hh : U'.heap = U.heap) : Txt x t V cd n f U' := ⟨h.1.mv hal hh, h.2.1.mv hal hh, h.2.2.1.mv hal hh, h.2.2.2.1.mv hal hh, h.2.2.2.2⟩
namespace IsL
def yN : MethodName := ⟨"java/lang/String", "isLatin1", "()Z"⟩
abbrev yB : ByteArray := jdk_42_method_154_code
theorem d0 : decode yB 0 = .ok (.getstatic 38, 3) := by decide +kernel
theorem d3 : decode yB 3 = .ok (.ifCond (.eq) 14, 3) := by decide +kernel
theorem d6 : decode yB 6 = .ok (.aload_n 0, 1) := by decide +kernel
theorem d7 : decode yB 7 = .ok (.getfield 15, 3) := by decide +kernel
theorem d10 : decode yB 10 = .ok (.ifCond (.ne) 7, 3) := by decide +kernel
theorem d13 : decode yB 13 = .ok (.iconst 1, 1) := by decide +kernel
theorem d14 : decode yB 14 = .ok (.goto 4, 3) := by decide +kernel
theorem d17 : decode yB 17 = .ok (.iconst 0, 1) := by decide +kernel
theorem d18 : decode yB 18 = .ok (.ireturn, 1) := by decide +kernel
def site : List Cond := [.fieldLink "java/lang/String" 38 "java/lang/String" "COMPACT_STRINGS" "Z", .fieldLink "java/lang/String" 15 "java/lang/String" "coder" "B"]
def tab : Cond := tabOf yN yB 1 (some .boolean) site
def P (x : Addr) (cd z : Int32) (args : Array Value) (s : State) : Prop := args = #[.ref x] ∧ Has x "java/lang/String" "coder" "B" (.int cd) s ∧ (cd = 0 ∨ cd = 1) ∧ StaticIs s "java/lang/String" "COMPACT_STRINGS" "Z" (.int z) ∧ ¬ z = 0
def E (cd : Int32) (r : Option Value) (s u : State) : Prop := XT.PureE (some (.int (1 - cd))) r s u
theorem law (l : Launch) (x : Addr) (cd z : Int32) : Law l yN 1 0 0 0 yB 1 (some .boolean) site (P x cd z) (E cd) [] 0 0 := by
  refine Law.of_walk (plainFor_of_name (by decide +kernel)) (by decide +kernel) (by decide +kernel) (by decide) (fun _ _ h => by rw [h.1]; rfl) (fun _ U U' hal hh h => ⟨h.1, h.2.1.mv hal hh, h.2.2.1, h.2.2.2.1.there hal hh, h.2.2.2.2⟩) (fun r U U' V V' h1 hal h2 h => XT.PureE.mv r U U' V V' h1 hal h2 h) ?_
  intro p e s m args below meth c s₁ X0 hexec hbytes hml hret hlk hnm hown hh0 W hP
  obtain ⟨rfl, hx, hc, s1, hz⟩ := hP
  have c1 : Steps p.tables e below (s₁.setTop (entryFrame m #[.ref x] 1)) (s₁.setTop (mkF m 0 #[.val (.ref x)] [])) := entry rfl
  obtain ⟨T2, X2, q2, st2⟩ := X0.sget hexec hown (wk W (.fieldLink "java/lang/String" 38 "java/lang/String" "COMPACT_STRINGS" "Z")) s1 (fun _ _ h => by rw [hh0]; exact h) (g := (mkF m 0 #[.val (.ref x)] [])) rfl (hb hbytes d0)
  have hh2 := q2.trans hh0
  have c3 : Steps p.tables e below (s₁.setTop (entryFrame m #[.ref x] 1)) (T2.setTop (mkF m 7 #[.val (.ref x)] [.ref x])) := (c1.trans (st2 _ (Steps.refl _))).trans (by
    refine XS.ifNo X2.here hexec rfl (hb hbytes d3) rfl (i0_eq_f hz) ?_
    refine XS.aloadN X2.here hexec rfl (hb hbytes d6) rfl rfl ?_
    exact Steps.refl _)
  obtain ⟨T4, X4, q4, st4⟩ := X2.hget hexec hown (wk W (.fieldLink "java/lang/String" 15 "java/lang/String" "coder" "B")) (hx.mv X2.warmed.alike hh2) (g := (mkF m 7 #[.val (.ref x)] [.ref x])) rfl (rest := []) rfl (hb hbytes d7)
  have c5 : Steps p.tables e below (s₁.setTop (entryFrame m #[.ref x] 1)) (T4.setTop (mkF m 10 #[.val (.ref x)] [.int cd])) := c3.trans (st4 _ (Steps.refl _))
  have c6 : Steps p.tables e below (s₁.setTop (entryFrame m #[.ref x] 1)) (T4.setTop (mkF m 18 #[.val (.ref x)] [.int (1 - cd)])) := by
    rcases hc with rfl | rfl
    · exact c5.trans (by
        refine XS.ifNo X4.here hexec rfl (hb hbytes d10) rfl (i0_ne_f rfl) ?_
        refine iconstV X4.here hexec rfl 1 (hb hbytes d13) (by decide) ?_
        refine XS.goto X4.here hexec rfl (pc0 := 14) rfl (hb hbytes d14) (by decide) rfl ?_
        exact Steps.refl _)
    · exact c5.trans (by
        refine XS.ifYes X4.here hexec rfl (pc0 := 10) rfl (hb hbytes d10) rfl (i0_ne_t (by decide)) (by decide) rfl ?_
        refine iconstV X4.here hexec rfl 0 (hb hbytes d17) (by decide) ?_
        exact Steps.refl _)
  exact ⟨T4, some (.int (1 - cd)), _, _, _, X4, rfl, rfl, rfl, (fun h => by cases h), ⟨rfl, q4.trans hh2⟩, fun fs hl => c6.trans (X4.ireturnOut hexec hret (by rcases hc with rfl | rfl <;> rfl) (Or.inr (Or.inl rfl)) (hb hbytes d18) hl)⟩
end IsL
namespace LChA
def yN : MethodName := ⟨"java/lang/StringLatin1", "charAt", "([BI)C"⟩
abbrev yB : ByteArray := jdk_43_method_2_code
theorem d0 : decode yB 0 = .ok (.iload_n 1, 1) := by decide +kernel
theorem d1 : decode yB 1 = .ok (.aload_n 0, 1) := by decide +kernel
theorem d2 : decode yB 2 = .ok (.arraylength, 1) := by decide +kernel
theorem d3 : decode yB 3 = .ok (.invokestatic 9, 3) := by decide +kernel
theorem d6 : decode yB 6 = .ok (.aload_n 0, 1) := by decide +kernel
theorem d7 : decode yB 7 = .ok (.iload_n 1, 1) := by decide +kernel
theorem d8 : decode yB 8 = .ok (.baload, 1) := by decide +kernel
theorem d9 : decode yB 9 = .ok (.sipush 255, 3) := by decide +kernel
theorem d12 : decode yB 12 = .ok (.iand, 1) := by decide +kernel
theorem d13 : decode yB 13 = .ok (.i2c, 1) := by decide +kernel
theorem d14 : decode yB 14 = .ok (.ireturn, 1) := by decide +kernel
def site : List Cond := [JO.Str_checkIndex.tab] ++ staticW "java/lang/StringLatin1" 9 JO.Str_checkIndex.yN
def tab : Cond := tabOf yN yB 2 (some .char) site
def P (t : Addr) (V : Cell) (i : Nat) (u : Int32) (fm : Value) (args : Array Value) (s : State) : Prop := args = #[.ref t, .int (Int32.ofNat i)] ∧ XT.Arr .byte t V s ∧ V.slots[i]? = some (.int u) ∧ (StaticIs s "jdk/internal/util/Preconditions" "SIOOBE_FORMATTER" "Ljava/util/function/BiFunction;" fm ∧ fm.isRef = true)
def E (u : Int32) (r : Option Value) (s w : State) : Prop := XT.PureE (some (.int (chr8 u))) r s w
theorem law (l : Launch) (t : Addr) (V : Cell) (i : Nat) (u : Int32) (fm : Value) : Law l yN 2 2 2 27 yB 2 (some .char) site (P t V i u fm) (E u) [] 0 0 := by
  refine Law.of_walk (plainFor_of_name (by decide +kernel)) (by decide +kernel) (by decide +kernel) (by decide) (fun _ _ h => by rw [h.1]; rfl) (fun _ U U' hal hh h => ⟨h.1, h.2.1.mv hal hh, h.2.2.1, h.2.2.2.1.there hal hh, h.2.2.2.2⟩) (fun r U U' V V' h1 hal h2 h => XT.PureE.mv r U U' V V' h1 hal h2 h) ?_
  intro p e s m args below meth c s₁ X0 hexec hbytes hml hret hlk hnm hown hh0 W hP
  obtain ⟨rfl, hV, hu, s1, rf⟩ := hP
  have v31 := hV.2.2.2
  have hi : i < V.slots.size := (Array.getElem?_eq_some_iff.mp hu).1
  have c1 : Steps p.tables e below (s₁.setTop (entryFrame m #[.ref t, .int (Int32.ofNat i)] 2)) (s₁.setTop (mkF m 0 #[.val (.ref t), .val (.int (Int32.ofNat i))] [])) := entry rfl
  have c2 : Steps p.tables e below (s₁.setTop (entryFrame m #[.ref t, .int (Int32.ofNat i)] 2)) (s₁.setTop (mkF m 3 #[.val (.ref t), .val (.int (Int32.ofNat i))] [.int (Int32.ofNat V.slots.size), .int (Int32.ofNat i)])) := c1.trans (by
    refine XS.iloadN X0.here hexec rfl (hb hbytes d0) rfl ?_
    refine XS.aloadN X0.here hexec rfl (hb hbytes d1) rfl rfl ?_
    refine X0.alen hexec (hV.mv X0.warmed.alike hh0) rfl rfl (hb hbytes d2) ?_
    exact Steps.refl _)
  obtain ⟨v3, T3, X3, E3, g3⟩ := X0.callS hexec (JO.Str_checkIndex.law l (Int32.ofNat i) (Int32.ofNat V.slots.size) fm) hown (wks W (staticW "java/lang/StringLatin1" 9 JO.Str_checkIndex.yN)) (wk W JO.Str_checkIndex.tab) (W := 0) (Nat.le_of_ble_eq_true rfl) (Nat.le_of_ble_eq_true rfl) (Nat.le_refl _) (Nat.le_refl _) (g := (mkF m 3 #[.val (.ref t), .val (.int (Int32.ofNat i))] [.int (Int32.ofNat V.slots.size), .int (Int32.ofNat i)])) rfl (by rw [hml]; rfl) c2 (argsL := [.int (Int32.ofNat i), .int (Int32.ofNat V.slots.size)]) (rest := []) rfl rfl (by show 2 * 0 + 0 ≤ _; decide) (hb hbytes d3) (⟨rfl, rf, s1.there X0.warmed.alike hh0, Int32.ofNat_not_neg (by omega), lt32 v31 hi⟩)
  obtain ⟨rfl, q3⟩ := E3
  have hh3 := q3.trans hh0
  have c4 : Steps p.tables e below (s₁.setTop (entryFrame m #[.ref t, .int (Int32.ofNat i)] 2)) (T3.setTop (mkF m 14 #[.val (.ref t), .val (.int (Int32.ofNat i))] [.int (chr8 u)])) := Steps.trans g3 (by
    refine XS.aloadN X3.here hexec rfl (hb hbytes d6) rfl rfl ?_
    refine XS.iloadN X3.here hexec rfl (hb hbytes d7) rfl ?_
    refine X3.aget hexec (hV.mv X3.warmed.alike hh3) rfl hu rfl rfl (hb hbytes d8) ?_
    refine sipushV X3.here hexec rfl 255 (hb hbytes d9) (by decide) ?_
    refine XS.iand X3.here hexec rfl (hb hbytes d12) rfl ?_
    refine i2c X3.here hexec rfl (hb hbytes d13) rfl ?_
    exact Steps.refl _)
  exact ⟨T3, some (.int (chr8 u)), _, _, _, X3, rfl, rfl, rfl, (fun h => by cases h), ⟨rfl, hh3⟩, fun fs hl => c4.trans (X3.ireturnOut hexec hret (narrow_c _) (Or.inr (Or.inr (Or.inr (Or.inl rfl)))) (hb hbytes d14) hl)⟩
end LChA
end StrChars
namespace StrChars.Road
open Jvm Sem ClassFile Op Lib Jvm.Stand Jvm.Free Jvm.Free.XT
open Jvm.Lib.Cold (StaticIs)
theorem consq {a : Array Value} {s : State} {c : Jvm.Cond} {L : List Jvm.Cond} (h0 : c.before a s = true) (h : ∀ w ∈ L, w.before a s = true) : ∀ w ∈ c :: L, w.before a s = true := fun w hw => (List.mem_cons.mp hw).elim (fun e => e ▸ h0) (h w)
/-- the bytes of the chars cs, low before high -/
def wideBytes : List Int32 → List Value
  | [] => []
  | c :: cs => .int (lo8 c) :: .int (hi8 c) :: wideBytes cs
theorem wide_lo (d : Value) : ∀ (cs : List Int32) (j : Nat), j < cs.length → (wideBytes cs).getD (2 * j) d = .int (lo8 (cs.getD j 0))
  | [], j, h => absurd h (Nat.not_lt_zero j)
  | c :: cs, 0, _ => rfl
  | c :: cs, j + 1, h => by
    have q := wide_lo d cs j (by simpa using h)
    rw [show 2 * (j + 1) = 2 * j + 1 + 1 from by omega]
    simpa [wideBytes] using q
theorem wide_hi (d : Value) : ∀ (cs : List Int32) (j : Nat), j < cs.length → (wideBytes cs).getD (2 * j + 1) d = .int (hi8 (cs.getD j 0))
  | [], j, h => absurd h (Nat.not_lt_zero j)
  | c :: cs, 0, _ => rfl
  | c :: cs, j + 1, h => by
    have q := wide_hi d cs j (by simpa using h)
    rw [show 2 * (j + 1) + 1 = 2 * j + 1 + 1 + 1 from by omega]
    simpa [wideBytes] using q
theorem low_at (d : Value) (cs : List Int32) (j : Nat) (h : j < cs.length) : (cs.map fun c => Value.int (lo8 c)).getD j d = .int (lo8 (cs.getD j 0)) := by
  simp [List.getD_eq_getElem?_getD, h]
/-- an array of N2 bytes vs codes the chars cs by the coder cd -/
def CodA (cs : List Int32) (cd N2 : Int32) (vs : List Value) : Prop := (cd = 0 ∧ N2 = Int32.ofNat cs.length ∧ vs = (cs.map fun c => Value.int (lo8 c)) ∧ ∀ c ∈ cs, ¬ 255 < c) ∨ (cd = 1 ∧ N2 = Int32.ofNat (2 * cs.length) ∧ vs = wideBytes cs ∧ ∃ c ∈ cs, 255 < c)
theorem CodA.cod {cs : List Int32} {cd N2 : Int32} {vs : List Value} {V : Cell} (h : CodA cs cd N2 vs) (hn : 2 * cs.length < 2 ^ 31) (hs : V.slots.size = N2.toNatClampNeg) (hv : RoadKit.Has V vs (.int 0)) : Cod cd cs.length (fun j => cs.getD j 0) V := by
  rcases h with ⟨rfl, rfl, rfl, h⟩ | ⟨rfl, rfl, rfl, c, hc, hw⟩
  · rw [n32 (by omega)] at hs
    exact Or.inl ⟨rfl, hs, fun j hj => ⟨by rw [hv j (by omega), low_at _ _ _ hj], by
      have e : cs.getD j 0 = cs[j] := by simp [List.getD_eq_getElem?_getD, hj]
      show ¬ 255 < cs.getD j 0
      rw [e]; exact h _ (List.getElem_mem _)⟩⟩
  · rw [n32 (by omega)] at hs
    obtain ⟨j, hj, rfl⟩ := List.getElem_of_mem hc
    exact Or.inr ⟨rfl, hs, fun j hj => ⟨by rw [hv _ (by omega), wide_lo _ _ _ hj], by rw [hv _ (by omega), wide_hi _ _ _ hj]⟩, j, hj, by
      have e : cs.getD j 0 = cs[j] := by simp [List.getD_eq_getElem?_getD, hj]
      show 255 < cs.getD j 0
      rw [e]; exact hw⟩
/-- an object of exactly java/lang/String, its two fields found: as the laws ask it -/
theorem strObj {Z U : State} {a0 : Array Value} {kI : Nat} (wi : (Jvm.Cond.instantiable ST kI).before a0 Z = true) (al : Z.vm.Alike U.vm) {x : Addr} {v0 c0 : Value} (E : RoadKit.Exa Z U.heap x ST) (V : RoadKit.Fld Z U.heap x ST "value" "[B" v0) (C : RoadKit.Fld Z U.heap x ST "coder" "B" c0) :
    ∃ (D : Cell) (fV fC : Field), Blank ST x D U ∧ Found ST "value" "[B" fV U ∧ Found ST "coder" "B" fC U ∧ D.slots[fV.slot]? = some v0 ∧ D.slots[fC.slot]? = some c0 ∧ RoadKit.slotOf Z ST "value" "[B" = fV.slot ∧ RoadKit.slotOf Z ST "coder" "B" = fC.slot := by
  obtain ⟨D, cfV, kV, iV, fV, hD, gV, stV, knV, obV, asV, slV⟩ := V
  obtain ⟨D', cfC, kC, iC, fC, hD', gC, stC, -, -, asC, slC⟩ := C
  cases hD.symm.trans hD'
  obtain ⟨D2, kD, e1, e2, e3, e4, e5⟩ := E
  cases hD.symm.trans e1
  obtain ⟨c2, k2, i1, i2, i3, -⟩ := Cond.instantiable_spec wi
  cases e2.symm.trans i1
  cases e3.symm.trans i2
  obtain ⟨kU, u1, u2⟩ := al.2.2 _ _ e3
  exact ⟨D, fV, fC, ⟨hD, ⟨knV, fun q hq => by rw [hq] at obV; cases obV⟩, by rw [al.findClass]; exact e2, kU, u1, by rw [u2]; exact i3, by rw [u2]; exact e5 i3⟩, ⟨SBG.found_only al ⟨cfV, kV, iV, gV⟩, stV⟩, ⟨SBG.found_only al ⟨cfC, kC, iC, gC⟩, stC⟩, slV, slC, by simp [RoadKit.slotOf, gV], by simp [RoadKit.slotOf, gC]⟩
theorem sta_is {Z U : State} (al : Z.vm.Alike U.vm) {C n d : String} {v : Value} (S : RoadKit.Sta Z U.heap C n d v) : StaticIs U C n d v := by
  obtain ⟨cfS, iS, kS, fS, st, cS, t1, t2, t3, t4, t5, t6, t7⟩ := S
  exact StaticIs.there (s := { Z with heap := U.heap }) ⟨cfS, iS, kS, fS, st, cS, t1, t2, t3, t4, t5, (fun q => by rw [q] at t6; cases t6), t7⟩ al rfl
end StrChars.Road
namespace StrChars.Road
open Jvm Sem ClassFile Op Lib Jvm.Stand Jvm.Free Jvm.Free.XT
open Jvm.Lib.Cold (StaticIs)
/-- the road's facts of a String, as the laws ask it -/
theorem txt_of {Z U : State} {a0 : Array Value} {kI : Nat} (wi : (Jvm.Cond.instantiable ST kI).before a0 Z = true) (al : Z.vm.Alike U.vm) {x t : Addr} {kb : ClassId} {cs : List Int32} {cd N2 : Int32} {vs : List Value} (E : RoadKit.Exa Z U.heap x ST) (V : RoadKit.Fld Z U.heap x ST "value" "[B" (.ref t)) (C : RoadKit.Fld Z U.heap x ST "coder" "B" (.int cd)) (K : RoadKit.Arv Z U.heap t kb .byte N2 vs (.int 0)) (hc : CodA cs cd N2 vs) (hb : ∀ c ∈ cs, ¬ c < 0 ∧ ¬ (65535 : Int32) < c) (l2 : cs.length ≤ 4000) :
    ∃ A, Txt x t A cd cs.length (fun j => cs.getD j 0) U := by
  obtain ⟨A, K1, K2, K3, K4, K5, K6⟩ := K
  have hcod := hc.cod (by omega) K3 K5
  obtain ⟨D, fV, fC, hB, F1, F2, g1, g2, -, -⟩ := strObj wi al E V C
  exact ⟨A, ⟨_, hB.2.2.1, D, hB.1, rfl, by cases q : D.vm <;> first | rfl | exact absurd q (hB.2.1.2 _)⟩, Has.of hB F1 g1, Has.of hB F2 g2, ⟨K1.1, State.isArrayOf_alike al K1.2.1, K1.2.2, by rcases hcod with ⟨-, q, -⟩ | ⟨-, q, -⟩ <;> omega⟩, hcod, fun j hj => by
    have e : cs.getD j 0 = cs[j] := by simp [List.getD_eq_getElem?_getD, hj]
    show ¬ cs.getD j 0 < 0 ∧ ¬ 65535 < cs.getD j 0
    rw [e]; exact hb _ (List.getElem_mem _)⟩
end StrChars.Road
namespace StrChars
open Jvm Sem ClassFile Op Lib Jvm.Stand Jvm.Free.XT Jvm.Free.ALB Jvm.Free.JM Jvm.Free
open Jvm.Lib.Cold (StaticIs)
namespace ChN
def yN : MethodName := ⟨"java/lang/String", "charAt", "(I)C"⟩
abbrev yB : ByteArray := jdk_42_method_56_code
theorem d0 : decode yB 0 = .ok (.aload_n 0, 1) := by decide +kernel
theorem d1 : decode yB 1 = .ok (.invokevirtual 492, 3) := by decide +kernel
theorem d4 : decode yB 4 = .ok (.ifCond (.eq) 12, 3) := by decide +kernel
theorem d7 : decode yB 7 = .ok (.aload_n 0, 1) := by decide +kernel
theorem d8 : decode yB 8 = .ok (.getfield 9, 3) := by decide +kernel
theorem d11 : decode yB 11 = .ok (.iload_n 1, 1) := by decide +kernel
theorem d12 : decode yB 12 = .ok (.invokestatic 495, 3) := by decide +kernel
theorem d15 : decode yB 15 = .ok (.ireturn, 1) := by decide +kernel
def site : List Cond := [.fieldLink "java/lang/String" 9 "java/lang/String" "value" "[B", IsL.tab, LChA.tab] ++ virtW "java/lang/String" 492 "java/lang/String" IsL.yN IsL.yN ++ staticW "java/lang/String" 495 LChA.yN
def tab : Cond := tabOf yN yB 2 (some .char) site
def P (x t : Addr) (V : Cell) (n : Nat) (f : Nat → Int32) (z : Int32) (fm : Value) (i : Nat) (args : Array Value) (s : State) : Prop := args = #[.ref x, .int (Int32.ofNat i)] ∧ Txt x t V 0 n f s ∧ i < n ∧ StaticIs s "java/lang/String" "COMPACT_STRINGS" "Z" (.int z) ∧ ¬ z = 0 ∧ StaticIs s "jdk/internal/util/Preconditions" "SIOOBE_FORMATTER" "Ljava/util/function/BiFunction;" fm ∧ fm.isRef = true
def E (f : Nat → Int32) (i : Nat) (r : Option Value) (s u : State) : Prop := XT.PureE (some (.int (f i))) r s u
/-- charAt(i) of a Latin-1 String of n chars, i < n: f i -/
theorem law (l : Launch) (x t : Addr) (V : Cell) (n : Nat) (f : Nat → Int32) (z : Int32) (fm : Value) (i : Nat) : Law l yN 2 1 3 40 yB 2 (some .char) site (P x t V n f z fm i) (E f i) [] 0 0 := by
  refine Law.of_walk (plainFor_of_name (by decide +kernel)) (by decide +kernel) (by decide +kernel) (by decide) (fun _ _ h => by rw [h.1]; rfl) (fun _ U U' hal hh h => ⟨h.1, h.2.1.mv hal hh, h.2.2.1, h.2.2.2.1.there hal hh, h.2.2.2.2.1, h.2.2.2.2.2.1.there hal hh, h.2.2.2.2.2.2⟩) (fun r U U' V V' h1 hal h2 h => XT.PureE.mv r U U' V V' h1 hal h2 h) ?_
  intro p e s m args below meth c s₁ X0 hexec hbytes hml hret hlk hnm hown hh0 W hP
  obtain ⟨rfl, hx, hi, s1, hz, s3, rf⟩ := hP
  have v31 := hx.2.2.2.1.2.2.2
  have hr := hx.2.2.2.2.2 i hi
  have hx0 := hx.mv X0.warmed.alike hh0
  have c1 : Steps p.tables e below (s₁.setTop (entryFrame m #[.ref x, .int (Int32.ofNat i)] 2)) (s₁.setTop (mkF m 1 #[.val (.ref x), .val (.int (Int32.ofNat i))] [.ref x])) := Steps.trans (entry rfl) (by
    refine XS.aloadN X0.here hexec rfl (hb hbytes d0) rfl rfl ?_
    exact Steps.refl _)
  obtain ⟨v2, T2, X2, E2, g2⟩ := X0.callV hexec (IsL.law l x 0 z) hown (wks W (virtW "java/lang/String" 492 "java/lang/String" IsL.yN IsL.yN)) rfl (by decide) (wk W IsL.tab) (W := 0) (Nat.le_of_ble_eq_true rfl) (Nat.le_of_ble_eq_true rfl) (Nat.le_refl _) (Nat.le_refl _) (hx0.1.fc X0.warmed.alike) hx0.1.is (g := (mkF m 1 #[.val (.ref x), .val (.int (Int32.ofNat i))] [.ref x])) rfl (by rw [hml]; rfl) c1 (argsL := []) (rest := []) rfl rfl (by show 2 * 0 + 0 ≤ _; decide) (hb hbytes d1) (⟨rfl, hx0.2.2.1, hx.2.2.2.2.1.cd, s1.there X0.warmed.alike hh0, hz⟩)
  obtain ⟨rfl, q2⟩ := E2
  have hh2 := q2.trans hh0
  have hx2 := hx.mv X2.warmed.alike hh2
  obtain ⟨-, k1, k2⟩ | ⟨k0, -⟩ := hx.2.2.2.2.1
  · have c3 : Steps p.tables e below (s₁.setTop (entryFrame m #[.ref x, .int (Int32.ofNat i)] 2)) (T2.setTop (mkF m 8 #[.val (.ref x), .val (.int (Int32.ofNat i))] [.ref x])) := Steps.trans g2 (by
      refine XS.ifNo X2.here hexec rfl (hb hbytes d4) rfl (i0_eq_f (by decide)) ?_
      refine XS.aloadN X2.here hexec rfl (hb hbytes d7) rfl rfl ?_
      exact Steps.refl _)
    obtain ⟨T4, X4, q4, st4⟩ := X2.hget hexec hown (wk W (.fieldLink "java/lang/String" 9 "java/lang/String" "value" "[B")) hx2.2.1 (g := (mkF m 8 #[.val (.ref x), .val (.int (Int32.ofNat i))] [.ref x])) rfl (rest := []) rfl (hb hbytes d8)
    have hh4 := q4.trans hh2
    have c5 : Steps p.tables e below (s₁.setTop (entryFrame m #[.ref x, .int (Int32.ofNat i)] 2)) (T4.setTop (mkF m 12 #[.val (.ref x), .val (.int (Int32.ofNat i))] [.int (Int32.ofNat i), .ref t])) := (c3.trans (st4 _ (Steps.refl _))).trans (by
      refine XS.iloadN X4.here hexec rfl (hb hbytes d11) rfl ?_
      exact Steps.refl _)
    obtain ⟨v6, T6, X6, E6, g6⟩ := X4.callS hexec (LChA.law l t V i (lo8 (f i)) fm) hown (wks W (staticW "java/lang/String" 495 LChA.yN)) (wk W LChA.tab) (W := 0) (Nat.le_of_ble_eq_true rfl) (Nat.le_of_ble_eq_true rfl) (Nat.le_refl _) (Nat.le_refl _) (g := (mkF m 12 #[.val (.ref x), .val (.int (Int32.ofNat i))] [.int (Int32.ofNat i), .ref t])) rfl (by rw [hml]; rfl) c5 (argsL := [.ref t, .int (Int32.ofNat i)]) (rest := []) rfl rfl (by show 2 * 0 + 0 ≤ _; decide) (hb hbytes d12) (⟨rfl, hx.2.2.2.1.mv X4.warmed.alike hh4, (k2 i hi).1, s3.there X4.warmed.alike hh4, rf⟩)
    obtain ⟨rfl, q6⟩ := E6
    rw [chr8_lo8 hr.1 (k2 i hi).2] at g6
    exact ⟨T6, some (.int (f i)), _, _, _, X6, rfl, rfl, rfl, (fun h => by cases h), ⟨rfl, q6.trans hh4⟩, fun fs hl => Steps.trans g6 (X6.ireturnOut hexec hret (narrow_ch hr.1 hr.2) (Or.inr (Or.inr (Or.inr (Or.inl rfl)))) (hb hbytes d15) hl)⟩
  · exact absurd k0 (by decide)
theorem pays {l : Launch} {R : Room} {p : Program} {e : Env} {below : List Frame} {s : State} {sargs : Array Value} {len W : Nat} (x t : Addr) (V : Cell) (n : Nat) (f : Nat → Int32) (z : Int32) (fm : Value) (i : Nat) (htab : tab.before sargs s = true) (hfr : 4 ≤ R.frames) (hlo : W + 53 ≤ R.locals) :
    Back l R p e below s sargs yN len W (fun A₁ a₁ => A₁.cells + 0 ≤ R.cells ∧ A₁.slots + 0 ≤ R.slots ∧ P x t V n f z fm i a₁ A₁.U) (fun A₁ _ v₁ B₁ => E f i v₁ A₁.U B₁.U ∧ B₁.locs = A₁.locs ++ [] ∧ B₁.cells = A₁.cells + 0 ∧ B₁.slots = A₁.slots + 0) :=
  (law l x t V n f z fm i).pays htab hfr (by omega)
end ChN
end StrChars
namespace StrChars.Road
open Jvm Sem ClassFile Op Lib Jvm.Stand Jvm.Free Jvm.Free.XT
open Jvm.Lib.Cold (StaticIs)
/-- the words of String.charAt(int), the Latin-1 road alone -/
abbrev wordsChN : List Jvm.Cond := [.code ChN.yN ChN.yB 2 (some .char), .initialized ST, .fieldLink ST 9 ST "value" "[B", .fieldLink ST 38 ST "COMPACT_STRINGS" "Z", .fieldLink ST 15 ST "coder" "B", .code IsL.yN IsL.yB 1 (some .boolean), .methodLink ST 492 IsL.yN, .declares IsL.yN, .selects ST IsL.yN IsL.yN, .instanceMethod IsL.yN,
  .methodLink ST 495 LChA.yN, .static LChA.yN, .code LChA.yN LChA.yB 2 (some .char), .initialized "java/lang/StringLatin1", .methodLink "java/lang/StringLatin1" 9 JO.Str_checkIndex.yN, .static JO.Str_checkIndex.yN, .code JO.Str_checkIndex.yN JO.Str_checkIndex.yB 2 none,
  .fieldLink ST 1053 "jdk/internal/util/Preconditions" "SIOOBE_FORMATTER" "Ljava/util/function/BiFunction;", .methodLink ST 1059 JC.PreCheck.yN, .static JC.PreCheck.yN, .code JC.PreCheck.yN JC.PreCheck.yB 3 (some .int), .initialized "jdk/internal/util/Preconditions"]
theorem tabChN_of {a : Array Value} {s : State} (h : ∀ w ∈ wordsChN, w.before a s = true) : ChN.tab.before a s = true := by
  have hp : JC.PreCheck.tab.before a s = true := unparts (wk h (.code JC.PreCheck.yN JC.PreCheck.yB 3 (some .int))) (wks h (.initialized JC.PreCheck.yN.cls :: JC.PreCheck.site))
  have qk := consq hp h
  have hk : JO.Str_checkIndex.tab.before a s = true := unparts (wk qk (.code JO.Str_checkIndex.yN JO.Str_checkIndex.yB 2 none)) (wks qk (.initialized JO.Str_checkIndex.yN.cls :: JO.Str_checkIndex.site))
  have ql := consq hk h
  have hl : LChA.tab.before a s = true := unparts (wk ql (.code LChA.yN LChA.yB 2 (some .char))) (wks ql (.initialized LChA.yN.cls :: LChA.site))
  have hi : IsL.tab.before a s = true := unparts (wk h (.code IsL.yN IsL.yB 1 (some .boolean))) (wks h (.initialized IsL.yN.cls :: IsL.site))
  have q := consq hi (consq hl h)
  exact unparts (wk q (.code ChN.yN ChN.yB 2 (some .char))) (wks q (.initialized ChN.yN.cls :: ChN.site))
theorem movedChN {Z s : State} {a0 args : Array Value} (hZ : Z.Warmed39 s.vm) (hw : ∀ d ∈ wordsChN, d.before a0 Z = true) : ∀ d ∈ wordsChN, d.before args s = true := fun d hd => by
  have t : ∀ d ∈ wordsChN, (d.onTables && d.keepsFace) = true := by decide +kernel
  exact RoadKit.mv hZ (hw d hd) (t d hd)
/-- **charAt(i) OF A LATIN-1 STRING**, i < n: the char -/
theorem chN {p : Program} {l : Launch} {e : Env} {R : Room} {s : State} {args : Array Value} {below : List Frame} {len W : Nat} {Z : State} {a0 : Array Value} {h : Heap} (hZ : Z.Warmed39 s.vm) (hw : ∀ d ∈ wordsChN, d.before a0 Z = true) {kI : Nat} (wi : (Jvm.Cond.instantiable ST kI).before a0 Z = true)
    {x t : Addr} {kb : ClassId} {cs : List Int32} {N2 z : Int32} {vs : List Value} {fm : Value} {i : Nat} {j : Int32} (E : RoadKit.Exa Z h x ST) (V : RoadKit.Fld Z h x ST "value" "[B" (.ref t)) (C : RoadKit.Fld Z h x ST "coder" "B" (.int 0)) (K : RoadKit.Arv Z h t kb .byte N2 vs (.int 0)) (hc : CodA cs 0 N2 vs) (hb : ∀ c ∈ cs, ¬ c < 0 ∧ ¬ (65535 : Int32) < c)
    (S : RoadKit.Sta Z h ST "COMPACT_STRINGS" "Z" (.int z)) (hz : ¬ z = 0) (F : RoadKit.Sta Z h "jdk/internal/util/Preconditions" "SIOOBE_FORMATTER" "Ljava/util/function/BiFunction;" fm) (rf : fm.isRef = true) (l2 : cs.length ≤ 4000) (hi : i < cs.length) (hj : j = Int32.ofNat i) (hfr : 4 ≤ R.frames) (hlo : W + 53 ≤ R.locals) :
    Back l R p e below s args (⟨"java/lang/String", "charAt", "(I)C"⟩ : MethodName) len W (fun P a => a = #[.ref x, .int j] ∧ P.U.heap = h ∧ P.cells + 0 ≤ R.cells ∧ P.slots + 0 ≤ R.slots)
      (fun P _ v B => ∃ L, (v = some (.int (cs.getD i 0)) ∧ L = [] ∧ B.U.heap = h) ∧ B.locs = P.locs ++ L ∧ B.cells = P.cells + 0 ∧ B.slots = P.slots + 0) := by
  subst hj
  intro m meth c P g ig mk a X hg hsize hdg hW hn hp'
  obtain ⟨rfl, rfl, r1, r2⟩ := hp'
  have al : Z.vm.Alike P.U.vm := hZ.alike.trans X.warmed.alike
  obtain ⟨A, hx⟩ := txt_of wi al E V C K hc hb l2
  obtain ⟨v, B, X', ⟨⟨hv, hh⟩, hl, hk, hs⟩, st⟩ := ChN.pays x t A cs.length (fun j => cs.getD j 0) z fm i (tabChN_of (movedChN hZ hw)) hfr hlo m meth c P g ig mk _ X hg hsize hdg hW hn ⟨r1, r2, rfl, hx, hi, sta_is al S, hz, sta_is al F, rf⟩
  exact ⟨v, B, X', ⟨[], ⟨hv, rfl, hh⟩, hl, hk, hs⟩, st⟩
/-- what backV says of its String, as the contracts of this text ask it: cs's low bytes, coder 0 -/
theorem codOf {cs : List Int32} {n : Nat} (hn : cs.length = n) (hb : ∀ c ∈ cs, ¬ 255 < c) : CodA cs 0 (Int32.ofNat n) ((cs.map lo8).map Value.int) := Or.inl ⟨rfl, by rw [hn], by simp [List.map_map, Function.comp_def], hb⟩
end StrChars.Road
end Jvm.Pilot.@@N@@
namespace Jvm.Pilot.@@N@@
open Jvm Jvm.ClassFile Sem Op Lib Jvm.Free Jvm.Stand Jvm.LawKit Jvm.RoadKit Bundle Jvm.Pilot.@@N@@.Jvm.D
/-- what a body that writes nothing leaves -/
def QR (r : Option Value) (h0 : Heap) (n0 : Nat) (v : Option Value) (h : Heap) (L : List Loc) : Prop := v = r ∧ Fr n0 L ∧ h = h0
theorem own_chars (x : Int32) : ¬ nar .char ((x &&& (255 : Int32)).toUInt32.toUInt16.toUInt32.toInt32) < 0 ∧ ¬ (255 : Int32) < nar .char ((x &&& (255 : Int32)).toUInt32.toUInt16.toUInt32.toInt32) := by
  have t : ∀ k : Fin 256, ¬ nar .char ((Int32.ofNat k.val).toUInt32.toUInt16.toUInt32.toInt32) < 0 ∧ ¬ (255 : Int32) < nar .char ((Int32.ofNat k.val).toUInt32.toUInt16.toUInt32.toInt32) := by decide +kernel
  have h : (x &&& 255).toBitVec.toNat < 256 := by
    simp only [Int32.toBitVec_and, BitVec.toNat_and]
    exact Nat.lt_succ_of_le Nat.and_le_right
  have e : (x &&& 255) = Int32.ofNat (x &&& 255).toBitVec.toNat := by
    apply Int32.toBitVec_inj.mp
    show _ = BitVec.ofNat 32 _
    rw [BitVec.ofNat_toNat]; simp
  rw [e]
  exact t ⟨_, h⟩
theorem d32_0 : decode jdk_52_method_6_code 0 = .ok (.aload_n 0, 1) := by decide +kernel
theorem d32_1 : decode jdk_52_method_6_code 1 = .ok (.arraylength, 1) := by decide +kernel
theorem d32_2 : decode jdk_52_method_6_code 2 = .ok (.iconst 1, 1) := by decide +kernel
theorem d32_3 : decode jdk_52_method_6_code 3 = .ok (.ishr, 1) := by decide +kernel
theorem d32_4 : decode jdk_52_method_6_code 4 = .ok (.ireturn, 1) := by decide +kernel
theorem pn_32 : plainName "java/lang/StringUTF16" = true := by first | (simp [plainName, overriddenIn]; done) | decide +kernel
theorem ef_32 (m : MethodId) (x0 : Addr) : entryFrame m #[(.ref x0)] 1 = mkF m 0 #[.val (.ref x0)] [] := by first | (simp [entryFrame, mkF, argsToLocals, Value.category]; done) | rfl
set_option maxRecDepth 65536 in
set_option maxHeartbeats 40000000 in
theorem r32 (l : Launch) (Z : State) (a0 : Array Value) (hw : ∀ d ∈ tables_1, d.before a0 Z = true) (ws : List Jvm.Cond) (a1 : Addr) (cl_a1 : Cell) (z_a1 : Int32) (h0 : Heap) (n0 : Nat) (Z0 : n0 ≤ h0.size) (Ar_a1 : Arr Z h0 a1 cl_a1 .byte) (S_a1 : cl_a1.slots.size = z_a1.toNatClampNeg) (N_a1 : ¬ z_a1 < 0) :
    MetFree l (⟨"java/lang/StringUTF16", "length", "([B)I"⟩ : MethodName) (head1 (Jvm.Cond.code (⟨"java/lang/StringUTF16", "length", "([B)I"⟩ : MethodName) jdk_52_method_6_code 1 (some .int) :: ws) ({ frames := 0, cells := 0, slots := 0, locals := 0 } : Room)) (fun a U => a = #[(.ref a1)] ∧ Z.Warmed39 U.vm ∧ U.heap = h0) (fun _ _ _ _ _ => True) (fun _ U o U' => ∃ v L, o = .returned v ∧ QR (some (.int (z_a1 >>> ((1 : Int32) &&& 31)))) h0 n0 v U'.heap L ∧ FrameEnd U o U' L ({ frames := 0, cells := 0, slots := 0, locals := 0 } : Room).cells ({ frames := 0, cells := 0, slots := 0, locals := 0 } : Room).slots) := by
  refine MetFree.of_bodySF (plainFor_of_name pn_32) hisR ?_
  intro p e s m args below meth c s₁ Bd hml0 hP hK
  obtain ⟨rfl, hZ, hh⟩ := hP
  have hx := Bd.exec
  have hby := Bd.bytes
  have hml : c.maxLocals = 1 := hml0
  have hown : s.vm.findClass "java/lang/StringUTF16" = some m.cls := findClass_of_methodNamed Bd.named
  have hnm := (name_of_methodNamed Bd.named Bd.method).1
  have X0 : Stand p l e ({ frames := 0, cells := 0, slots := 0, locals := 0 } : Room) s m #[(.ref a1)] below meth c s₁ [] 0 0 := Stand.of_body Bd
  have e0 : s₁.heap = h0 := by rw [← hh, Bd.state]; rfl
  have N0 := Fr.nil n0
  have pre0 : ∀ t, Steps p.tables e below (s₁.setTop (mkF m 0 #[.val (.ref a1)] [])) t → Steps p.tables e below (s₁.setTop (entryFrame m #[(.ref a1)] 1)) t := fun t k => castTop (ef_32 m a1) k
  obtain ⟨fs, hr, hrun, hended, hW, hsame⟩ := X0.leave (v := some (.int (z_a1 >>> ((1 : Int32) &&& 31)))) (fun h => by rw [Bd.returns] at h; cases h)
  refine ⟨_, _, pre0 _ ?_, hrun, hended, _, _, rfl, ?_, ⟨_, rfl⟩, hW, hsame.mono (by decide) (by decide)⟩
  · refine XS.aloadN X0.here hx rfl (hb hby d32_0) rfl rfl ?_
    refine X0.arraylength hx (by rw [e0]; exact Ar_a1.1) (State.isArrayOf_alike hZ.alike Ar_a1.2.1) (g := (mkF m 1 #[.val (.ref a1)] [(.ref a1)])) rfl rfl (hb hby d32_1) _ ?_
    rw [len_of S_a1 N_a1]
    refine XS.iconst X0.here hx rfl (hb hby d32_2) ?_
    refine XS.ishr X0.here hx rfl (hb hby d32_3) rfl ?_
    exact retI X0 hx Bd.returns (hb hby d32_4) hr
  · show QR (some (.int (z_a1 >>> ((1 : Int32) &&& 31)))) h0 n0 _ s₁.heap _
    rw [e0]
    exact ⟨rfl, N0, rfl⟩
theorem d17_0 : decode jdk_42_method_154_code 0 = .ok (.getstatic 38, 3) := by decide +kernel
theorem d17_3 : decode jdk_42_method_154_code 3 = .ok (.ifCond .eq 14, 3) := by decide +kernel
theorem d17_6 : decode jdk_42_method_154_code 6 = .ok (.aload_n 0, 1) := by decide +kernel
theorem d17_7 : decode jdk_42_method_154_code 7 = .ok (.getfield 15, 3) := by decide +kernel
theorem d17_10 : decode jdk_42_method_154_code 10 = .ok (.ifCond .ne 7, 3) := by decide +kernel
theorem d17_17 : decode jdk_42_method_154_code 17 = .ok (.iconst 0, 1) := by decide +kernel
theorem d17_18 : decode jdk_42_method_154_code 18 = .ok (.ireturn, 1) := by decide +kernel
theorem pn_17 : plainName "java/lang/String" = true := by first | (simp [plainName, overriddenIn]; done) | decide +kernel
theorem ef_17 (m : MethodId) (x0 : Addr) : entryFrame m #[(.ref x0)] 1 = mkF m 0 #[.val (.ref x0)] [] := by first | (simp [entryFrame, mkF, argsToLocals, Value.category]; done) | rfl
theorem own_W {Z : State} {a0 : Array Value} {d : Jvm.Cond} (hw : ∀ d ∈ tables_1, d.before a0 Z = true) (i : Nat) (h : tables_1[i]? = some d) : d.before a0 Z = true := hw d (List.mem_of_getElem? h)
set_option maxRecDepth 65536 in
set_option maxHeartbeats 40000000 in
theorem r17w (l : Launch) (Z : State) (a0 : Array Value) (hw : ∀ d ∈ tables_1, d.before a0 Z = true) (ws : List Jvm.Cond) (a1 : Addr) (w2 : Int32) (w4 : Int32) (h0 : Heap) (n0 : Nat) (Z0 : n0 ≤ h0.size) (S_COMPACT_STRINGS : Sta Z h0 "java/lang/String" "COMPACT_STRINGS" "Z" (.int w2)) (F_coder_a1 : Fld Z h0 a1 "java/lang/String" "coder" "B" (.int w4)) (hc3 : ¬ (w2 = (0 : Int32))) (hc10 : ¬ (w4 = (0 : Int32))) :
    MetFree l (⟨"java/lang/String", "isLatin1", "()Z"⟩ : MethodName) (head1 (Jvm.Cond.code (⟨"java/lang/String", "isLatin1", "()Z"⟩ : MethodName) jdk_42_method_154_code 1 (some .boolean) :: ws) ({ frames := 0, cells := 0, slots := 0, locals := 0 } : Room)) (fun a U => a = #[(.ref a1)] ∧ Z.Warmed39 U.vm ∧ U.heap = h0) (fun _ _ _ _ _ => True) (fun _ U o U' => ∃ v L, o = .returned v ∧ QR (some (.int 0)) h0 n0 v U'.heap L ∧ FrameEnd U o U' L ({ frames := 0, cells := 0, slots := 0, locals := 0 } : Room).cells ({ frames := 0, cells := 0, slots := 0, locals := 0 } : Room).slots) := by
  refine MetFree.of_bodySF (plainFor_of_name pn_17) hisR ?_
  intro p e s m args below meth c s₁ Bd hml0 hP hK
  obtain ⟨rfl, hZ, hh⟩ := hP
  have hx := Bd.exec
  have hby := Bd.bytes
  have hml : c.maxLocals = 1 := hml0
  have hown : s.vm.findClass "java/lang/String" = some m.cls := findClass_of_methodNamed Bd.named
  have hnm := (name_of_methodNamed Bd.named Bd.method).1
  have X0 : Stand p l e ({ frames := 0, cells := 0, slots := 0, locals := 0 } : Room) s m #[(.ref a1)] below meth c s₁ [] 0 0 := Stand.of_body Bd
  have e0 : s₁.heap = h0 := by rw [← hh, Bd.state]; rfl
  have N0 := Fr.nil n0
  have pre0 : ∀ t, Steps p.tables e below (s₁.setTop (mkF m 0 #[.val (.ref a1)] [])) t → Steps p.tables e below (s₁.setTop (entryFrame m #[(.ref a1)] 1)) t := fun t k => castTop (ef_17 m a1) k
  obtain ⟨T3, X3, e3, st3⟩ := getS2 X0 hx hZ hown (host := "") (Or.inl (own_W hw 18 rfl)) Via.refl e0 S_COMPACT_STRINGS (g := (mkF m 0 #[.val (.ref a1)] [])) rfl (hb hby d17_0)
  obtain ⟨T5, X5, e5, st5⟩ := getF X3 hx hZ hown (host := "") (Or.inl (own_W hw 30 rfl)) Via.refl e3 F_coder_a1 (g := (mkF m 7 #[.val (.ref a1)] [(.ref a1)])) rfl rfl (hb hby d17_7)
  obtain ⟨fs, hr, hrun, hended, hW, hsame⟩ := X5.leave (v := some (.int 0)) (fun h => by rw [Bd.returns] at h; cases h)
  refine ⟨_, _, pre0 _ ?_, hrun, hended, _, _, rfl, ?_, ⟨_, rfl⟩, hW, hsame.mono (by decide) (by decide)⟩
  · refine st3 _ ?_
    refine XS.ifNo X3.here hx rfl (hb hby d17_3) rfl ((if0 _ _).trans (feq hc3).1) ?_
    refine XS.aloadN X3.here hx rfl (hb hby d17_6) rfl rfl ?_
    refine st5 _ ?_
    refine XS.ifYes X5.here hx rfl (pc0 := 10) (pc' := 17) rfl (hb hby d17_10) rfl ((if0 _ _).trans (feq hc10).2) (by decide) (by decide) ?_
    refine XS.iconst X5.here hx rfl (hb hby d17_17) ?_
    exact retN X5 hx (t := .boolean) Bd.returns (by simp) (hb hby d17_18) hr
  · show QR (some (.int 0)) h0 n0 _ T5.heap _
    rw [e5]
    exact ⟨rfl, N0, rfl⟩
theorem d20_0 : decode jdk_41_method_11_code 0 = .ok (.iload_n 0, 1) := by decide +kernel
theorem d20_1 : decode jdk_41_method_11_code 1 = .ok (.ifCond .lt 8, 3) := by decide +kernel
theorem d20_4 : decode jdk_41_method_11_code 4 = .ok (.iload_n 0, 1) := by decide +kernel
theorem d20_5 : decode jdk_41_method_11_code 5 = .ok (.iload_n 1, 1) := by decide +kernel
theorem d20_6 : decode jdk_41_method_11_code 6 = .ok (.if_icmp .lt 10, 3) := by decide +kernel
theorem d20_16 : decode jdk_41_method_11_code 16 = .ok (.iload_n 0, 1) := by decide +kernel
theorem d20_17 : decode jdk_41_method_11_code 17 = .ok (.ireturn, 1) := by decide +kernel
theorem pn_20 : plainName "jdk/internal/util/Preconditions" = true := by first | (simp [plainName, overriddenIn]; done) | decide +kernel
theorem ef_20 (m : MethodId) (x0 : Int32) (x1 : Int32) (x2 : Addr) : entryFrame m #[(.int x0), (.int x1), (.ref x2)] 3 = mkF m 0 #[.val (.int x0), .val (.int x1), .val (.ref x2)] [] := by first | (simp [entryFrame, mkF, argsToLocals, Value.category]; done) | rfl
set_option maxRecDepth 65536 in
set_option maxHeartbeats 40000000 in
theorem r20 (l : Launch) (Z : State) (a0 : Array Value) (hw : ∀ d ∈ tables_1, d.before a0 Z = true) (ws : List Jvm.Cond) (p1 : Int32) (p2 : Int32) (a3 : Addr) (h0 : Heap) (n0 : Nat) (Z0 : n0 ≤ h0.size) (hc1 : ¬ (p1 < (0 : Int32))) (hc6 : p1 < p2) :
    MetFree l (⟨"jdk/internal/util/Preconditions", "checkIndex", "(IILjava/util/function/BiFunction;)I"⟩ : MethodName) (head1 (Jvm.Cond.code (⟨"jdk/internal/util/Preconditions", "checkIndex", "(IILjava/util/function/BiFunction;)I"⟩ : MethodName) jdk_41_method_11_code 3 (some .int) :: ws) ({ frames := 0, cells := 0, slots := 0, locals := 0 } : Room)) (fun a U => a = #[(.int p1), (.int p2), (.ref a3)] ∧ Z.Warmed39 U.vm ∧ U.heap = h0) (fun _ _ _ _ _ => True) (fun _ U o U' => ∃ v L, o = .returned v ∧ QR (some (.int p1)) h0 n0 v U'.heap L ∧ FrameEnd U o U' L ({ frames := 0, cells := 0, slots := 0, locals := 0 } : Room).cells ({ frames := 0, cells := 0, slots := 0, locals := 0 } : Room).slots) := by
  refine MetFree.of_bodySF (plainFor_of_name pn_20) hisR ?_
  intro p e s m args below meth c s₁ Bd hml0 hP hK
  obtain ⟨rfl, hZ, hh⟩ := hP
  have hx := Bd.exec
  have hby := Bd.bytes
  have hml : c.maxLocals = 3 := hml0
  have hown : s.vm.findClass "jdk/internal/util/Preconditions" = some m.cls := findClass_of_methodNamed Bd.named
  have hnm := (name_of_methodNamed Bd.named Bd.method).1
  have X0 : Stand p l e ({ frames := 0, cells := 0, slots := 0, locals := 0 } : Room) s m #[(.int p1), (.int p2), (.ref a3)] below meth c s₁ [] 0 0 := Stand.of_body Bd
  have e0 : s₁.heap = h0 := by rw [← hh, Bd.state]; rfl
  have N0 := Fr.nil n0
  have pre0 : ∀ t, Steps p.tables e below (s₁.setTop (mkF m 0 #[.val (.int p1), .val (.int p2), .val (.ref a3)] [])) t → Steps p.tables e below (s₁.setTop (entryFrame m #[(.int p1), (.int p2), (.ref a3)] 3)) t := fun t k => castTop (ef_20 m p1 p2 a3) k
  obtain ⟨fs, hr, hrun, hended, hW, hsame⟩ := X0.leave (v := some (.int p1)) (fun h => by rw [Bd.returns] at h; cases h)
  refine ⟨_, _, pre0 _ ?_, hrun, hended, _, _, rfl, ?_, ⟨_, rfl⟩, hW, hsame.mono (by decide) (by decide)⟩
  · refine XS.iloadN X0.here hx rfl (hb hby d20_0) rfl ?_
    refine XS.ifNo X0.here hx rfl (hb hby d20_1) rfl ((if0 _ _).trans (flt hc1).1) ?_
    refine XS.iloadN X0.here hx rfl (hb hby d20_4) rfl ?_
    refine XS.iloadN X0.here hx rfl (hb hby d20_5) rfl ?_
    refine XS.icmpYes X0.here hx rfl (pc0 := 6) (pc' := 16) rfl (hb hby d20_6) rfl (tlt hc6).1 (by decide) (by decide) ?_
    refine XS.iloadN X0.here hx rfl (hb hby d20_16) rfl ?_
    exact retI X0 hx Bd.returns (hb hby d20_17) hr
  · show QR (some (.int p1)) h0 n0 _ s₁.heap _
    rw [e0]
    exact ⟨rfl, N0, rfl⟩
theorem ef_20n (m : MethodId) (x0 : Int32) (x1 : Int32) : entryFrame m #[(.int x0), (.int x1), .null] 3 = mkF m 0 #[.val (.int x0), .val (.int x1), .val .null] [] := by first | (simp [entryFrame, mkF, argsToLocals, Value.category]; done) | rfl
set_option maxRecDepth 65536 in
set_option maxHeartbeats 40000000 in
theorem r20n (l : Launch) (Z : State) (a0 : Array Value) (hw : ∀ d ∈ tables_1, d.before a0 Z = true) (ws : List Jvm.Cond) (p1 : Int32) (p2 : Int32) (h0 : Heap) (n0 : Nat) (Z0 : n0 ≤ h0.size) (hc1 : ¬ (p1 < (0 : Int32))) (hc6 : p1 < p2) :
    MetFree l (⟨"jdk/internal/util/Preconditions", "checkIndex", "(IILjava/util/function/BiFunction;)I"⟩ : MethodName) (head1 (Jvm.Cond.code (⟨"jdk/internal/util/Preconditions", "checkIndex", "(IILjava/util/function/BiFunction;)I"⟩ : MethodName) jdk_41_method_11_code 3 (some .int) :: ws) ({ frames := 0, cells := 0, slots := 0, locals := 0 } : Room)) (fun a U => a = #[(.int p1), (.int p2), .null] ∧ Z.Warmed39 U.vm ∧ U.heap = h0) (fun _ _ _ _ _ => True) (fun _ U o U' => ∃ v L, o = .returned v ∧ QR (some (.int p1)) h0 n0 v U'.heap L ∧ FrameEnd U o U' L ({ frames := 0, cells := 0, slots := 0, locals := 0 } : Room).cells ({ frames := 0, cells := 0, slots := 0, locals := 0 } : Room).slots) := by
  refine MetFree.of_bodySF (plainFor_of_name pn_20) hisR ?_
  intro p e s m args below meth c s₁ Bd hml0 hP hK
  obtain ⟨rfl, hZ, hh⟩ := hP
  have hx := Bd.exec
  have hby := Bd.bytes
  have hml : c.maxLocals = 3 := hml0
  have hown : s.vm.findClass "jdk/internal/util/Preconditions" = some m.cls := findClass_of_methodNamed Bd.named
  have hnm := (name_of_methodNamed Bd.named Bd.method).1
  have X0 : Stand p l e ({ frames := 0, cells := 0, slots := 0, locals := 0 } : Room) s m #[(.int p1), (.int p2), .null] below meth c s₁ [] 0 0 := Stand.of_body Bd
  have e0 : s₁.heap = h0 := by rw [← hh, Bd.state]; rfl
  have N0 := Fr.nil n0
  have pre0 : ∀ t, Steps p.tables e below (s₁.setTop (mkF m 0 #[.val (.int p1), .val (.int p2), .val .null] [])) t → Steps p.tables e below (s₁.setTop (entryFrame m #[(.int p1), (.int p2), .null] 3)) t := fun t k => castTop (ef_20n m p1 p2) k
  obtain ⟨fs, hr, hrun, hended, hW, hsame⟩ := X0.leave (v := some (.int p1)) (fun h => by rw [Bd.returns] at h; cases h)
  refine ⟨_, _, pre0 _ ?_, hrun, hended, _, _, rfl, ?_, ⟨_, rfl⟩, hW, hsame.mono (by decide) (by decide)⟩
  · refine XS.iloadN X0.here hx rfl (hb hby d20_0) rfl ?_
    refine XS.ifNo X0.here hx rfl (hb hby d20_1) rfl ((if0 _ _).trans (flt hc1).1) ?_
    refine XS.iloadN X0.here hx rfl (hb hby d20_4) rfl ?_
    refine XS.iloadN X0.here hx rfl (hb hby d20_5) rfl ?_
    refine XS.icmpYes X0.here hx rfl (pc0 := 6) (pc' := 16) rfl (hb hby d20_6) rfl (tlt hc6).1 (by decide) (by decide) ?_
    refine XS.iloadN X0.here hx rfl (hb hby d20_16) rfl ?_
    exact retI X0 hx Bd.returns (hb hby d20_17) hr
  · show QR (some (.int p1)) h0 n0 _ s₁.heap _
    rw [e0]
    exact ⟨rfl, N0, rfl⟩
theorem d19_0 : decode jdk_42_method_155_code 0 = .ok (.iload_n 0, 1) := by decide +kernel
theorem d19_1 : decode jdk_42_method_155_code 1 = .ok (.iload_n 1, 1) := by decide +kernel
theorem d19_2 : decode jdk_42_method_155_code 2 = .ok (.getstatic 1053, 3) := by decide +kernel
theorem d19_5 : decode jdk_42_method_155_code 5 = .ok (.invokestatic 1059, 3) := by decide +kernel
theorem d19_8 : decode jdk_42_method_155_code 8 = .ok (.pop, 1) := by decide +kernel
theorem d19_9 : decode jdk_42_method_155_code 9 = .ok (.return_, 1) := by decide +kernel
theorem pn_19 : plainName "java/lang/String" = true := by first | (simp [plainName, overriddenIn]; done) | decide +kernel
theorem pd_19_15 : parseMethodDescriptor "(IILjava/util/function/BiFunction;)I" = some ⟨[.int, .int, (.object "java/util/function/BiFunction")], some .int⟩ := by decide +kernel
theorem ef_19 (m : MethodId) (x0 : Int32) (x1 : Int32) : entryFrame m #[(.int x0), (.int x1)] 2 = mkF m 0 #[.val (.int x0), .val (.int x1)] [] := by first | (simp [entryFrame, mkF, argsToLocals, Value.category]; done) | rfl
set_option maxRecDepth 65536 in
set_option maxHeartbeats 40000000 in
theorem r19 (l : Launch) (Z : State) (a0 : Array Value) (hw : ∀ d ∈ tables_1, d.before a0 Z = true) (ws : List Jvm.Cond) (p1 : Int32) (p2 : Int32) (w3 : Addr)  (h0 : Heap) (n0 : Nat) (Z0 : n0 ≤ h0.size) (S_SIOOBE_FORMATTER : Sta Z h0 "jdk/internal/util/Preconditions" "SIOOBE_FORMATTER" "Ljava/util/function/BiFunction;" (.ref w3)) (hc1 : ¬ (p1 < (0 : Int32))) (hc6 : p1 < p2) :
    MetFree l (⟨"java/lang/String", "checkIndex", "(II)V"⟩ : MethodName) (head1 (Jvm.Cond.code (⟨"java/lang/String", "checkIndex", "(II)V"⟩ : MethodName) jdk_42_method_155_code 2 none :: ws) ({ frames := 1, cells := 0, slots := 0, locals := 14 } : Room)) (fun a U => a = #[(.int p1), (.int p2)] ∧ Z.Warmed39 U.vm ∧ U.heap = h0) (fun _ _ _ _ _ => True) (fun _ U o U' => ∃ v L, o = .returned v ∧ QR (none) h0 n0 v U'.heap L ∧ FrameEnd U o U' L ({ frames := 1, cells := 0, slots := 0, locals := 14 } : Room).cells ({ frames := 1, cells := 0, slots := 0, locals := 14 } : Room).slots) := by
  refine MetFree.of_bodySF (plainFor_of_name pn_19) hisR ?_
  intro p e s m args below meth c s₁ Bd hml0 hP hK
  obtain ⟨rfl, hZ, hh⟩ := hP
  have hx := Bd.exec
  have hby := Bd.bytes
  have hml : c.maxLocals = 2 := hml0
  have hown : s.vm.findClass "java/lang/String" = some m.cls := findClass_of_methodNamed Bd.named
  have hnm := (name_of_methodNamed Bd.named Bd.method).1
  have X0 : Stand p l e ({ frames := 1, cells := 0, slots := 0, locals := 14 } : Room) s m #[(.int p1), (.int p2)] below meth c s₁ [] 0 0 := Stand.of_body Bd
  have e0 : s₁.heap = h0 := by rw [← hh, Bd.state]; rfl
  have N0 := Fr.nil n0
  have pre0 : ∀ t, Steps p.tables e below (s₁.setTop (mkF m 0 #[.val (.int p1), .val (.int p2)] [])) t → Steps p.tables e below (s₁.setTop (entryFrame m #[(.int p1), (.int p2)] 2)) t := fun t k => castTop (ef_19 m p1 p2) k
  obtain ⟨T4, X4, e4, st4⟩ := getS2 X0 hx hZ hown (host := "") (Or.inl (own_W hw 86 rfl)) Via.refl e0 S_SIOOBE_FORMATTER (g := (mkF m 2 #[.val (.int p1), .val (.int p2)] [(.int p2), (.int p1)])) rfl (hb hby d19_2)
  obtain ⟨_, _, ⟨T5, L5, k5, n5⟩, -, X5, ⟨Lc5, hQ5, l5, y5, z5⟩, st5⟩ := Jvm.LawKit.callS X4 hx (y := (⟨"jdk/internal/util/Preconditions", "checkIndex", "(IILjava/util/function/BiFunction;)I"⟩ : MethodName)) hown (mvT hZ (own_W hw 88 rfl)) (mvT hZ (own_W hw 89 rfl)) (mvT hZ (own_W hw 87 rfl)) (mvT hZ (own_W hw 90 rfl)) (by decide) (backOf (W := 0) (r20 l Z a0 hw [] p1 p2 w3  h0 n0 Z0 hc1 hc6) hZ (own_W hw 90 rfl) (own_W hw 87 rfl) (by decide) (by decide)) (g := (mkF m 5 #[.val (.int p1), .val (.int p2)] [(.ref w3), (.int p2), (.int p1)])) rfl (by rw [hml]; rfl) (argsL := [(.int p1), (.int p2), (.ref w3)]) (rest := []) (lenOf pd_19_15 rfl) rfl (by show 2 * 0 + _ ≤ _; exact Nat.le_of_eq rfl) (hb hby d19_5) (fun _ _ => ⟨rfl, e4, (by decide : 0 + 0 ≤ _), (by decide : 0 + 0 ≤ _)⟩)
  dsimp only [Pt.U, Pt.locs, Pt.cells, Pt.slots] at X5 l5 y5 z5 st5 hQ5
  subst l5 y5 z5
  obtain ⟨rfl, N5q, e5⟩ := hQ5
  have N5 := Fr.app N0 N5q
  obtain ⟨fs, hr, hrun, hended, hW, hsame⟩ := X5.leave (v := none) (fun _ => rfl)
  refine ⟨_, _, pre0 _ ?_, hrun, hended, _, _, rfl, ?_, ⟨_, rfl⟩, hW, hsame.mono (by decide) (by decide)⟩
  · refine XS.iloadN X0.here hx rfl (hb hby d19_0) rfl ?_
    refine XS.iloadN X0.here hx rfl (hb hby d19_1) rfl ?_
    refine st4 _ ?_
    refine st5 _ ?_
    refine XS.pop X5.here hx rfl (hb hby d19_8) rfl rfl ?_
    exact X5.returnOut hx Bd.returns (hb hby d19_9) hr
  · show QR (none) h0 n0 _ T5.heap _
    rw [e5]
    exact ⟨rfl, N5, rfl⟩
set_option maxRecDepth 65536 in
set_option maxHeartbeats 40000000 in
theorem r19n (l : Launch) (Z : State) (a0 : Array Value) (hw : ∀ d ∈ tables_1, d.before a0 Z = true) (ws : List Jvm.Cond) (p1 : Int32) (p2 : Int32)  (h0 : Heap) (n0 : Nat) (Z0 : n0 ≤ h0.size) (S_SIOOBE_FORMATTER : Sta Z h0 "jdk/internal/util/Preconditions" "SIOOBE_FORMATTER" "Ljava/util/function/BiFunction;" .null) (hc1 : ¬ (p1 < (0 : Int32))) (hc6 : p1 < p2) :
    MetFree l (⟨"java/lang/String", "checkIndex", "(II)V"⟩ : MethodName) (head1 (Jvm.Cond.code (⟨"java/lang/String", "checkIndex", "(II)V"⟩ : MethodName) jdk_42_method_155_code 2 none :: ws) ({ frames := 1, cells := 0, slots := 0, locals := 14 } : Room)) (fun a U => a = #[(.int p1), (.int p2)] ∧ Z.Warmed39 U.vm ∧ U.heap = h0) (fun _ _ _ _ _ => True) (fun _ U o U' => ∃ v L, o = .returned v ∧ QR (none) h0 n0 v U'.heap L ∧ FrameEnd U o U' L ({ frames := 1, cells := 0, slots := 0, locals := 14 } : Room).cells ({ frames := 1, cells := 0, slots := 0, locals := 14 } : Room).slots) := by
  refine MetFree.of_bodySF (plainFor_of_name pn_19) hisR ?_
  intro p e s m args below meth c s₁ Bd hml0 hP hK
  obtain ⟨rfl, hZ, hh⟩ := hP
  have hx := Bd.exec
  have hby := Bd.bytes
  have hml : c.maxLocals = 2 := hml0
  have hown : s.vm.findClass "java/lang/String" = some m.cls := findClass_of_methodNamed Bd.named
  have hnm := (name_of_methodNamed Bd.named Bd.method).1
  have X0 : Stand p l e ({ frames := 1, cells := 0, slots := 0, locals := 14 } : Room) s m #[(.int p1), (.int p2)] below meth c s₁ [] 0 0 := Stand.of_body Bd
  have e0 : s₁.heap = h0 := by rw [← hh, Bd.state]; rfl
  have N0 := Fr.nil n0
  have pre0 : ∀ t, Steps p.tables e below (s₁.setTop (mkF m 0 #[.val (.int p1), .val (.int p2)] [])) t → Steps p.tables e below (s₁.setTop (entryFrame m #[(.int p1), (.int p2)] 2)) t := fun t k => castTop (ef_19 m p1 p2) k
  obtain ⟨T4, X4, e4, st4⟩ := getS2 X0 hx hZ hown (host := "") (Or.inl (own_W hw 86 rfl)) Via.refl e0 S_SIOOBE_FORMATTER (g := (mkF m 2 #[.val (.int p1), .val (.int p2)] [(.int p2), (.int p1)])) rfl (hb hby d19_2)
  obtain ⟨_, _, ⟨T5, L5, k5, n5⟩, -, X5, ⟨Lc5, hQ5, l5, y5, z5⟩, st5⟩ := Jvm.LawKit.callS X4 hx (y := (⟨"jdk/internal/util/Preconditions", "checkIndex", "(IILjava/util/function/BiFunction;)I"⟩ : MethodName)) hown (mvT hZ (own_W hw 88 rfl)) (mvT hZ (own_W hw 89 rfl)) (mvT hZ (own_W hw 87 rfl)) (mvT hZ (own_W hw 90 rfl)) (by decide) (backOf (W := 0) (r20n l Z a0 hw [] p1 p2  h0 n0 Z0 hc1 hc6) hZ (own_W hw 90 rfl) (own_W hw 87 rfl) (by decide) (by decide)) (g := (mkF m 5 #[.val (.int p1), .val (.int p2)] [.null, (.int p2), (.int p1)])) rfl (by rw [hml]; rfl) (argsL := [(.int p1), (.int p2), .null]) (rest := []) (lenOf pd_19_15 rfl) rfl (by show 2 * 0 + _ ≤ _; exact Nat.le_of_eq rfl) (hb hby d19_5) (fun _ _ => ⟨rfl, e4, (by decide : 0 + 0 ≤ _), (by decide : 0 + 0 ≤ _)⟩)
  dsimp only [Pt.U, Pt.locs, Pt.cells, Pt.slots] at X5 l5 y5 z5 st5 hQ5
  subst l5 y5 z5
  obtain ⟨rfl, N5q, e5⟩ := hQ5
  have N5 := Fr.app N0 N5q
  obtain ⟨fs, hr, hrun, hended, hW, hsame⟩ := X5.leave (v := none) (fun _ => rfl)
  refine ⟨_, _, pre0 _ ?_, hrun, hended, _, _, rfl, ?_, ⟨_, rfl⟩, hW, hsame.mono (by decide) (by decide)⟩
  · refine XS.iloadN X0.here hx rfl (hb hby d19_0) rfl ?_
    refine XS.iloadN X0.here hx rfl (hb hby d19_1) rfl ?_
    refine st4 _ ?_
    refine st5 _ ?_
    refine XS.pop X5.here hx rfl (hb hby d19_8) rfl rfl ?_
    exact X5.returnOut hx Bd.returns (hb hby d19_9) hr
  · show QR (none) h0 n0 _ T5.heap _
    rw [e5]
    exact ⟨rfl, N5, rfl⟩
theorem r19v (l : Launch) (Z : State) (a0 : Array Value) (hw : ∀ d ∈ tables_1, d.before a0 Z = true) (ws : List Jvm.Cond) (p1 : Int32) (p2 : Int32) (fm : Value) (h0 : Heap) (n0 : Nat) (Z0 : n0 ≤ h0.size) (S_F : Sta Z h0 "jdk/internal/util/Preconditions" "SIOOBE_FORMATTER" "Ljava/util/function/BiFunction;" fm) (rf : fm.isRef = true) (hc1 : ¬ (p1 < (0 : Int32))) (hc6 : p1 < p2) :
    MetFree l (⟨"java/lang/String", "checkIndex", "(II)V"⟩ : MethodName) (head1 (Jvm.Cond.code (⟨"java/lang/String", "checkIndex", "(II)V"⟩ : MethodName) jdk_42_method_155_code 2 none :: ws) ({ frames := 1, cells := 0, slots := 0, locals := 14 } : Room)) (fun a U => a = #[(.int p1), (.int p2)] ∧ Z.Warmed39 U.vm ∧ U.heap = h0) (fun _ _ _ _ _ => True) (fun _ U o U' => ∃ v L, o = .returned v ∧ QR (none) h0 n0 v U'.heap L ∧ FrameEnd U o U' L ({ frames := 1, cells := 0, slots := 0, locals := 14 } : Room).cells ({ frames := 1, cells := 0, slots := 0, locals := 14 } : Room).slots) := by
  cases fm with
  | null => exact r19n l Z a0 hw ws p1 p2 h0 n0 Z0 S_F hc1 hc6
  | ref w => exact r19 l Z a0 hw ws p1 p2 w h0 n0 Z0 S_F hc1 hc6
  | _ => cases rf
theorem d31_0 : decode jdk_52_method_91_code 0 = .ok (.iload_n 0, 1) := by decide +kernel
theorem d31_1 : decode jdk_52_method_91_code 1 = .ok (.aload_n 1, 1) := by decide +kernel
theorem d31_2 : decode jdk_52_method_91_code 2 = .ok (.invokestatic 48, 3) := by decide +kernel
theorem d31_5 : decode jdk_52_method_91_code 5 = .ok (.invokestatic 414, 3) := by decide +kernel
theorem d31_8 : decode jdk_52_method_91_code 8 = .ok (.return_, 1) := by decide +kernel
theorem pn_31 : plainName "java/lang/StringUTF16" = true := by first | (simp [plainName, overriddenIn]; done) | decide +kernel
theorem pd_31_22 : parseMethodDescriptor "([B)I" = some ⟨[(.array .byte)], some .int⟩ := by decide +kernel
theorem pd_31_14 : parseMethodDescriptor "(II)V" = some ⟨[.int, .int], none⟩ := by decide +kernel
theorem ef_31 (m : MethodId) (x0 : Int32) (x1 : Addr) : entryFrame m #[(.int x0), (.ref x1)] 2 = mkF m 0 #[.val (.int x0), .val (.ref x1)] [] := by first | (simp [entryFrame, mkF, argsToLocals, Value.category]; done) | rfl
set_option maxRecDepth 65536 in
set_option maxHeartbeats 40000000 in
theorem r31 (l : Launch) (Z : State) (a0 : Array Value) (hw : ∀ d ∈ tables_1, d.before a0 Z = true) (ws : List Jvm.Cond) (p1 : Int32) (a2 : Addr) (cl_a2 : Cell) (z_a2 : Int32) (fm : Value) (h0 : Heap) (n0 : Nat) (Z0 : n0 ≤ h0.size) (Ar_a2 : Arr Z h0 a2 cl_a2 .byte) (S_a2 : cl_a2.slots.size = z_a2.toNatClampNeg) (N_a2 : ¬ z_a2 < 0) (S_F : Sta Z h0 "jdk/internal/util/Preconditions" "SIOOBE_FORMATTER" "Ljava/util/function/BiFunction;" fm) (rf : fm.isRef = true) (hc1 : ¬ (p1 < (0 : Int32))) (hc6 : p1 < (z_a2 >>> ((1 : Int32) &&& 31))) :
    MetFree l (⟨"java/lang/StringUTF16", "checkIndex", "(I[B)V"⟩ : MethodName) (head1 (Jvm.Cond.code (⟨"java/lang/StringUTF16", "checkIndex", "(I[B)V"⟩ : MethodName) jdk_52_method_91_code 2 none :: ws) ({ frames := 2, cells := 0, slots := 0, locals := 27 } : Room)) (fun a U => a = #[(.int p1), (.ref a2)] ∧ Z.Warmed39 U.vm ∧ U.heap = h0) (fun _ _ _ _ _ => True) (fun _ U o U' => ∃ v L, o = .returned v ∧ QR (none) h0 n0 v U'.heap L ∧ FrameEnd U o U' L ({ frames := 2, cells := 0, slots := 0, locals := 27 } : Room).cells ({ frames := 2, cells := 0, slots := 0, locals := 27 } : Room).slots) := by
  refine MetFree.of_bodySF (plainFor_of_name pn_31) hisR ?_
  intro p e s m args below meth c s₁ Bd hml0 hP hK
  obtain ⟨rfl, hZ, hh⟩ := hP
  have hx := Bd.exec
  have hby := Bd.bytes
  have hml : c.maxLocals = 2 := hml0
  have hown : s.vm.findClass "java/lang/StringUTF16" = some m.cls := findClass_of_methodNamed Bd.named
  have hnm := (name_of_methodNamed Bd.named Bd.method).1
  have X0 : Stand p l e ({ frames := 2, cells := 0, slots := 0, locals := 27 } : Room) s m #[(.int p1), (.ref a2)] below meth c s₁ [] 0 0 := Stand.of_body Bd
  have e0 : s₁.heap = h0 := by rw [← hh, Bd.state]; rfl
  have N0 := Fr.nil n0
  have pre0 : ∀ t, Steps p.tables e below (s₁.setTop (mkF m 0 #[.val (.int p1), .val (.ref a2)] [])) t → Steps p.tables e below (s₁.setTop (entryFrame m #[(.int p1), (.ref a2)] 2)) t := fun t k => castTop (ef_31 m p1 a2) k
  obtain ⟨_, _, ⟨T3, L3, k3, n3⟩, -, X3, ⟨Lc3, hQ3, l3, y3, z3⟩, st3⟩ := Jvm.LawKit.callS X0 hx (y := (⟨"java/lang/StringUTF16", "length", "([B)I"⟩ : MethodName)) hown (mvT hZ (own_W hw 153 rfl)) (mvT hZ (own_W hw 154 rfl)) (mvT hZ (own_W hw 21 rfl)) (mvT hZ (own_W hw 155 rfl)) (by decide) (backOf (W := 1) (r32 l Z a0 hw [] a2 cl_a2 z_a2 h0 n0 Z0 Ar_a2 S_a2 N_a2) hZ (own_W hw 155 rfl) (own_W hw 21 rfl) (by decide) (by decide)) (g := (mkF m 2 #[.val (.int p1), .val (.ref a2)] [(.ref a2), (.int p1)])) rfl (by rw [hml]; rfl) (argsL := [(.ref a2)]) (rest := [(.int p1)]) (lenOf pd_31_22 rfl) rfl (by show 2 * 0 + _ ≤ _; exact Nat.le_of_eq rfl) (hb hby d31_2) (fun _ _ => ⟨rfl, e0, (by decide : 0 + 0 ≤ _), (by decide : 0 + 0 ≤ _)⟩)
  dsimp only [Pt.U, Pt.locs, Pt.cells, Pt.slots] at X3 l3 y3 z3 st3 hQ3
  subst l3 y3 z3
  obtain ⟨rfl, N3q, e3⟩ := hQ3
  have N3 := Fr.app N0 N3q
  obtain ⟨_, _, ⟨T4, L4, k4, n4⟩, -, X4, ⟨Lc4, hQ4, l4, y4, z4⟩, st4⟩ := Jvm.LawKit.callS X3 hx (y := (⟨"java/lang/String", "checkIndex", "(II)V"⟩ : MethodName)) hown (mvT hZ (own_W hw 156 rfl)) (mvT hZ (own_W hw 84 rfl)) (mvT hZ (own_W hw 7 rfl)) (mvT hZ (own_W hw 85 rfl)) (by decide) (backOf (W := 0) (r19v l Z a0 hw [] p1 (z_a2 >>> ((1 : Int32) &&& 31)) fm h0 n0 Z0 S_F rf hc1 hc6) hZ (own_W hw 85 rfl) (own_W hw 7 rfl) (by decide) (by decide)) (g := (mkF m 5 #[.val (.int p1), .val (.ref a2)] [(.int (z_a2 >>> ((1 : Int32) &&& 31))), (.int p1)])) rfl (by rw [hml]; rfl) (argsL := [(.int p1), (.int (z_a2 >>> ((1 : Int32) &&& 31)))]) (rest := []) (lenOf pd_31_14 rfl) rfl (by show 2 * 0 + _ ≤ _; exact Nat.le_of_eq rfl) (hb hby d31_5) (fun _ _ => ⟨rfl, e3, (by decide : 0 + 0 ≤ _), (by decide : 0 + 0 ≤ _)⟩)
  dsimp only [Pt.U, Pt.locs, Pt.cells, Pt.slots] at X4 l4 y4 z4 st4 hQ4
  subst l4 y4 z4
  obtain ⟨rfl, N4q, e4⟩ := hQ4
  have N4 := Fr.app N3 N4q
  obtain ⟨fs, hr, hrun, hended, hW, hsame⟩ := X4.leave (v := none) (fun _ => rfl)
  refine ⟨_, _, pre0 _ ?_, hrun, hended, _, _, rfl, ?_, ⟨_, rfl⟩, hW, hsame.mono (by decide) (by decide)⟩
  · refine XS.iloadN X0.here hx rfl (hb hby d31_0) rfl ?_
    refine XS.aloadN X0.here hx rfl (hb hby d31_1) rfl rfl ?_
    refine st3 _ ?_
    refine st4 _ ?_
    exact X4.returnOut hx Bd.returns (hb hby d31_8) hr
  · show QR (none) h0 n0 _ T4.heap _
    rw [e4]
    exact ⟨rfl, N4, rfl⟩
theorem d29_0 : decode jdk_52_method_5_code 0 = .ok (.getstatic 44, 3) := by decide +kernel
theorem d29_3 : decode jdk_52_method_5_code 3 = .ok (.ifCond .ne 25, 3) := by decide +kernel
theorem d29_28 : decode jdk_52_method_5_code 28 = .ok (.iload_n 1, 1) := by decide +kernel
theorem d29_29 : decode jdk_52_method_5_code 29 = .ok (.iconst 1, 1) := by decide +kernel
theorem d29_30 : decode jdk_52_method_5_code 30 = .ok (.ishl, 1) := by decide +kernel
theorem d29_31 : decode jdk_52_method_5_code 31 = .ok (.istore_n 1, 1) := by decide +kernel
theorem d29_32 : decode jdk_52_method_5_code 32 = .ok (.aload_n 0, 1) := by decide +kernel
theorem d29_33 : decode jdk_52_method_5_code 33 = .ok (.iload_n 1, 1) := by decide +kernel
theorem d29_34 : decode jdk_52_method_5_code 34 = .ok (.iinc 1 1, 3) := by decide +kernel
theorem d29_37 : decode jdk_52_method_5_code 37 = .ok (.baload, 1) := by decide +kernel
theorem d29_38 : decode jdk_52_method_5_code 38 = .ok (.sipush 255, 3) := by decide +kernel
theorem d29_41 : decode jdk_52_method_5_code 41 = .ok (.iand, 1) := by decide +kernel
theorem d29_42 : decode jdk_52_method_5_code 42 = .ok (.getstatic 59, 3) := by decide +kernel
theorem d29_45 : decode jdk_52_method_5_code 45 = .ok (.ishl, 1) := by decide +kernel
theorem d29_46 : decode jdk_52_method_5_code 46 = .ok (.aload_n 0, 1) := by decide +kernel
theorem d29_47 : decode jdk_52_method_5_code 47 = .ok (.iload_n 1, 1) := by decide +kernel
theorem d29_48 : decode jdk_52_method_5_code 48 = .ok (.baload, 1) := by decide +kernel
theorem d29_49 : decode jdk_52_method_5_code 49 = .ok (.sipush 255, 3) := by decide +kernel
theorem d29_52 : decode jdk_52_method_5_code 52 = .ok (.iand, 1) := by decide +kernel
theorem d29_53 : decode jdk_52_method_5_code 53 = .ok (.getstatic 63, 3) := by decide +kernel
theorem d29_56 : decode jdk_52_method_5_code 56 = .ok (.ishl, 1) := by decide +kernel
theorem d29_57 : decode jdk_52_method_5_code 57 = .ok (.ior, 1) := by decide +kernel
theorem d29_58 : decode jdk_52_method_5_code 58 = .ok (.i2c, 1) := by decide +kernel
theorem d29_59 : decode jdk_52_method_5_code 59 = .ok (.ireturn, 1) := by decide +kernel
theorem pn_29 : plainName "java/lang/StringUTF16" = true := by first | (simp [plainName, overriddenIn]; done) | decide +kernel
theorem ef_29 (m : MethodId) (x0 : Addr) (x1 : Int32) : entryFrame m #[(.ref x0), (.int x1)] 2 = mkF m 0 #[.val (.ref x0), .val (.int x1)] [] := by first | (simp [entryFrame, mkF, argsToLocals, Value.category]; done) | rfl
set_option maxRecDepth 65536 in
set_option maxHeartbeats 40000000 in
theorem r29 (l : Launch) (Z : State) (a0 : Array Value) (hw : ∀ d ∈ tables_1, d.before a0 Z = true) (ws : List Jvm.Cond) (a1 : Addr) (p2 : Int32) (w3 : Int32) (w5 : Int32) (cl_a1 : Cell) (w6 : Int32) (w8 : Int32) (w9 : Int32) (h0 : Heap) (n0 : Nat) (Z0 : n0 ≤ h0.size) (S__assertionsDisabled : Sta Z h0 "java/lang/StringUTF16" "$assertionsDisabled" "Z" (.int w3)) (Ar_a1 : Arr Z h0 a1 cl_a1 .byte) (hin37 : ¬ ((p2 <<< ((1 : Int32) &&& 31)) < 0 ∨ cl_a1.slots.size ≤ ((p2 <<< ((1 : Int32) &&& 31))).toNatClampNeg)) (hat37 : cl_a1.slots[((p2 <<< ((1 : Int32) &&& 31))).toNatClampNeg]? = some (.int w5)) (S_HI_BYTE_SHIFT : Sta Z h0 "java/lang/StringUTF16" "HI_BYTE_SHIFT" "I" (.int w6)) (hin48 : ¬ (((p2 <<< ((1 : Int32) &&& 31)) + (1 : Int32)) < 0 ∨ cl_a1.slots.size ≤ (((p2 <<< ((1 : Int32) &&& 31)) + (1 : Int32))).toNatClampNeg)) (hat48 : cl_a1.slots[(((p2 <<< ((1 : Int32) &&& 31)) + (1 : Int32))).toNatClampNeg]? = some (.int w8)) (S_LO_BYTE_SHIFT : Sta Z h0 "java/lang/StringUTF16" "LO_BYTE_SHIFT" "I" (.int w9)) (hc3 : ¬ (w3 = (0 : Int32))) :
    MetFree l (⟨"java/lang/StringUTF16", "getChar", "([BI)C"⟩ : MethodName) (head1 (Jvm.Cond.code (⟨"java/lang/StringUTF16", "getChar", "([BI)C"⟩ : MethodName) jdk_52_method_5_code 2 (some .char) :: ws) ({ frames := 0, cells := 0, slots := 0, locals := 0 } : Room)) (fun a U => a = #[(.ref a1), (.int p2)] ∧ Z.Warmed39 U.vm ∧ U.heap = h0) (fun _ _ _ _ _ => True) (fun _ U o U' => ∃ v L, o = .returned v ∧ QR (some (.int (nar .char ((((w5 &&& (255 : Int32)) <<< (w6 &&& 31)) ||| ((w8 &&& (255 : Int32)) <<< (w9 &&& 31))).toUInt32.toUInt16.toUInt32.toInt32)))) h0 n0 v U'.heap L ∧ FrameEnd U o U' L ({ frames := 0, cells := 0, slots := 0, locals := 0 } : Room).cells ({ frames := 0, cells := 0, slots := 0, locals := 0 } : Room).slots) := by
  refine MetFree.of_bodySF (plainFor_of_name pn_29) hisR ?_
  intro p e s m args below meth c s₁ Bd hml0 hP hK
  obtain ⟨rfl, hZ, hh⟩ := hP
  have hx := Bd.exec
  have hby := Bd.bytes
  have hml : c.maxLocals = 2 := hml0
  have hown : s.vm.findClass "java/lang/StringUTF16" = some m.cls := findClass_of_methodNamed Bd.named
  have hnm := (name_of_methodNamed Bd.named Bd.method).1
  have X0 : Stand p l e ({ frames := 0, cells := 0, slots := 0, locals := 0 } : Room) s m #[(.ref a1), (.int p2)] below meth c s₁ [] 0 0 := Stand.of_body Bd
  have e0 : s₁.heap = h0 := by rw [← hh, Bd.state]; rfl
  have N0 := Fr.nil n0
  have pre0 : ∀ t, Steps p.tables e below (s₁.setTop (mkF m 0 #[.val (.ref a1), .val (.int p2)] [])) t → Steps p.tables e below (s₁.setTop (entryFrame m #[(.ref a1), (.int p2)] 2)) t := fun t k => castTop (ef_29 m a1 p2) k
  obtain ⟨T4, X4, e4, st4⟩ := getS2 X0 hx hZ hown (host := "") (Or.inl (own_W hw 141 rfl)) Via.refl e0 S__assertionsDisabled (g := (mkF m 0 #[.val (.ref a1), .val (.int p2)] [])) rfl (hb hby d29_0)
  obtain ⟨T7, X7, e7, st7⟩ := getS2 X4 hx hZ hown (host := "") (Or.inl (own_W hw 142 rfl)) Via.refl e4 S_HI_BYTE_SHIFT (g := (mkF m 42 #[.val (.ref a1), .val (.int ((p2 <<< ((1 : Int32) &&& 31)) + (1 : Int32)))] [(.int (w5 &&& (255 : Int32)))])) rfl (hb hby d29_42)
  obtain ⟨T10, X10, e10, st10⟩ := getS2 X7 hx hZ hown (host := "") (Or.inl (own_W hw 143 rfl)) Via.refl e7 S_LO_BYTE_SHIFT (g := (mkF m 53 #[.val (.ref a1), .val (.int ((p2 <<< ((1 : Int32) &&& 31)) + (1 : Int32)))] [(.int (w8 &&& (255 : Int32))), (.int ((w5 &&& (255 : Int32)) <<< (w6 &&& 31)))])) rfl (hb hby d29_53)
  obtain ⟨fs, hr, hrun, hended, hW, hsame⟩ := X10.leave (v := some (.int (nar .char ((((w5 &&& (255 : Int32)) <<< (w6 &&& 31)) ||| ((w8 &&& (255 : Int32)) <<< (w9 &&& 31))).toUInt32.toUInt16.toUInt32.toInt32)))) (fun h => by rw [Bd.returns] at h; cases h)
  refine ⟨_, _, pre0 _ ?_, hrun, hended, _, _, rfl, ?_, ⟨_, rfl⟩, hW, hsame.mono (by decide) (by decide)⟩
  · refine st4 _ ?_
    refine XS.ifYes X4.here hx rfl (pc0 := 3) (pc' := 28) rfl (hb hby d29_3) rfl ((if0 _ _).trans (feq hc3).2) (by decide) (by decide) ?_
    refine XS.iloadN X4.here hx rfl (hb hby d29_28) rfl ?_
    refine XS.iconst X4.here hx rfl (hb hby d29_29) ?_
    refine XS.ishl X4.here hx rfl (hb hby d29_30) rfl ?_
    refine XS.istoreN X4.here hx rfl (hb hby d29_31) rfl (l' := #[.val (.ref a1), .val (.int (p2 <<< ((1 : Int32) &&& 31)))]) rfl ?_
    refine XS.aloadN X4.here hx rfl (hb hby d29_32) rfl rfl ?_
    refine XS.iloadN X4.here hx rfl (hb hby d29_33) rfl ?_
    refine XS.iinc X4.here hx rfl (hb hby d29_34) rfl (l' := #[.val (.ref a1), .val (.int ((p2 <<< ((1 : Int32) &&& 31)) + (1 : Int32)))]) rfl ?_
    refine X4.baloadBytes hx (j := (p2 <<< ((1 : Int32) &&& 31))) (v := (.int w5)) (by rw [e4]; exact Ar_a1.1) (State.isArrayOf_alike hZ.alike Ar_a1.2.1) Ar_a1.2.2 hin37 hat37 (g := (mkF m 37 #[.val (.ref a1), .val (.int ((p2 <<< ((1 : Int32) &&& 31)) + (1 : Int32)))] [(.int (p2 <<< ((1 : Int32) &&& 31))), (.ref a1)])) rfl rfl (hb hby d29_37) _ ?_
    refine XS.sipush X4.here hx rfl (hb hby d29_38) ?_
    refine XS.iand X4.here hx rfl (hb hby d29_41) rfl ?_
    refine st7 _ ?_
    refine XS.ishl X7.here hx rfl (hb hby d29_45) rfl ?_
    refine XS.aloadN X7.here hx rfl (hb hby d29_46) rfl rfl ?_
    refine XS.iloadN X7.here hx rfl (hb hby d29_47) rfl ?_
    refine X7.baloadBytes hx (j := ((p2 <<< ((1 : Int32) &&& 31)) + (1 : Int32))) (v := (.int w8)) (by rw [e7]; exact Ar_a1.1) (State.isArrayOf_alike hZ.alike Ar_a1.2.1) Ar_a1.2.2 hin48 hat48 (g := (mkF m 48 #[.val (.ref a1), .val (.int ((p2 <<< ((1 : Int32) &&& 31)) + (1 : Int32)))] [(.int ((p2 <<< ((1 : Int32) &&& 31)) + (1 : Int32))), (.ref a1), (.int ((w5 &&& (255 : Int32)) <<< (w6 &&& 31)))])) rfl rfl (hb hby d29_48) _ ?_
    refine XS.sipush X7.here hx rfl (hb hby d29_49) ?_
    refine XS.iand X7.here hx rfl (hb hby d29_52) rfl ?_
    refine st10 _ ?_
    refine XS.ishl X10.here hx rfl (hb hby d29_56) rfl ?_
    refine XS.ior X10.here hx rfl (hb hby d29_57) rfl ?_
    refine XS.i2c X10.here hx rfl (hb hby d29_58) rfl ?_
    exact retN X10 hx (t := .char) Bd.returns (by simp) (hb hby d29_59) hr
  · show QR (some (.int (nar .char ((((w5 &&& (255 : Int32)) <<< (w6 &&& 31)) ||| ((w8 &&& (255 : Int32)) <<< (w9 &&& 31))).toUInt32.toUInt16.toUInt32.toInt32)))) h0 n0 _ T10.heap _
    rw [e10]
    exact ⟨rfl, N0, rfl⟩
theorem own_ix (i : Nat) (h : i < 32) : (Int32.ofNat i <<< ((1 : Int32) &&& 31)).toNatClampNeg = 2 * i ∧ (Int32.ofNat i <<< ((1 : Int32) &&& 31) + (1 : Int32)).toNatClampNeg = 2 * i + 1 ∧ ¬ (Int32.ofNat i <<< ((1 : Int32) &&& 31)) < 0 ∧ ¬ (Int32.ofNat i <<< ((1 : Int32) &&& 31) + (1 : Int32)) < 0 ∧ (Int32.ofNat (2 * i)).toNatClampNeg = 2 * i ∧ (Int32.ofNat (2 * i) >>> ((1 : Int32) &&& 31)) = Int32.ofNat i := (by decide +kernel : ∀ i : Fin 32, (Int32.ofNat i.val <<< ((1 : Int32) &&& 31)).toNatClampNeg = 2 * i.val ∧ (Int32.ofNat i.val <<< ((1 : Int32) &&& 31) + (1 : Int32)).toNatClampNeg = 2 * i.val + 1 ∧ ¬ (Int32.ofNat i.val <<< ((1 : Int32) &&& 31)) < 0 ∧ ¬ (Int32.ofNat i.val <<< ((1 : Int32) &&& 31) + (1 : Int32)) < 0 ∧ (Int32.ofNat (2 * i.val)).toNatClampNeg = 2 * i.val ∧ (Int32.ofNat (2 * i.val) >>> ((1 : Int32) &&& 31)) = Int32.ofNat i.val) ⟨i, h⟩
theorem own_char_id (x : Int32) : nar .char (x.toUInt32.toUInt16.toUInt32.toInt32) = x.toUInt32.toUInt16.toUInt32.toInt32 := by
  show (_ : Int32).toUInt32.toUInt16.toUInt32.toInt32 = _
  simp only [UInt32.toUInt32_toInt32, UInt16.toUInt16_toUInt32]
theorem r29w (l : Launch) (Z : State) (a0 : Array Value) (hw : ∀ d ∈ tables_1, d.before a0 Z = true) (ws : List Jvm.Cond) (a1 : Addr) (p2 : Int32) (cs : List Int32) (i : Nat) (kb : ClassId) (h0 : Heap) (n0 : Nat) (Z0 : n0 ≤ h0.size) (hp2 : p2 = Int32.ofNat i) (hi : i < cs.length) (hl : cs.length ≤ 22) (K : Arv Z h0 a1 kb .byte (Int32.ofNat (2 * cs.length)) (StrChars.Road.wideBytes cs) (.int 0)) (hbb : ∀ c ∈ cs, ¬ c < 0 ∧ ¬ (65535 : Int32) < c) (SA : Sta Z h0 "java/lang/StringUTF16" "$assertionsDisabled" "Z" (.int 1)) (SH : Sta Z h0 "java/lang/StringUTF16" "HI_BYTE_SHIFT" "I" (.int 0)) (SL : Sta Z h0 "java/lang/StringUTF16" "LO_BYTE_SHIFT" "I" (.int 8)) :
    MetFree l (⟨"java/lang/StringUTF16", "getChar", "([BI)C"⟩ : MethodName) (head1 (Jvm.Cond.code (⟨"java/lang/StringUTF16", "getChar", "([BI)C"⟩ : MethodName) jdk_52_method_5_code 2 (some .char) :: ws) ({ frames := 0, cells := 0, slots := 0, locals := 0 } : Room)) (fun a U => a = #[(.ref a1), (.int p2)] ∧ Z.Warmed39 U.vm ∧ U.heap = h0) (fun _ _ _ _ _ => True) (fun _ U o U' => ∃ v L, o = .returned v ∧ QR (some (.int (cs.getD i 0))) h0 n0 v U'.heap L ∧ FrameEnd U o U' L ({ frames := 0, cells := 0, slots := 0, locals := 0 } : Room).cells ({ frames := 0, cells := 0, slots := 0, locals := 0 } : Room).slots) := by
  subst hp2
  obtain ⟨cl, Ar, q, S, N, H, G⟩ := K
  obtain ⟨x1, x2, x3, x4, x5, x6⟩ := own_ix i (by omega)
  obtain ⟨-, -, -, -, y5, -⟩ := own_ix cs.length (by omega)
  rw [y5] at S
  have hm : cs.getD i 0 ∈ cs := by rw [List.getD_eq_getElem?_getD, List.getElem?_eq_getElem hi]; exact List.getElem_mem hi
  have e1 : nar .char (StrChars.pairCh (StrChars.lo8 (cs.getD i 0)) (StrChars.hi8 (cs.getD i 0))) = cs.getD i 0 := (own_char_id _).trans (StrChars.pair_says (hbb _ hm).1 (hbb _ hm).2)
  have g1 : cl.slots[(Int32.ofNat i <<< ((1 : Int32) &&& 31)).toNatClampNeg]? = some (.int (StrChars.lo8 (cs.getD i 0))) := by
    rw [x1, H (2 * i) (by omega), StrChars.Road.wide_lo _ cs i hi]
  have g2 : cl.slots[(Int32.ofNat i <<< ((1 : Int32) &&& 31) + (1 : Int32)).toNatClampNeg]? = some (.int (StrChars.hi8 (cs.getD i 0))) := by
    rw [x2, H (2 * i + 1) (by omega), StrChars.Road.wide_hi _ cs i hi]
  rw [← e1]
  exact r29 l Z a0 hw ws a1 (Int32.ofNat i) 1 (StrChars.lo8 (cs.getD i 0)) cl 0 (StrChars.hi8 (cs.getD i 0)) 8 h0 n0 Z0 SA Ar (fun q => q.elim x3 (by rw [x1]; omega)) g1 SH (fun q => q.elim x4 (by rw [x2]; omega)) g2 SL (by decide)
theorem own_nar_id {c : Int32} (h0 : ¬ c < 0) (h1 : ¬ (65535 : Int32) < c) : nar .char c = c := (congrArg (nar .char) (StrChars.pair_says h0 h1).symm).trans ((own_char_id _).trans (StrChars.pair_says h0 h1))
theorem own_mem (cs : List Int32) (i : Nat) (hi : i < cs.length) : cs.getD i 0 ∈ cs := by rw [List.getD_eq_getElem?_getD, List.getElem?_eq_getElem hi]; exact List.getElem_mem hi
theorem own_lt (a b : Nat) (ha : a < 32) (hb : b < 32) : Int32.ofNat a < Int32.ofNat b ↔ a < b := (by decide +kernel : ∀ a b : Fin 32, Int32.ofNat a.val < Int32.ofNat b.val ↔ a.val < b.val) ⟨a, ha⟩ ⟨b, hb⟩
theorem own_nn (a : Nat) (ha : a < 32) : ¬ Int32.ofNat a < 0 := (by decide +kernel : ∀ a : Fin 32, ¬ Int32.ofNat a.val < 0) ⟨a, ha⟩
theorem d30_0 : decode jdk_52_method_83_code 0 = .ok (.iload_n 1, 1) := by decide +kernel
theorem d30_1 : decode jdk_52_method_83_code 1 = .ok (.aload_n 0, 1) := by decide +kernel
theorem d30_2 : decode jdk_52_method_83_code 2 = .ok (.invokestatic 67, 3) := by decide +kernel
theorem d30_5 : decode jdk_52_method_83_code 5 = .ok (.aload_n 0, 1) := by decide +kernel
theorem d30_6 : decode jdk_52_method_83_code 6 = .ok (.iload_n 1, 1) := by decide +kernel
theorem d30_7 : decode jdk_52_method_83_code 7 = .ok (.invokestatic 71, 3) := by decide +kernel
theorem d30_10 : decode jdk_52_method_83_code 10 = .ok (.ireturn, 1) := by decide +kernel
theorem pn_30 : plainName "java/lang/StringUTF16" = true := by first | (simp [plainName, overriddenIn]; done) | decide +kernel
theorem pd_30_21 : parseMethodDescriptor "(I[B)V" = some ⟨[.int, (.array .byte)], none⟩ := by decide +kernel
theorem pd_30_13 : parseMethodDescriptor "([BI)C" = some ⟨[(.array .byte), .int], some .char⟩ := by decide +kernel
theorem ef_30 (m : MethodId) (x0 : Addr) (x1 : Int32) : entryFrame m #[(.ref x0), (.int x1)] 2 = mkF m 0 #[.val (.ref x0), .val (.int x1)] [] := by first | (simp [entryFrame, mkF, argsToLocals, Value.category]; done) | rfl
set_option maxRecDepth 65536 in
set_option maxHeartbeats 40000000 in
theorem r30 (l : Launch) (Z : State) (a0 : Array Value) (hw : ∀ d ∈ tables_1, d.before a0 Z = true) (ws : List Jvm.Cond) (a1 : Addr) (p2 : Int32) (cs : List Int32) (i : Nat) (kb : ClassId) (fm : Value) (h0 : Heap) (n0 : Nat) (Z0 : n0 ≤ h0.size) (hp2 : p2 = Int32.ofNat i) (hi : i < cs.length) (hl : cs.length ≤ 22) (K : Arv Z h0 a1 kb .byte (Int32.ofNat (2 * cs.length)) (StrChars.Road.wideBytes cs) (.int 0)) (hbb : ∀ c ∈ cs, ¬ c < 0 ∧ ¬ (65535 : Int32) < c) (SA : Sta Z h0 "java/lang/StringUTF16" "$assertionsDisabled" "Z" (.int 1)) (SH : Sta Z h0 "java/lang/StringUTF16" "HI_BYTE_SHIFT" "I" (.int 0)) (SL : Sta Z h0 "java/lang/StringUTF16" "LO_BYTE_SHIFT" "I" (.int 8)) (S_F : Sta Z h0 "jdk/internal/util/Preconditions" "SIOOBE_FORMATTER" "Ljava/util/function/BiFunction;" fm) (rf : fm.isRef = true) :
    MetFree l (⟨"java/lang/StringUTF16", "charAt", "([BI)C"⟩ : MethodName) (head1 (Jvm.Cond.code (⟨"java/lang/StringUTF16", "charAt", "([BI)C"⟩ : MethodName) jdk_52_method_83_code 2 (some .char) :: ws) ({ frames := 3, cells := 0, slots := 0, locals := 40 } : Room)) (fun a U => a = #[(.ref a1), (.int p2)] ∧ Z.Warmed39 U.vm ∧ U.heap = h0) (fun _ _ _ _ _ => True) (fun _ U o U' => ∃ v L, o = .returned v ∧ QR (some (.int (cs.getD i 0))) h0 n0 v U'.heap L ∧ FrameEnd U o U' L ({ frames := 3, cells := 0, slots := 0, locals := 40 } : Room).cells ({ frames := 3, cells := 0, slots := 0, locals := 40 } : Room).slots) := by
  refine MetFree.of_bodySF (plainFor_of_name pn_30) hisR ?_
  intro p e s m args below meth c s₁ Bd hml0 hP hK
  obtain ⟨rfl, hZ, hh⟩ := hP
  have hx := Bd.exec
  obtain ⟨cl_a1, Ar_a1, qq, S_a1, N_a1, HH, GG⟩ := id K
  have hby := Bd.bytes
  have hml : c.maxLocals = 2 := hml0
  have hown : s.vm.findClass "java/lang/StringUTF16" = some m.cls := findClass_of_methodNamed Bd.named
  have hnm := (name_of_methodNamed Bd.named Bd.method).1
  have X0 : Stand p l e ({ frames := 3, cells := 0, slots := 0, locals := 40 } : Room) s m #[(.ref a1), (.int p2)] below meth c s₁ [] 0 0 := Stand.of_body Bd
  have e0 : s₁.heap = h0 := by rw [← hh, Bd.state]; rfl
  have N0 := Fr.nil n0
  have pre0 : ∀ t, Steps p.tables e below (s₁.setTop (mkF m 0 #[.val (.ref a1), .val (.int p2)] [])) t → Steps p.tables e below (s₁.setTop (entryFrame m #[(.ref a1), (.int p2)] 2)) t := fun t k => castTop (ef_30 m a1 p2) k
  obtain ⟨_, _, ⟨T3, L3, k3, n3⟩, -, X3, ⟨Lc3, hQ3, l3, y3, z3⟩, st3⟩ := Jvm.LawKit.callS X0 hx (y := (⟨"java/lang/StringUTF16", "checkIndex", "(I[B)V"⟩ : MethodName)) hown (mvT hZ (own_W hw 150 rfl)) (mvT hZ (own_W hw 151 rfl)) (mvT hZ (own_W hw 21 rfl)) (mvT hZ (own_W hw 152 rfl)) (by decide) (backOf (W := 0) (r31 l Z a0 hw [] p2 a1 cl_a1 (Int32.ofNat (2 * cs.length)) fm h0 n0 Z0 Ar_a1 S_a1 N_a1 S_F rf (by rw [hp2]; exact own_nn i (by omega)) (by rw [hp2, (own_ix cs.length (by omega)).2.2.2.2.2]; exact (own_lt i cs.length (by omega) (by omega)).mpr hi)) hZ (own_W hw 152 rfl) (own_W hw 21 rfl) (by decide) (by decide)) (g := (mkF m 2 #[.val (.ref a1), .val (.int p2)] [(.ref a1), (.int p2)])) rfl (by rw [hml]; rfl) (argsL := [(.int p2), (.ref a1)]) (rest := []) (lenOf pd_30_21 rfl) rfl (by show 2 * 0 + _ ≤ _; exact Nat.le_of_eq rfl) (hb hby d30_2) (fun _ _ => ⟨rfl, e0, (by decide : 0 + 0 ≤ _), (by decide : 0 + 0 ≤ _)⟩)
  dsimp only [Pt.U, Pt.locs, Pt.cells, Pt.slots] at X3 l3 y3 z3 st3 hQ3
  subst l3 y3 z3
  obtain ⟨rfl, N3q, e3⟩ := hQ3
  have N3 := Fr.app N0 N3q
  obtain ⟨_, _, ⟨T4, L4, k4, n4⟩, -, X4, ⟨Lc4, hQ4, l4, y4, z4⟩, st4⟩ := Jvm.LawKit.callS X3 hx (y := (⟨"java/lang/StringUTF16", "getChar", "([BI)C"⟩ : MethodName)) hown (mvT hZ (own_W hw 144 rfl)) (mvT hZ (own_W hw 145 rfl)) (mvT hZ (own_W hw 21 rfl)) (mvT hZ (own_W hw 146 rfl)) (by decide) (backOf (W := 0) (r29w l Z a0 hw [] a1 p2 cs i kb h0 n0 Z0 hp2 hi hl K hbb SA SH SL) hZ (own_W hw 146 rfl) (own_W hw 21 rfl) (by decide) (by decide)) (g := (mkF m 7 #[.val (.ref a1), .val (.int p2)] [(.int p2), (.ref a1)])) rfl (by rw [hml]; rfl) (argsL := [(.ref a1), (.int p2)]) (rest := []) (lenOf pd_30_13 rfl) rfl (by show 2 * 0 + _ ≤ _; exact Nat.le_of_eq rfl) (hb hby d30_7) (fun _ _ => ⟨rfl, e3, (by decide : 0 + 0 ≤ _), (by decide : 0 + 0 ≤ _)⟩)
  dsimp only [Pt.U, Pt.locs, Pt.cells, Pt.slots] at X4 l4 y4 z4 st4 hQ4
  subst l4 y4 z4
  obtain ⟨rfl, N4q, e4⟩ := hQ4
  have N4 := Fr.app N3 N4q
  obtain ⟨fs, hr, hrun, hended, hW, hsame⟩ := X4.leave (v := some (.int (cs.getD i 0))) (fun h => by rw [Bd.returns] at h; cases h)
  refine ⟨_, _, pre0 _ ?_, hrun, hended, _, _, rfl, ?_, ⟨_, rfl⟩, hW, hsame.mono (by decide) (by decide)⟩
  · refine XS.iloadN X0.here hx rfl (hb hby d30_0) rfl ?_
    refine XS.aloadN X0.here hx rfl (hb hby d30_1) rfl rfl ?_
    refine st3 _ ?_
    refine XS.aloadN X3.here hx rfl (hb hby d30_5) rfl rfl ?_
    refine XS.iloadN X3.here hx rfl (hb hby d30_6) rfl ?_
    refine st4 _ ?_
    exact retN X4 hx (t := .char) Bd.returns (by simp) (hb hby d30_10) (by rw [own_nar_id (hbb _ (own_mem cs i hi)).1 (hbb _ (own_mem cs i hi)).2]; exact hr)
  · show QR (some (.int (cs.getD i 0))) h0 n0 _ T4.heap _
    rw [e4]
    exact ⟨rfl, N4, rfl⟩
theorem d16_0 : decode jdk_42_method_56_code 0 = .ok (.aload_n 0, 1) := by decide +kernel
theorem d16_1 : decode jdk_42_method_56_code 1 = .ok (.invokevirtual 492, 3) := by decide +kernel
theorem d16_4 : decode jdk_42_method_56_code 4 = .ok (.ifCond .eq 12, 3) := by decide +kernel
theorem d16_16 : decode jdk_42_method_56_code 16 = .ok (.aload_n 0, 1) := by decide +kernel
theorem d16_17 : decode jdk_42_method_56_code 17 = .ok (.getfield 9, 3) := by decide +kernel
theorem d16_20 : decode jdk_42_method_56_code 20 = .ok (.iload_n 1, 1) := by decide +kernel
theorem d16_21 : decode jdk_42_method_56_code 21 = .ok (.invokestatic 498, 3) := by decide +kernel
theorem d16_24 : decode jdk_42_method_56_code 24 = .ok (.ireturn, 1) := by decide +kernel
theorem pn_16 : plainName "java/lang/String" = true := by first | (simp [plainName, overriddenIn]; done) | decide +kernel
theorem pd_16_12 : parseMethodDescriptor "()Z" = some ⟨[], some .boolean⟩ := by decide +kernel
theorem pd_16_13 : parseMethodDescriptor "([BI)C" = some ⟨[(.array .byte), .int], some .char⟩ := by decide +kernel
theorem ef_16 (m : MethodId) (x0 : Addr) (x1 : Int32) : entryFrame m #[(.ref x0), (.int x1)] 2 = mkF m 0 #[.val (.ref x0), .val (.int x1)] [] := by first | (simp [entryFrame, mkF, argsToLocals, Value.category]; done) | rfl
set_option maxRecDepth 65536 in
set_option maxHeartbeats 40000000 in
theorem r16w (l : Launch) (Z : State) (a0 : Array Value) (hw : ∀ d ∈ tables_1, d.before a0 Z = true) (ws : List Jvm.Cond) (a1 : Addr) (p2 : Int32) (w4 : Addr) (cs : List Int32) (i : Nat) (kb : ClassId) (fm : Value) (w2 : Int32) (h0 : Heap) (n0 : Nat) (Z0 : n0 ≤ h0.size) (E_a1 : Exa Z h0 a1 "java/lang/String") (F_value_a1 : Fld Z h0 a1 "java/lang/String" "value" "[B" (.ref w4)) (S_C : Sta Z h0 "java/lang/String" "COMPACT_STRINGS" "Z" (.int w2)) (P5 : ¬ (w2 = (0 : Int32))) (F_C : Fld Z h0 a1 "java/lang/String" "coder" "B" (.int 1)) (hp2 : p2 = Int32.ofNat i) (hi : i < cs.length) (hl : cs.length ≤ 22) (K : Arv Z h0 w4 kb .byte (Int32.ofNat (2 * cs.length)) (StrChars.Road.wideBytes cs) (.int 0)) (hbb : ∀ c ∈ cs, ¬ c < 0 ∧ ¬ (65535 : Int32) < c) (SA : Sta Z h0 "java/lang/StringUTF16" "$assertionsDisabled" "Z" (.int 1)) (SH : Sta Z h0 "java/lang/StringUTF16" "HI_BYTE_SHIFT" "I" (.int 0)) (SL : Sta Z h0 "java/lang/StringUTF16" "LO_BYTE_SHIFT" "I" (.int 8)) (S_F : Sta Z h0 "jdk/internal/util/Preconditions" "SIOOBE_FORMATTER" "Ljava/util/function/BiFunction;" fm) (rf : fm.isRef = true) :
    MetFree l (⟨"java/lang/String", "charAt", "(I)C"⟩ : MethodName) (head1 (Jvm.Cond.code (⟨"java/lang/String", "charAt", "(I)C"⟩ : MethodName) jdk_42_method_56_code 2 (some .char) :: ws) ({ frames := 4, cells := 0, slots := 0, locals := 53 } : Room)) (fun a U => a = #[(.ref a1), (.int p2)] ∧ Z.Warmed39 U.vm ∧ U.heap = h0) (fun _ _ _ _ _ => True) (fun _ U o U' => ∃ v L, o = .returned v ∧ QR (some (.int (cs.getD i 0))) h0 n0 v U'.heap L ∧ FrameEnd U o U' L ({ frames := 4, cells := 0, slots := 0, locals := 53 } : Room).cells ({ frames := 4, cells := 0, slots := 0, locals := 53 } : Room).slots) := by
  refine MetFree.of_bodySF (plainFor_of_name pn_16) hisR ?_
  intro p e s m args below meth c s₁ Bd hml0 hP hK
  obtain ⟨rfl, hZ, hh⟩ := hP
  have hx := Bd.exec
  have hby := Bd.bytes
  have hml : c.maxLocals = 2 := hml0
  have hown : s.vm.findClass "java/lang/String" = some m.cls := findClass_of_methodNamed Bd.named
  have hnm := (name_of_methodNamed Bd.named Bd.method).1
  have X0 : Stand p l e ({ frames := 4, cells := 0, slots := 0, locals := 53 } : Room) s m #[(.ref a1), (.int p2)] below meth c s₁ [] 0 0 := Stand.of_body Bd
  have e0 : s₁.heap = h0 := by rw [← hh, Bd.state]; rfl
  have N0 := Fr.nil n0
  have pre0 : ∀ t, Steps p.tables e below (s₁.setTop (mkF m 0 #[.val (.ref a1), .val (.int p2)] [])) t → Steps p.tables e below (s₁.setTop (entryFrame m #[(.ref a1), (.int p2)] 2)) t := fun t k => castTop (ef_16 m a1 p2) k
  obtain ⟨cq3, kq3, q3a, q3b, q3c⟩ := isOf hZ e0 E_a1
  obtain ⟨_, _, ⟨T3, L3, k3, n3⟩, -, X3, ⟨Lc3, hQ3, l3, y3, z3⟩, st3⟩ := X0.virtualBack hx (y := (⟨"java/lang/String", "isLatin1", "()Z"⟩ : MethodName)) (z := (⟨"java/lang/String", "isLatin1", "()Z"⟩ : MethodName)) hown (mvT hZ (own_W hw 74 rfl)) (mvT hZ (own_W hw 75 rfl)) (notFace_of_selects (args := #[]) (mvT hZ (own_W hw 77 rfl))) (mvT hZ (own_W hw 77 rfl)) (mvT hZ (own_W hw 76 rfl)) (by decide) (backOf (W := 0) (r17w l Z a0 hw [] a1 w2 (1 : Int32) h0 n0 Z0 S_C F_C P5 (by decide)) hZ (own_W hw 78 rfl) (own_W hw 7 rfl) (by decide) (by decide)) q3a q3c (g := (mkF m 1 #[.val (.ref a1), .val (.int p2)] [(.ref a1)])) rfl (by rw [hml]; rfl) (Steps.refl _) (argsL := []) (rest := []) (lenOf pd_16_12 rfl) rfl (by show 2 * 0 + _ ≤ _; exact Nat.le_of_eq rfl) (hb hby d16_1) (fun _ _ => ⟨rfl, e0, (by decide : 0 + 0 ≤ _), (by decide : 0 + 0 ≤ _)⟩)
  dsimp only [Pt.U, Pt.locs, Pt.cells, Pt.slots] at X3 l3 y3 z3 st3 hQ3
  subst l3 y3 z3
  obtain ⟨rfl, N3q, e3⟩ := hQ3
  have N3 := Fr.app N0 N3q
  obtain ⟨T5, X5, e5, st5⟩ := getF X3 hx hZ hown (host := "") (Or.inl (own_W hw 32 rfl)) Via.refl e3 F_value_a1 (g := (mkF m 17 #[.val (.ref a1), .val (.int p2)] [(.ref a1)])) rfl rfl (hb hby d16_17)
  obtain ⟨_, _, ⟨T6, L6, k6, n6⟩, -, X6, ⟨Lc6, hQ6, l6, y6, z6⟩, st6⟩ := Jvm.LawKit.callS X5 hx (y := (⟨"java/lang/StringUTF16", "charAt", "([BI)C"⟩ : MethodName)) hown (mvT hZ (own_W hw 147 rfl)) (mvT hZ (own_W hw 148 rfl)) (mvT hZ (own_W hw 21 rfl)) (mvT hZ (own_W hw 149 rfl)) (by decide) (backOf (W := 0) (r30 l Z a0 hw [] w4 p2 cs i kb fm h0 n0 Z0 hp2 hi hl K hbb SA SH SL S_F rf) hZ (own_W hw 149 rfl) (own_W hw 21 rfl) (by decide) (by decide)) (g := (mkF m 21 #[.val (.ref a1), .val (.int p2)] [(.int p2), (.ref w4)])) rfl (by rw [hml]; rfl) (argsL := [(.ref w4), (.int p2)]) (rest := []) (lenOf pd_16_13 rfl) rfl (by show 2 * 0 + _ ≤ _; exact Nat.le_of_eq rfl) (hb hby d16_21) (fun _ _ => ⟨rfl, e5, (by decide : 0 + 0 ≤ _), (by decide : 0 + 0 ≤ _)⟩)
  dsimp only [Pt.U, Pt.locs, Pt.cells, Pt.slots] at X6 l6 y6 z6 st6 hQ6
  subst l6 y6 z6
  obtain ⟨rfl, N6q, e6⟩ := hQ6
  have N6 := Fr.app N3 N6q
  obtain ⟨fs, hr, hrun, hended, hW, hsame⟩ := X6.leave (v := some (.int (cs.getD i 0))) (fun h => by rw [Bd.returns] at h; cases h)
  refine ⟨_, _, pre0 _ ?_, hrun, hended, _, _, rfl, ?_, ⟨_, rfl⟩, hW, hsame.mono (by decide) (by decide)⟩
  · refine XS.aloadN X0.here hx rfl (hb hby d16_0) rfl rfl ?_
    refine st3.trans ?_
    refine XS.ifYes X3.here hx rfl (pc0 := 4) (pc' := 16) rfl (hb hby d16_4) rfl ((if0 _ _).trans (teq (rfl : (0 : Int32) = (0 : Int32))).1) (by decide) (by decide) ?_
    refine XS.aloadN X3.here hx rfl (hb hby d16_16) rfl rfl ?_
    refine st5 _ ?_
    refine XS.iloadN X5.here hx rfl (hb hby d16_20) rfl ?_
    refine st6 _ ?_
    exact retN X6 hx (t := .char) Bd.returns (by simp) (hb hby d16_24) (by rw [own_nar_id (hbb _ (own_mem cs i hi)).1 (hbb _ (own_mem cs i hi)).2]; exact hr)
  · show QR (some (.int (cs.getD i 0))) h0 n0 _ T6.heap _
    rw [e6]
    exact ⟨rfl, N6, rfl⟩
theorem d28_0 : decode jdk_52_method_4_code 0 = .ok (.getstatic 44, 3) := by decide +kernel
theorem d28_3 : decode jdk_52_method_4_code 3 = .ok (.ifCond .ne 25, 3) := by decide +kernel
theorem d28_28 : decode jdk_52_method_4_code 28 = .ok (.iload_n 1, 1) := by decide +kernel
theorem d28_29 : decode jdk_52_method_4_code 29 = .ok (.iconst 1, 1) := by decide +kernel
theorem d28_30 : decode jdk_52_method_4_code 30 = .ok (.ishl, 1) := by decide +kernel
theorem d28_31 : decode jdk_52_method_4_code 31 = .ok (.istore_n 1, 1) := by decide +kernel
theorem d28_32 : decode jdk_52_method_4_code 32 = .ok (.aload_n 0, 1) := by decide +kernel
theorem d28_33 : decode jdk_52_method_4_code 33 = .ok (.iload_n 1, 1) := by decide +kernel
theorem d28_34 : decode jdk_52_method_4_code 34 = .ok (.iinc 1 1, 3) := by decide +kernel
theorem d28_37 : decode jdk_52_method_4_code 37 = .ok (.iload_n 2, 1) := by decide +kernel
theorem d28_38 : decode jdk_52_method_4_code 38 = .ok (.getstatic 59, 3) := by decide +kernel
theorem d28_41 : decode jdk_52_method_4_code 41 = .ok (.ishr, 1) := by decide +kernel
theorem d28_42 : decode jdk_52_method_4_code 42 = .ok (.i2b, 1) := by decide +kernel
theorem d28_43 : decode jdk_52_method_4_code 43 = .ok (.bastore, 1) := by decide +kernel
theorem d28_44 : decode jdk_52_method_4_code 44 = .ok (.aload_n 0, 1) := by decide +kernel
theorem d28_45 : decode jdk_52_method_4_code 45 = .ok (.iload_n 1, 1) := by decide +kernel
theorem d28_46 : decode jdk_52_method_4_code 46 = .ok (.iload_n 2, 1) := by decide +kernel
theorem d28_47 : decode jdk_52_method_4_code 47 = .ok (.getstatic 63, 3) := by decide +kernel
theorem d28_50 : decode jdk_52_method_4_code 50 = .ok (.ishr, 1) := by decide +kernel
theorem d28_51 : decode jdk_52_method_4_code 51 = .ok (.i2b, 1) := by decide +kernel
theorem d28_52 : decode jdk_52_method_4_code 52 = .ok (.bastore, 1) := by decide +kernel
theorem d28_53 : decode jdk_52_method_4_code 53 = .ok (.return_, 1) := by decide +kernel
theorem pn_28 : plainName "java/lang/StringUTF16" = true := by first | (simp [plainName, overriddenIn]; done) | decide +kernel
theorem ef_28 (m : MethodId) (x0 : Addr) (x1 : Int32) (x2 : Int32) : entryFrame m #[(.ref x0), (.int x1), (.int x2)] 3 = mkF m 0 #[.val (.ref x0), .val (.int x1), .val (.int x2)] [] := by first | (simp [entryFrame, mkF, argsToLocals, Value.category]; done) | rfl
theorem own_bid (x : Int32) : nar .byte (x.toInt8.toInt32) = x.toInt8.toInt32 := by
  show (_ : Int32).toInt8.toInt32 = _
  rw [Int8.toInt8_toInt32]
theorem own_s0 (x : Int32) : x >>> ((0 : Int32) &&& 31) = x := by
  apply Int32.toBitVec_inj.mp
  simp
def Q28 (Z : State) (a1 : Addr) (kb : ClassId) (n i : Nat) (c : Int32) (vs : List Value) (h0 : Heap) (n0 : Nat) (v : Option Value) (h : Heap) (L : List Loc) : Prop := v = none ∧ Fr n0 L ∧ Keep h0 h [a1] ∧ Arv Z h a1 kb .byte (Int32.ofNat (2 * n)) ((vs.set (2 * i) (.int (StrChars.lo8 c))).set (2 * i + 1) (.int (StrChars.hi8 c))) (.int 0)
set_option maxRecDepth 65536 in
set_option maxHeartbeats 40000000 in
theorem r28 (l : Launch) (Z : State) (a0 : Array Value) (hw : ∀ d ∈ tables_1, d.before a0 Z = true) (ws : List Jvm.Cond) (a1 : Addr) (p2 : Int32) (p3 : Int32) (kb : ClassId) (n i : Nat) (vs : List Value) (h0 : Heap) (n0 : Nat) (Z0 : n0 ≤ h0.size) (hp2 : p2 = Int32.ofNat i) (hi : i < n) (hn : n ≤ 22) (V : Arv Z h0 a1 kb .byte (Int32.ofNat (2 * n)) vs (.int 0)) (hvs : vs.length = 2 * n) (g_a1 : n0 ≤ a1) (SA : Sta Z h0 "java/lang/StringUTF16" "$assertionsDisabled" "Z" (.int 1)) (SH : Sta Z h0 "java/lang/StringUTF16" "HI_BYTE_SHIFT" "I" (.int 0)) (SL : Sta Z h0 "java/lang/StringUTF16" "LO_BYTE_SHIFT" "I" (.int 8)) :
    MetFree l (⟨"java/lang/StringUTF16", "putChar", "([BII)V"⟩ : MethodName) (head1 (Jvm.Cond.code (⟨"java/lang/StringUTF16", "putChar", "([BII)V"⟩ : MethodName) jdk_52_method_4_code 3 none :: ws) ({ frames := 0, cells := 0, slots := 0, locals := 0 } : Room)) (fun a U => a = #[(.ref a1), (.int p2), (.int p3)] ∧ Z.Warmed39 U.vm ∧ U.heap = h0) (fun _ _ _ _ _ => True) (fun _ U o U' => ∃ v L, o = .returned v ∧ Q28 Z a1 kb n i p3 vs h0 n0 v U'.heap L ∧ FrameEnd U o U' L ({ frames := 0, cells := 0, slots := 0, locals := 0 } : Room).cells ({ frames := 0, cells := 0, slots := 0, locals := 0 } : Room).slots) := by
  refine MetFree.of_bodySF (plainFor_of_name pn_28) hisR ?_
  intro p e s m args below meth c s₁ Bd hml0 hP hK
  obtain ⟨rfl, hZ, hh⟩ := hP
  have hx := Bd.exec
  subst hp2
  obtain ⟨x1, x2, x3, x4, x5, x6⟩ := own_ix i (by omega)
  obtain ⟨-, -, -, -, y5, -⟩ := own_ix n (by omega)
  obtain ⟨cl_a1, Ar_a1, q_a1, S_a1, N_a1, H_a1, G_a1⟩ := V
  have Sz : cl_a1.slots.size = 2 * n := by rw [S_a1, y5]
  have hin43 : ¬ ((Int32.ofNat i <<< ((1 : Int32) &&& 31)) < 0 ∨ cl_a1.slots.size ≤ ((Int32.ofNat i <<< ((1 : Int32) &&& 31))).toNatClampNeg) := fun q => q.elim x3 (by rw [x1]; omega)
  have hin52 : ¬ ((Int32.ofNat i <<< ((1 : Int32) &&& 31) + (1 : Int32)) < 0 ∨ cl_a1.slots.size ≤ ((Int32.ofNat i <<< ((1 : Int32) &&& 31) + (1 : Int32))).toNatClampNeg) := fun q => q.elim x4 (by rw [x2]; omega)
  have hby := Bd.bytes
  have hml : c.maxLocals = 3 := hml0
  have hown : s.vm.findClass "java/lang/StringUTF16" = some m.cls := findClass_of_methodNamed Bd.named
  have hnm := (name_of_methodNamed Bd.named Bd.method).1
  have X0 : Stand p l e ({ frames := 0, cells := 0, slots := 0, locals := 0 } : Room) s m #[(.ref a1), (.int (Int32.ofNat i)), (.int p3)] below meth c s₁ [] 0 0 := Stand.of_body Bd
  have e0 : s₁.heap = h0 := by rw [← hh, Bd.state]; rfl
  have N0 := Fr.nil n0
  have pre0 : ∀ t, Steps p.tables e below (s₁.setTop (mkF m 0 #[.val (.ref a1), .val (.int (Int32.ofNat i)), .val (.int p3)] [])) t → Steps p.tables e below (s₁.setTop (entryFrame m #[(.ref a1), (.int (Int32.ofNat i)), (.int p3)] 3)) t := fun t k => castTop (ef_28 m a1 (Int32.ofNat i) p3) k
  obtain ⟨T5, X5, e5, st5⟩ := getS2 X0 hx hZ hown (host := "") (Or.inl (own_W hw 141 rfl)) Via.refl e0 SA (g := (mkF m 0 #[.val (.ref a1), .val (.int (Int32.ofNat i)), .val (.int p3)] [])) rfl (hb hby d28_0)
  obtain ⟨T7, X7, e7, st7⟩ := getS2 X5 hx hZ hown (host := "") (Or.inl (own_W hw 142 rfl)) Via.refl e5 SH (g := (mkF m 38 #[.val (.ref a1), .val (.int (((Int32.ofNat i) <<< ((1 : Int32) &&& 31)) + (1 : Int32))), .val (.int p3)] [(.int p3), (.int ((Int32.ofNat i) <<< ((1 : Int32) &&& 31))), (.ref a1)])) rfl (hb hby d28_38)
  obtain ⟨T8, h8, X8, e8, W8, st8⟩ := stB X7 hx hZ e7 Ar_a1 (j := ((Int32.ofNat i) <<< ((1 : Int32) &&& 31))) hin43 (g := (mkF m 43 #[.val (.ref a1), .val (.int (((Int32.ofNat i) <<< ((1 : Int32) &&& 31)) + (1 : Int32))), .val (.int p3)] [(.int ((p3 >>> ((0 : Int32) &&& 31)).toInt8.toInt32)), (.int ((Int32.ofNat i) <<< ((1 : Int32) &&& 31))), (.ref a1)])) rfl rfl (hb hby d28_43)
  have V8 := Arv.set Ar_a1 q_a1 S_a1 N_a1 H_a1 G_a1 (fits_nar_byte _) W8 (2 * i) x1 (by omega)
  obtain ⟨cl8, Ar8, q8, S8, M8, H8, G8⟩ := V8
  have N8 := Fr.snoc X8 N0 g_a1
  have K8 : Keep h0 h8 [a1] := (Keep.refl h0 [a1]).wr W8 (Or.inl (List.mem_of_getElem? (i := 0) rfl))
  have Sz8 : cl8.slots.size = 2 * n := by rw [S8, y5]
  have hin52b : ¬ ((Int32.ofNat i <<< ((1 : Int32) &&& 31) + (1 : Int32)) < 0 ∨ cl8.slots.size ≤ ((Int32.ofNat i <<< ((1 : Int32) &&& 31) + (1 : Int32))).toNatClampNeg) := fun q => q.elim x4 (by rw [x2]; omega)
  obtain ⟨T10, X10, e10, st10⟩ := getS2 X8 hx hZ hown (host := "") (Or.inl (own_W hw 143 rfl)) Via.refl e8 (SL.wr W8) (g := (mkF m 47 #[.val (.ref a1), .val (.int (((Int32.ofNat i) <<< ((1 : Int32) &&& 31)) + (1 : Int32))), .val (.int p3)] [(.int p3), (.int (((Int32.ofNat i) <<< ((1 : Int32) &&& 31)) + (1 : Int32))), (.ref a1)])) rfl (hb hby d28_47)
  obtain ⟨T11, h11, X11, e11, W11, st11⟩ := stB X10 hx hZ e10 Ar8 (j := (((Int32.ofNat i) <<< ((1 : Int32) &&& 31)) + (1 : Int32))) hin52b (g := (mkF m 52 #[.val (.ref a1), .val (.int (((Int32.ofNat i) <<< ((1 : Int32) &&& 31)) + (1 : Int32))), .val (.int p3)] [(.int ((p3 >>> ((8 : Int32) &&& 31)).toInt8.toInt32)), (.int (((Int32.ofNat i) <<< ((1 : Int32) &&& 31)) + (1 : Int32))), (.ref a1)])) rfl rfl (hb hby d28_52)
  have V11 := Arv.set Ar8 q8 S8 M8 H8 G8 (fits_nar_byte _) W11 (2 * i + 1) x2 (by rw [List.length_set]; omega)
  rw [Int8.toInt8_toInt32, Int8.toInt8_toInt32, own_s0] at V11
  have N11 := Fr.snoc X11 N8 g_a1
  have K11 : Keep h0 h11 [a1] := K8.wr W11 (Or.inl (List.mem_of_getElem? (i := 0) rfl))
  obtain ⟨fs, hr, hrun, hended, hW, hsame⟩ := X11.leave (v := none) (fun _ => rfl)
  refine ⟨_, _, pre0 _ ?_, hrun, hended, _, _, rfl, ?_, ⟨_, rfl⟩, hW, hsame.mono (by decide) (by decide)⟩
  · refine st5 _ ?_
    refine XS.ifYes X5.here hx rfl (pc0 := 3) (pc' := 28) rfl (hb hby d28_3) rfl ((if0 _ _).trans (feq (by decide : ¬ ((1 : Int32) = (0 : Int32)))).2) (by decide) (by decide) ?_
    refine XS.iloadN X5.here hx rfl (hb hby d28_28) rfl ?_
    refine XS.iconst X5.here hx rfl (hb hby d28_29) ?_
    refine XS.ishl X5.here hx rfl (hb hby d28_30) rfl ?_
    refine XS.istoreN X5.here hx rfl (hb hby d28_31) rfl (l' := #[.val (.ref a1), .val (.int ((Int32.ofNat i) <<< ((1 : Int32) &&& 31))), .val (.int p3)]) rfl ?_
    refine XS.aloadN X5.here hx rfl (hb hby d28_32) rfl rfl ?_
    refine XS.iloadN X5.here hx rfl (hb hby d28_33) rfl ?_
    refine XS.iinc X5.here hx rfl (hb hby d28_34) rfl (l' := #[.val (.ref a1), .val (.int (((Int32.ofNat i) <<< ((1 : Int32) &&& 31)) + (1 : Int32))), .val (.int p3)]) rfl ?_
    refine XS.iloadN X5.here hx rfl (hb hby d28_37) rfl ?_
    refine st7 _ ?_
    refine XS.ishr X7.here hx rfl (hb hby d28_41) rfl ?_
    refine XS.i2b X7.here hx rfl (hb hby d28_42) rfl ?_
    refine st8 _ ?_
    refine XS.aloadN X8.here hx rfl (hb hby d28_44) rfl rfl ?_
    refine XS.iloadN X8.here hx rfl (hb hby d28_45) rfl ?_
    refine XS.iloadN X8.here hx rfl (hb hby d28_46) rfl ?_
    refine st10 _ ?_
    refine XS.ishr X10.here hx rfl (hb hby d28_50) rfl ?_
    refine XS.i2b X10.here hx rfl (hb hby d28_51) rfl ?_
    refine st11 _ ?_
    exact X11.returnOut hx Bd.returns (hb hby d28_53) hr
  · show Q28 Z a1 kb n i p3 vs h0 n0 _ T11.heap _
    rw [e11]
    exact ⟨rfl, N11, K11, V11⟩
theorem d27_0 : decode jdk_52_method_3_code 0 = .ok (.iload_n 0, 1) := by decide +kernel
theorem d27_1 : decode jdk_52_method_3_code 1 = .ok (.ifCond .ge 11, 3) := by decide +kernel
theorem d27_12 : decode jdk_52_method_3_code 12 = .ok (.iload_n 0, 1) := by decide +kernel
theorem d27_13 : decode jdk_52_method_3_code 13 = .ok (.ldc 20, 2) := by decide +kernel
theorem d27_15 : decode jdk_52_method_3_code 15 = .ok (.if_icmp .lt 40, 3) := by decide +kernel
theorem d27_55 : decode jdk_52_method_3_code 55 = .ok (.iload_n 0, 1) := by decide +kernel
theorem d27_56 : decode jdk_52_method_3_code 56 = .ok (.iconst 1, 1) := by decide +kernel
theorem d27_57 : decode jdk_52_method_3_code 57 = .ok (.ishl, 1) := by decide +kernel
theorem d27_58 : decode jdk_52_method_3_code 58 = .ok (.ireturn, 1) := by decide +kernel
theorem pn_27 : plainName "java/lang/StringUTF16" = true := by first | (simp [plainName, overriddenIn]; done) | decide +kernel
theorem ef_27 (m : MethodId) (x0 : Int32) : entryFrame m #[(.int x0)] 1 = mkF m 0 #[.val (.int x0)] [] := by first | (simp [entryFrame, mkF, argsToLocals, Value.category]; done) | rfl
set_option maxRecDepth 65536 in
set_option maxHeartbeats 40000000 in
theorem r27 (l : Launch) (Z : State) (a0 : Array Value) (hw : ∀ d ∈ tables_1, d.before a0 Z = true) (ws : List Jvm.Cond) (p1 : Int32) (h0 : Heap) (n0 : Nat) (Z0 : n0 ≤ h0.size) (hc1 : ¬ (p1 < (0 : Int32))) (hc15 : p1 < (1073741823 : Int32)) :
    MetFree l (⟨"java/lang/StringUTF16", "newBytesLength", "(I)I"⟩ : MethodName) (head1 (Jvm.Cond.code (⟨"java/lang/StringUTF16", "newBytesLength", "(I)I"⟩ : MethodName) jdk_52_method_3_code 1 (some .int) :: ws) ({ frames := 0, cells := 0, slots := 0, locals := 0 } : Room)) (fun a U => a = #[(.int p1)] ∧ Z.Warmed39 U.vm ∧ U.heap = h0) (fun _ _ _ _ _ => True) (fun _ U o U' => ∃ v L, o = .returned v ∧ QR (some (.int (p1 <<< ((1 : Int32) &&& 31)))) h0 n0 v U'.heap L ∧ FrameEnd U o U' L ({ frames := 0, cells := 0, slots := 0, locals := 0 } : Room).cells ({ frames := 0, cells := 0, slots := 0, locals := 0 } : Room).slots) := by
  refine MetFree.of_bodySF (plainFor_of_name pn_27) hisR ?_
  intro p e s m args below meth c s₁ Bd hml0 hP hK
  obtain ⟨rfl, hZ, hh⟩ := hP
  have hx := Bd.exec
  have hby := Bd.bytes
  have hml : c.maxLocals = 1 := hml0
  have hown : s.vm.findClass "java/lang/StringUTF16" = some m.cls := findClass_of_methodNamed Bd.named
  have hnm := (name_of_methodNamed Bd.named Bd.method).1
  have X0 : Stand p l e ({ frames := 0, cells := 0, slots := 0, locals := 0 } : Room) s m #[(.int p1)] below meth c s₁ [] 0 0 := Stand.of_body Bd
  have e0 : s₁.heap = h0 := by rw [← hh, Bd.state]; rfl
  have N0 := Fr.nil n0
  have pre0 : ∀ t, Steps p.tables e below (s₁.setTop (mkF m 0 #[.val (.int p1)] [])) t → Steps p.tables e below (s₁.setTop (entryFrame m #[(.int p1)] 1)) t := fun t k => castTop (ef_27 m p1) k
  obtain ⟨fs, hr, hrun, hended, hW, hsame⟩ := X0.leave (v := some (.int (p1 <<< ((1 : Int32) &&& 31)))) (fun h => by rw [Bd.returns] at h; cases h)
  refine ⟨_, _, pre0 _ ?_, hrun, hended, _, _, rfl, ?_, ⟨_, rfl⟩, hW, hsame.mono (by decide) (by decide)⟩
  · refine XS.iloadN X0.here hx rfl (hb hby d27_0) rfl ?_
    refine XS.ifYes X0.here hx rfl (pc0 := 1) (pc' := 12) rfl (hb hby d27_1) rfl ((if0 _ _).trans (flt hc1).2.1) (by decide) (by decide) ?_
    refine XS.iloadN X0.here hx rfl (hb hby d27_12) rfl ?_
    refine X0.ldcInt hx hown (mvT hZ (own_W hw 137 rfl)) (g := (mkF m 13 #[.val (.int p1)] [(.int p1)])) rfl (hb hby d27_13) _ ?_
    refine XS.icmpYes X0.here hx rfl (pc0 := 15) (pc' := 55) rfl (hb hby d27_15) rfl (tlt hc15).1 (by decide) (by decide) ?_
    refine XS.iloadN X0.here hx rfl (hb hby d27_55) rfl ?_
    refine XS.iconst X0.here hx rfl (hb hby d27_56) ?_
    refine XS.ishl X0.here hx rfl (hb hby d27_57) rfl ?_
    exact retI X0 hx Bd.returns (hb hby d27_58) hr
  · show QR (some (.int (p1 <<< ((1 : Int32) &&& 31)))) h0 n0 _ s₁.heap _
    rw [e0]
    exact ⟨rfl, N0, rfl⟩
theorem d26_0 : decode jdk_52_method_2_code 0 = .ok (.iload_n 0, 1) := by decide +kernel
theorem d26_1 : decode jdk_52_method_2_code 1 = .ok (.invokestatic 11, 3) := by decide +kernel
theorem d26_4 : decode jdk_52_method_2_code 4 = .ok (.newarray .byte, 2) := by decide +kernel
theorem d26_6 : decode jdk_52_method_2_code 6 = .ok (.areturn, 1) := by decide +kernel
theorem pn_26 : plainName "java/lang/StringUTF16" = true := by first | (simp [plainName, overriddenIn]; done) | decide +kernel
theorem pd_26_19 : parseMethodDescriptor "(I)I" = some ⟨[.int], some .int⟩ := by decide +kernel
theorem ef_26 (m : MethodId) (x0 : Int32) : entryFrame m #[(.int x0)] 1 = mkF m 0 #[.val (.int x0)] [] := by first | (simp [entryFrame, mkF, argsToLocals, Value.category]; done) | rfl
def Q26 (Z : State) (h0 : Heap) (n0 : Nat) (v : Option Value) (h : Heap) (L : List Loc) : Prop := v = some (.ref h0.size) ∧ Fr n0 L ∧ Keep h0 h [] ∧ ∃ k, Arv Z h h0.size k .byte (10 : Int32) [(.int 0), (.int 0), (.int 0), (.int 0), (.int 0), (.int 0), (.int 0), (.int 0), (.int 0), (.int 0)] (.int 0)
theorem r27c (l : Launch) (Z : State) (a0 : Array Value) (hw : ∀ d ∈ tables_1, d.before a0 Z = true) (ws : List Jvm.Cond) (h0 : Heap) (n0 : Nat) (Z0 : n0 ≤ h0.size) :
    MetFree l (⟨"java/lang/StringUTF16", "newBytesLength", "(I)I"⟩ : MethodName) (head1 (Jvm.Cond.code (⟨"java/lang/StringUTF16", "newBytesLength", "(I)I"⟩ : MethodName) jdk_52_method_3_code 1 (some .int) :: ws) ({ frames := 0, cells := 0, slots := 0, locals := 0 } : Room)) (fun a U => a = #[(.int 5)] ∧ Z.Warmed39 U.vm ∧ U.heap = h0) (fun _ _ _ _ _ => True) (fun _ U o U' => ∃ v L, o = .returned v ∧ QR (some (.int 10)) h0 n0 v U'.heap L ∧ FrameEnd U o U' L ({ frames := 0, cells := 0, slots := 0, locals := 0 } : Room).cells ({ frames := 0, cells := 0, slots := 0, locals := 0 } : Room).slots) := by
  have e : ((5 : Int32) <<< ((1 : Int32) &&& 31)) = 10 := by decide
  rw [← e]
  exact r27 l Z a0 hw ws 5 h0 n0 Z0 (by decide) (by decide)
set_option maxRecDepth 65536 in
set_option maxHeartbeats 40000000 in
theorem r26 (l : Launch) (Z : State) (a0 : Array Value) (hw : ∀ d ∈ tables_1, d.before a0 Z = true) (ws : List Jvm.Cond) (h0 : Heap) (n0 : Nat) (Z0 : n0 ≤ h0.size) :
    MetFree l (⟨"java/lang/StringUTF16", "newBytesFor", "(I)[B"⟩ : MethodName) (head1 (Jvm.Cond.code (⟨"java/lang/StringUTF16", "newBytesFor", "(I)[B"⟩ : MethodName) jdk_52_method_2_code 1 (some (.array .byte)) :: ws) ({ frames := 1, cells := 1, slots := 10, locals := 12 } : Room)) (fun a U => a = #[(.int 5)] ∧ Z.Warmed39 U.vm ∧ U.heap = h0) (fun _ _ _ _ _ => True) (fun _ U o U' => ∃ v L, o = .returned v ∧ Q26 Z h0 n0 v U'.heap L ∧ FrameEnd U o U' L ({ frames := 1, cells := 1, slots := 10, locals := 12 } : Room).cells ({ frames := 1, cells := 1, slots := 10, locals := 12 } : Room).slots) := by
  refine MetFree.of_bodySF (plainFor_of_name pn_26) hisR ?_
  intro p e s m args below meth c s₁ Bd hml0 hP hK
  obtain ⟨rfl, hZ, hh⟩ := hP
  have hx := Bd.exec
  have hby := Bd.bytes
  have hml : c.maxLocals = 1 := hml0
  have hown : s.vm.findClass "java/lang/StringUTF16" = some m.cls := findClass_of_methodNamed Bd.named
  have hnm := (name_of_methodNamed Bd.named Bd.method).1
  have X0 : Stand p l e ({ frames := 1, cells := 1, slots := 10, locals := 12 } : Room) s m #[(.int 5)] below meth c s₁ [] 0 0 := Stand.of_body Bd
  have e0 : s₁.heap = h0 := by rw [← hh, Bd.state]; rfl
  have N0 := Fr.nil n0
  have pre0 : ∀ t, Steps p.tables e below (s₁.setTop (mkF m 0 #[.val (.int 5)] [])) t → Steps p.tables e below (s₁.setTop (entryFrame m #[(.int 5)] 1)) t := fun t k => castTop (ef_26 m (5 : Int32)) k
  obtain ⟨_, _, ⟨T2, L2, k2, n2⟩, -, X2, ⟨Lc2, hQ2, l2, y2, z2⟩, st2⟩ := Jvm.LawKit.callS X0 hx (y := (⟨"java/lang/StringUTF16", "newBytesLength", "(I)I"⟩ : MethodName)) hown (mvT hZ (own_W hw 134 rfl)) (mvT hZ (own_W hw 135 rfl)) (mvT hZ (own_W hw 21 rfl)) (mvT hZ (own_W hw 136 rfl)) (by decide) (backOf (W := 0) (r27c l Z a0 hw [] h0 n0 Z0) hZ (own_W hw 136 rfl) (own_W hw 21 rfl) (by decide) (by decide)) (g := (mkF m 1 #[.val (.int 5)] [(.int 5)])) rfl (by rw [hml]; rfl) (argsL := [(.int 5)]) (rest := []) (lenOf pd_26_19 rfl) rfl (by show 2 * 0 + _ ≤ _; exact Nat.le_of_eq rfl) (hb hby d26_1) (fun _ _ => ⟨rfl, e0, (by decide : 0 + 0 ≤ _), (by decide : 0 + 0 ≤ _)⟩)
  dsimp only [Pt.U, Pt.locs, Pt.cells, Pt.slots] at X2 l2 y2 z2 st2 hQ2
  subst l2 y2 z2
  obtain ⟨rfl, N2q, e2⟩ := hQ2
  have N2 := Fr.app N0 N2q
  obtain ⟨T3, h3, k3, X3, e3, E3, A3, st3⟩ := newP X2 hx hZ (own_W hw 23 rfl) e2 (g := (mkF m 4 #[.val (.int 5)] [(.int 10)])) rfl (hb hby d26_4) rfl (by decide) (cap := 10) (by decide) (by decide) (by decide) (by decide)
  obtain ⟨b3, g3⟩ : ∃ z, z = h0.size := ⟨_, rfl⟩
  rw [← g3] at A3 st3
  have V_b3 : Arv Z h3 b3 k3 .byte (10 : Int32) [(.int 0), (.int 0), (.int 0), (.int 0), (.int 0), (.int 0), (.int 0), (.int 0), (.int 0), (.int 0)] (.int 0) := (Arv.new A3 (by decide)).pad (pad_rep [] (.int 0) 10)
  have g_b3 : n0 ≤ b3 := Nat.le_trans Z0 (Nat.le_of_eq g3.symm)
  have sz_b3 : h0.size ≤ b3 := (Nat.le_trans (Keep.refl h0 []).1 (Nat.le_of_eq g3.symm))
  have K3 : Keep h0 h3 [] := (Keep.refl h0 []).ext E3
  obtain ⟨fs, hr, hrun, hended, hW, hsame⟩ := X3.leave (v := some (.ref b3)) (fun h => by rw [Bd.returns] at h; cases h)
  refine ⟨_, _, pre0 _ ?_, hrun, hended, _, _, rfl, ?_, ⟨_, rfl⟩, hW, hsame.mono (by decide) (by decide)⟩
  · refine XS.iloadN X0.here hx rfl (hb hby d26_0) rfl ?_
    refine st2 _ ?_
    refine st3 _ ?_
    jvm_step X3.here [X3.here.top, hx, (hb hby d26_6), X3.method', Bd.returns, Value.isRef, FieldType.isReference]
    first | (intro acts; rw [hr _ acts rfl rfl rfl]) | rw [hr _ _ rfl rfl rfl]
    exact Steps.refl _
  · show Q26 Z h0 n0 _ T3.heap _
    rw [e3]
    subst g3
    exact ⟨rfl, N2, K3, k3, V_b3⟩
abbrev own_R25 : Room := { frames := 2, cells := 1, slots := 10, locals := 28 }
theorem d25_8 : decode jdk_52_method_14_code 8 = .ok (.iload 4, 2) := by decide +kernel
theorem d25_10 : decode jdk_52_method_14_code 10 = .ok (.iload_n 2, 1) := by decide +kernel
theorem d25_11 : decode jdk_52_method_14_code 11 = .ok (.if_icmp .ge 21, 3) := by decide +kernel
theorem d25_14 : decode jdk_52_method_14_code 14 = .ok (.aload_n 3, 1) := by decide +kernel
theorem d25_15 : decode jdk_52_method_14_code 15 = .ok (.iload 4, 2) := by decide +kernel
theorem d25_17 : decode jdk_52_method_14_code 17 = .ok (.aload_n 0, 1) := by decide +kernel
theorem d25_18 : decode jdk_52_method_14_code 18 = .ok (.iload_n 1, 1) := by decide +kernel
theorem d25_19 : decode jdk_52_method_14_code 19 = .ok (.caload, 1) := by decide +kernel
theorem d25_20 : decode jdk_52_method_14_code 20 = .ok (.invokestatic 111, 3) := by decide +kernel
theorem d25_23 : decode jdk_52_method_14_code 23 = .ok (.iinc 1 1, 3) := by decide +kernel
theorem d25_26 : decode jdk_52_method_14_code 26 = .ok (.iinc 4 1, 3) := by decide +kernel
theorem d25_29 : decode jdk_52_method_14_code 29 = .ok (.goto (-21), 3) := by decide +kernel
theorem pd_25_20 : parseMethodDescriptor "([BII)V" = some ⟨[(.array .byte), .int, .int], none⟩ := by decide +kernel
theorem own_cl (a : Nat) (ha : a < 32) : (Int32.ofNat a).toNatClampNeg = a := (by decide +kernel : ∀ a : Fin 32, (Int32.ofNat a.val).toNatClampNeg = a.val) ⟨a, ha⟩
set_option maxRecDepth 65536 in
set_option maxHeartbeats 40000000 in
theorem tb {p : Program} {l : Launch} {e : Env} {s : State} {m : MethodId} {args : Array Value} {below : List Frame} {meth : Method} {c : Code} {T0 : State} {locs : List Loc} {cells slots : Nat} {Z : State} {a0 : Array Value} {h0 : Heap} (o0 : Addr) (i1 : Int32) (i2 : Int32) (o3 : Addr) (i4 : Int32) (cs : List Int32) (i : Nat) (kc kb : ClassId) (vs : List Value) (n0 : Nat)
    (X0 : Stand p l e own_R25 s m args below meth c T0 locs cells slots) (hx : p.tables.exec = Jvm.exec) (hZ : Z.Warmed39 s.vm) (hw : ∀ d ∈ tables_1, d.before a0 Z = true) (hby : c.code = jdk_52_method_14_code) (hml : c.maxLocals = 5) (hown : s.vm.findClass "java/lang/StringUTF16" = some m.cls) (e0 : T0.heap = h0) (hcs : cs.length = 5) (hi : i < 5) (h1 : i1 = Int32.ofNat i) (h4 : i4 = Int32.ofNat i) (C : Arv Z h0 o0 kc .char (5 : Int32) (cs.map Value.int) (.int 0)) (V : Arv Z h0 o3 kb .byte (10 : Int32) vs (.int 0)) (hvs : vs.length = 10) (g_o3 : n0 ≤ o3) (SA : Sta Z h0 "java/lang/StringUTF16" "$assertionsDisabled" "Z" (.int 1)) (SH : Sta Z h0 "java/lang/StringUTF16" "HI_BYTE_SHIFT" "I" (.int 0)) (SL : Sta Z h0 "java/lang/StringUTF16" "LO_BYTE_SHIFT" "I" (.int 8)) (Z0 : n0 ≤ h0.size) (N0 : Fr n0 locs) (hcl : cells ≤ own_R25.cells) (hsl : slots ≤ own_R25.slots) (hc11 : i4 < i2) :
    ∃ (T' : State) (locs' : List Loc), Stand p l e own_R25 s m args below meth c T' locs' cells slots ∧ Fr n0 locs' ∧ Keep h0 T'.heap [o3] ∧ Arv Z T'.heap o3 kb .byte (10 : Int32) ((vs.set (2 * i) (.int (StrChars.lo8 (cs.getD i 0)))).set (2 * i + 1) (.int (StrChars.hi8 (cs.getD i 0)))) (.int 0) ∧
      ∀ target, Steps p.tables e below (T'.setTop (mkF m 8 #[.val (.ref o0), .val (.int (i1 + (1 : Int32))), .val (.int i2), .val (.ref o3), .val (.int (i4 + (1 : Int32)))] [])) target → Steps p.tables e below (T0.setTop (mkF m 8 #[.val (.ref o0), .val (.int i1), .val (.int i2), .val (.ref o3), .val (.int i4)] [])) target := by
  obtain ⟨cl_o0, Ar_o0, qc, Sc, Mc, Hc, Gc⟩ := C
  have x1 : (i1).toNatClampNeg = i := by rw [h1]; exact own_cl i (by omega)
  have hin19 : ¬ (i1 < 0 ∨ cl_o0.slots.size ≤ (i1).toNatClampNeg) := fun q => q.elim (by rw [h1]; exact own_nn i (by omega)) (by rw [x1, Sc]; show ¬ 5 ≤ i; omega)
  have hat19 : cl_o0.slots[(i1).toNatClampNeg]? = some (.int (cs.getD i 0)) := by
    rw [x1, Hc i (by rw [Sc]; exact hi)]
    simp [List.getD_eq_getElem?_getD, List.getElem?_eq_getElem (show i < cs.length by omega)]
  obtain ⟨_, _, ⟨T5, L5, k5, n5⟩, -, X5, ⟨Lc5, hQ5, l5, y5, z5⟩, st5⟩ := Jvm.LawKit.callS X0 hx (y := (⟨"java/lang/StringUTF16", "putChar", "([BII)V"⟩ : MethodName)) hown (mvT hZ (own_W hw 138 rfl)) (mvT hZ (own_W hw 139 rfl)) (mvT hZ (own_W hw 21 rfl)) (mvT hZ (own_W hw 140 rfl)) (by decide) (backOf (W := 0) (r28 l Z a0 hw [] o3 i4 (cs.getD i 0) kb 5 i vs h0 n0 Z0 h4 hi (by decide) V hvs g_o3 SA SH SL) hZ (own_W hw 140 rfl) (own_W hw 21 rfl) (by decide) (by decide)) (g := (mkF m 20 #[.val (.ref o0), .val (.int i1), .val (.int i2), .val (.ref o3), .val (.int i4)] [(.int (cs.getD i 0)), (.int i4), (.ref o3)])) rfl (by rw [hml]; rfl) (argsL := [(.ref o3), (.int i4), (.int (cs.getD i 0))]) (rest := []) (lenOf pd_25_20 rfl) rfl (by show 2 * 0 + _ ≤ _; exact Nat.le_of_eq rfl) (hb hby d25_20) (fun _ _ => ⟨rfl, e0, hcl, hsl⟩)
  dsimp only [Pt.U, Pt.locs, Pt.cells, Pt.slots] at X5 l5 y5 z5 st5 hQ5
  subst l5 y5 z5
  obtain ⟨rfl, N5q, K5, V5⟩ := hQ5
  have N5 := Fr.app N0 N5q
  refine ⟨T5, _, X5, N5, K5, V5, fun target kt => ?_⟩
  refine XS.iload X0.here hx rfl (hb hby d25_8) rfl ?_
  refine XS.iloadN X0.here hx rfl (hb hby d25_10) rfl ?_
  refine XS.icmpNo X0.here hx rfl (hb hby d25_11) rfl (tlt hc11).2.1 ?_
  refine XS.aloadN X0.here hx rfl (hb hby d25_14) rfl rfl ?_
  refine XS.iload X0.here hx rfl (hb hby d25_15) rfl ?_
  refine XS.aloadN X0.here hx rfl (hb hby d25_17) rfl rfl ?_
  refine XS.iloadN X0.here hx rfl (hb hby d25_18) rfl ?_
  refine X0.caload hx (j := i1) (v := (.int (cs.getD i 0))) (by rw [e0]; exact Ar_o0.1) (State.isArrayOf_alike hZ.alike Ar_o0.2.1) Ar_o0.2.2 hin19 hat19 (g := (mkF m 19 #[.val (.ref o0), .val (.int i1), .val (.int i2), .val (.ref o3), .val (.int i4)] [(.int i1), (.ref o0), (.int i4), (.ref o3)])) rfl rfl (hb hby d25_19) _ ?_
  refine st5 _ ?_
  refine XS.iinc X5.here hx rfl (hb hby d25_23) rfl (l' := #[.val (.ref o0), .val (.int (i1 + (1 : Int32))), .val (.int i2), .val (.ref o3), .val (.int i4)]) rfl ?_
  refine XS.iinc X5.here hx rfl (hb hby d25_26) rfl (l' := #[.val (.ref o0), .val (.int (i1 + (1 : Int32))), .val (.int i2), .val (.ref o3), .val (.int (i4 + (1 : Int32)))]) rfl ?_
  refine XS.goto X5.here hx rfl (pc0 := 29) (pc' := 8) rfl (hb hby d25_29) (by decide) (by decide) ?_
  exact kt
set_option maxRecDepth 65536 in
set_option maxHeartbeats 40000000 in
theorem tx {p : Program} {l : Launch} {e : Env} {s : State} {m : MethodId} {args : Array Value} {below : List Frame} {meth : Method} {c : Code} {T0 : State} {locs : List Loc} {cells slots : Nat} {Z : State} {a0 : Array Value} {h0 : Heap} (s0 : Slot) (s1 : Slot) (i2 : Int32) (s3 : Slot) (i4 : Int32)
    (X0 : Stand p l e own_R25 s m args below meth c T0 locs cells slots) (hx : p.tables.exec = Jvm.exec) (hZ : Z.Warmed39 s.vm) (hw : ∀ d ∈ tables_1, d.before a0 Z = true) (hby : c.code = jdk_52_method_14_code) (hml : c.maxLocals = 5) (hown : s.vm.findClass "java/lang/StringUTF16" = some m.cls) (e0 : T0.heap = h0) (hc11 : ¬ (i4 < i2)) :
    ∃ (T' : State), Stand p l e own_R25 s m args below meth c T' locs cells slots ∧ T'.heap = h0 ∧
      ∀ target, Steps p.tables e below (T'.setTop (mkF m 32 #[s0, s1, .val (.int i2), s3, .val (.int i4)] [])) target → Steps p.tables e below (T0.setTop (mkF m 8 #[s0, s1, .val (.int i2), s3, .val (.int i4)] [])) target := by
  refine ⟨T0, X0, e0, fun target kt => ?_⟩
  refine XS.iload X0.here hx rfl (hb hby d25_8) rfl ?_
  refine XS.iloadN X0.here hx rfl (hb hby d25_10) rfl ?_
  refine XS.icmpYes X0.here hx rfl (pc0 := 11) (pc' := 32) rfl (hb hby d25_11) rfl (flt hc11).2.1 (by decide) (by decide) ?_
  exact kt
theorem d25_0 : decode jdk_52_method_14_code 0 = .ok (.iload_n 2, 1) := by decide +kernel
theorem d25_1 : decode jdk_52_method_14_code 1 = .ok (.invokestatic 107, 3) := by decide +kernel
theorem d25_4 : decode jdk_52_method_14_code 4 = .ok (.astore_n 3, 1) := by decide +kernel
theorem d25_5 : decode jdk_52_method_14_code 5 = .ok (.iconst 0, 1) := by decide +kernel
theorem d25_6 : decode jdk_52_method_14_code 6 = .ok (.istore 4, 2) := by decide +kernel
theorem d25_32 : decode jdk_52_method_14_code 32 = .ok (.aload_n 3, 1) := by decide +kernel
theorem d25_33 : decode jdk_52_method_14_code 33 = .ok (.areturn, 1) := by decide +kernel
theorem pn_25 : plainName "java/lang/StringUTF16" = true := by first | (simp [plainName, overriddenIn]; done) | decide +kernel
theorem pd_25_18 : parseMethodDescriptor "(I)[B" = some ⟨[.int], some (.array .byte)⟩ := by decide +kernel
theorem ef_25 (m : MethodId) (x0 : Addr) (x1 : Int32) (x2 : Int32) : entryFrame m #[(.ref x0), (.int x1), (.int x2)] 5 = mkF m 0 #[.val (.ref x0), .val (.int x1), .val (.int x2), .unset, .unset] [] := by first | (simp [entryFrame, mkF, argsToLocals, Value.category]; done) | rfl
def Q25 (Z : State) (cs : List Int32) (h0 : Heap) (n0 : Nat) (v : Option Value) (h : Heap) (L : List Loc) : Prop := v = some (.ref h0.size) ∧ Fr n0 L ∧ Keep h0 h [] ∧ ∃ k, Arv Z h h0.size k .byte (10 : Int32) (StrChars.Road.wideBytes cs) (.int 0)
set_option maxRecDepth 65536 in
set_option maxHeartbeats 40000000 in
theorem r25 (l : Launch) (Z : State) (a0 : Array Value) (hw : ∀ d ∈ tables_1, d.before a0 Z = true) (ws : List Jvm.Cond) (a1 : Addr) (c0 c1 c2 c3 c4 : Int32) (kc : ClassId) (h0 : Heap) (n0 : Nat) (Z0 : n0 ≤ h0.size) (C : Arv Z h0 a1 kc .char (5 : Int32) ([c0, c1, c2, c3, c4].map Value.int) (.int 0)) (O : Old Z n0 h0) (SA0 : Sta Z Z.heap "java/lang/StringUTF16" "$assertionsDisabled" "Z" (.int 1)) (SH0 : Sta Z Z.heap "java/lang/StringUTF16" "HI_BYTE_SHIFT" "I" (.int 0)) (SL0 : Sta Z Z.heap "java/lang/StringUTF16" "LO_BYTE_SHIFT" "I" (.int 8)) :
    MetFree l (⟨"java/lang/StringUTF16", "toBytes", "([CII)[B"⟩ : MethodName) (head1 (Jvm.Cond.code (⟨"java/lang/StringUTF16", "toBytes", "([CII)[B"⟩ : MethodName) jdk_52_method_14_code 5 (some (.array .byte)) :: ws) own_R25) (fun a U => a = #[(.ref a1), (.int 0), (.int 5)] ∧ Z.Warmed39 U.vm ∧ U.heap = h0) (fun _ _ _ _ _ => True) (fun _ U o U' => ∃ v L, o = .returned v ∧ Q25 Z [c0, c1, c2, c3, c4] h0 n0 v U'.heap L ∧ FrameEnd U o U' L own_R25.cells own_R25.slots) := by
  refine MetFree.of_bodySF (plainFor_of_name pn_25) hisR ?_
  intro p e s m args below meth c s₁ Bd hml0 hP hK
  obtain ⟨rfl, hZ, hh⟩ := hP
  have hx := Bd.exec
  have hby := Bd.bytes
  have hml : c.maxLocals = 5 := hml0
  have hown : s.vm.findClass "java/lang/StringUTF16" = some m.cls := findClass_of_methodNamed Bd.named
  have hnm := (name_of_methodNamed Bd.named Bd.method).1
  have X0 : Stand p l e own_R25 s m #[(.ref a1), (.int 0), (.int 5)] below meth c s₁ [] 0 0 := Stand.of_body Bd
  have e0 : s₁.heap = h0 := by rw [← hh, Bd.state]; rfl
  have N0 := Fr.nil n0
  have pre0 : ∀ t, Steps p.tables e below (s₁.setTop (mkF m 0 #[.val (.ref a1), .val (.int 0), .val (.int 5), .unset, .unset] [])) t → Steps p.tables e below (s₁.setTop (entryFrame m #[(.ref a1), (.int 0), (.int 5)] 5)) t := fun t k => castTop (ef_25 m a1 (0 : Int32) (5 : Int32)) k
  obtain ⟨_, _, ⟨T4, L4, k4, n4⟩, -, X4, ⟨Lc4, hQ4, l4, y4, z4⟩, st4⟩ := Jvm.LawKit.callS X0 hx (y := (⟨"java/lang/StringUTF16", "newBytesFor", "(I)[B"⟩ : MethodName)) hown (mvT hZ (own_W hw 131 rfl)) (mvT hZ (own_W hw 132 rfl)) (mvT hZ (own_W hw 21 rfl)) (mvT hZ (own_W hw 133 rfl)) (by decide) (backOf (W := 0) (r26 l Z a0 hw [] h0 n0 Z0) hZ (own_W hw 133 rfl) (own_W hw 21 rfl) (by decide) (by decide)) (g := (mkF m 1 #[.val (.ref a1), .val (.int 0), .val (.int 5), .unset, .unset] [(.int 5)])) rfl (by rw [hml]; rfl) (argsL := [(.int 5)]) (rest := []) (lenOf pd_25_18 rfl) rfl (by show 2 * 0 + _ ≤ _; exact Nat.le_of_eq rfl) (hb hby d25_1) (fun _ _ => ⟨rfl, e0, (by decide : 0 + 1 ≤ _), (by decide : 0 + 10 ≤ _)⟩)
  dsimp only [Pt.U, Pt.locs, Pt.cells, Pt.slots] at X4 l4 y4 z4 st4 hQ4
  subst l4 y4 z4
  obtain ⟨rfl, N4q, K4, kb, V4⟩ := hQ4
  have N4 := Fr.app N0 N4q
  have O4 := O.keep K4 all0
  have C4 := C.keep K4 nin0
  have Z4 := Nat.le_trans Z0 K4.1
  have ne : a1 ≠ h0.size := Nat.ne_of_lt C.lt
  have q1 : ∀ x ∈ [h0.size], x ∈ ([] : List Addr) ∨ h0.size ≤ x := fun x hx => Or.inr (Nat.le_of_eq (List.mem_singleton.mp hx).symm)
  obtain ⟨T5, L5, X5, N5, K5, V5, st5⟩ := tb a1 (0 : Int32) (5 : Int32) h0.size (0 : Int32) [c0, c1, c2, c3, c4] 0 kc kb _ n0 X4 hx hZ hw hby hml hown rfl rfl (by decide) (by decide) (by decide) C4 V4 rfl Z0 (SA0.ext O4.2) (SH0.ext O4.2) (SL0.ext O4.2) Z4 N4 (by decide) (by decide) (by decide)
  have O5 := O4.keep K5 (allS Z0 all0)
  have C5 := C4.keep K5 (ninS ne nin0)
  have Z5 := Nat.le_trans Z4 K5.1
  obtain ⟨T6, L6, X6, N6, K6, V6, st6⟩ := tb a1 ((0 : Int32) + (1 : Int32)) (5 : Int32) h0.size ((0 : Int32) + (1 : Int32)) [c0, c1, c2, c3, c4] 1 kc kb _ n0 X5 hx hZ hw hby hml hown rfl rfl (by decide) (by decide) (by decide) C5 V5 rfl Z0 (SA0.ext O5.2) (SH0.ext O5.2) (SL0.ext O5.2) Z5 N5 (by decide) (by decide) (by decide)
  have O6 := O5.keep K6 (allS Z0 all0)
  have C6 := C5.keep K6 (ninS ne nin0)
  have Z6 := Nat.le_trans Z5 K6.1
  obtain ⟨T7, L7, X7, N7, K7, V7, st7⟩ := tb a1 (((0 : Int32) + (1 : Int32)) + (1 : Int32)) (5 : Int32) h0.size (((0 : Int32) + (1 : Int32)) + (1 : Int32)) [c0, c1, c2, c3, c4] 2 kc kb _ n0 X6 hx hZ hw hby hml hown rfl rfl (by decide) (by decide) (by decide) C6 V6 rfl Z0 (SA0.ext O6.2) (SH0.ext O6.2) (SL0.ext O6.2) Z6 N6 (by decide) (by decide) (by decide)
  have O7 := O6.keep K7 (allS Z0 all0)
  have C7 := C6.keep K7 (ninS ne nin0)
  have Z7 := Nat.le_trans Z6 K7.1
  obtain ⟨T8, L8, X8, N8, K8, V8, st8⟩ := tb a1 ((((0 : Int32) + (1 : Int32)) + (1 : Int32)) + (1 : Int32)) (5 : Int32) h0.size ((((0 : Int32) + (1 : Int32)) + (1 : Int32)) + (1 : Int32)) [c0, c1, c2, c3, c4] 3 kc kb _ n0 X7 hx hZ hw hby hml hown rfl rfl (by decide) (by decide) (by decide) C7 V7 rfl Z0 (SA0.ext O7.2) (SH0.ext O7.2) (SL0.ext O7.2) Z7 N7 (by decide) (by decide) (by decide)
  have O8 := O7.keep K8 (allS Z0 all0)
  have C8 := C7.keep K8 (ninS ne nin0)
  have Z8 := Nat.le_trans Z7 K8.1
  obtain ⟨T9, L9, X9, N9, K9, V9, st9⟩ := tb a1 (((((0 : Int32) + (1 : Int32)) + (1 : Int32)) + (1 : Int32)) + (1 : Int32)) (5 : Int32) h0.size (((((0 : Int32) + (1 : Int32)) + (1 : Int32)) + (1 : Int32)) + (1 : Int32)) [c0, c1, c2, c3, c4] 4 kc kb _ n0 X8 hx hZ hw hby hml hown rfl rfl (by decide) (by decide) (by decide) C8 V8 rfl Z0 (SA0.ext O8.2) (SH0.ext O8.2) (SL0.ext O8.2) Z8 N8 (by decide) (by decide) (by decide)
  have O9 := O8.keep K9 (allS Z0 all0)
  have C9 := C8.keep K9 (ninS ne nin0)
  have Z9 := Nat.le_trans Z8 K9.1
  obtain ⟨TA, XA, eA, stA⟩ := tx (.val (.ref a1)) (.val (.int ((((((0 : Int32) + (1 : Int32)) + (1 : Int32)) + (1 : Int32)) + (1 : Int32)) + (1 : Int32)))) (5 : Int32) (.val (.ref h0.size)) ((((((0 : Int32) + (1 : Int32)) + (1 : Int32)) + (1 : Int32)) + (1 : Int32)) + (1 : Int32)) X9 hx hZ hw hby hml hown rfl (by decide)
  have KK : Keep h0 T9.heap [] := ((((K4.trans K5 q1).trans K6 q1).trans K7 q1).trans K8 q1).trans K9 q1
  obtain ⟨fs, hr, hrun, hended, hW, hsame⟩ := XA.leave (v := some (.ref h0.size)) (fun h => by rw [Bd.returns] at h; cases h)
  refine ⟨_, _, pre0 _ ?_, hrun, hended, _, _, rfl, ?_, ⟨_, rfl⟩, hW, hsame.mono (by decide) (by decide)⟩
  · refine XS.iloadN X0.here hx rfl (hb hby d25_0) rfl ?_
    refine st4 _ ?_
    refine XS.astoreN X4.here hx rfl (hb hby d25_4) rfl rfl (l' := #[.val (.ref a1), .val (.int 0), .val (.int 5), .val (.ref h0.size), .unset]) rfl ?_
    refine XS.iconst X4.here hx rfl (hb hby d25_5) ?_
    refine XS.istore X4.here hx rfl (hb hby d25_6) rfl (l' := #[.val (.ref a1), .val (.int 0), .val (.int 5), .val (.ref h0.size), .val (.int 0)]) rfl ?_
    refine st5 _ (st6 _ (st7 _ (st8 _ (st9 _ (stA _ ?_)))))
    refine XS.aloadN XA.here hx rfl (hb hby d25_32) rfl rfl ?_
    jvm_step XA.here [XA.here.top, hx, (hb hby d25_33), XA.method', Bd.returns, Value.isRef, FieldType.isReference]
    first | (intro acts; rw [hr _ acts rfl rfl rfl]) | rw [hr _ _ rfl rfl rfl]
    exact Steps.refl _
  · show Q25 Z [c0, c1, c2, c3, c4] h0 n0 _ TA.heap _
    exact ⟨rfl, N9, (by rw [eA]; exact KK), kb, (by rw [eA]; exact V9)⟩
abbrev own_R6 : Room := { frames := 0, cells := 0, slots := 0, locals := 0 }
theorem d6_3 : decode jdk_52_method_21_code 3 = .ok (.iload 5, 2) := by decide +kernel
theorem d6_5 : decode jdk_52_method_21_code 5 = .ok (.iload 4, 2) := by decide +kernel
theorem d6_7 : decode jdk_52_method_21_code 7 = .ok (.if_icmp .ge 37, 3) := by decide +kernel
theorem d6_10 : decode jdk_52_method_21_code 10 = .ok (.aload_n 0, 1) := by decide +kernel
theorem d6_11 : decode jdk_52_method_21_code 11 = .ok (.iload_n 1, 1) := by decide +kernel
theorem d6_12 : decode jdk_52_method_21_code 12 = .ok (.caload, 1) := by decide +kernel
theorem d6_13 : decode jdk_52_method_21_code 13 = .ok (.istore 6, 2) := by decide +kernel
theorem d6_15 : decode jdk_52_method_21_code 15 = .ok (.iload 6, 2) := by decide +kernel
theorem d6_17 : decode jdk_52_method_21_code 17 = .ok (.sipush 255, 3) := by decide +kernel
theorem d6_20 : decode jdk_52_method_21_code 20 = .ok (.if_icmp .le 6, 3) := by decide +kernel
theorem d6_26 : decode jdk_52_method_21_code 26 = .ok (.aload_n 2, 1) := by decide +kernel
theorem d6_27 : decode jdk_52_method_21_code 27 = .ok (.iload_n 3, 1) := by decide +kernel
theorem d6_28 : decode jdk_52_method_21_code 28 = .ok (.iload 6, 2) := by decide +kernel
theorem d6_30 : decode jdk_52_method_21_code 30 = .ok (.i2b, 1) := by decide +kernel
theorem d6_31 : decode jdk_52_method_21_code 31 = .ok (.bastore, 1) := by decide +kernel
theorem d6_32 : decode jdk_52_method_21_code 32 = .ok (.iinc 1 1, 3) := by decide +kernel
theorem d6_35 : decode jdk_52_method_21_code 35 = .ok (.iinc 3 1, 3) := by decide +kernel
theorem d6_38 : decode jdk_52_method_21_code 38 = .ok (.iinc 5 1, 3) := by decide +kernel
theorem d6_41 : decode jdk_52_method_21_code 41 = .ok (.goto (-38), 3) := by decide +kernel
theorem os6_13_ct {z0 : Value} {z1 : Value} {z2 : Value} {z3 : Value} {z4 : Value} {z5 : Value} {s6 : Slot} {v : Int32} (h : One s6) : storeLocals #[.val z0, .val z1, .val z2, .val z3, .val z4, .val z5, s6] 6 (.int v) = some #[.val z0, .val z1, .val z2, .val z3, .val z4, .val z5, .val (.int v)] := by
  rcases h with rfl | ⟨w, rfl, hw⟩
  · rfl
  · cases w <;> first | rfl | (simp [Value.category] at hw)
set_option maxRecDepth 65536 in
set_option maxHeartbeats 40000000 in
theorem ct {p : Program} {l : Launch} {e : Env} {s : State} {m : MethodId} {args : Array Value} {below : List Frame} {meth : Method} {c : Code} {T0 : State} {locs : List Loc} {cells slots : Nat} {Z : State} {a0 : Array Value} {h0 : Heap} (o0 : Addr) (i1 : Int32) (o2 : Addr) (i3 : Int32) (i4 : Int32) (i5 : Int32) (s6 : Slot) (cs : List Int32) (i : Nat) (kc kb : ClassId) (vs : List Value) (n0 : Nat)
    (X0 : Stand p l e own_R6 s m args below meth c T0 locs cells slots) (hx : p.tables.exec = Jvm.exec) (hZ : Z.Warmed39 s.vm) (hw : ∀ d ∈ tables_1, d.before a0 Z = true) (hby : c.code = jdk_52_method_21_code) (hml : c.maxLocals = 7) (hown : s.vm.findClass "java/lang/StringUTF16" = some m.cls) (e0 : T0.heap = h0) (hcs : cs.length = 5) (hi : i < 5) (h1 : i1 = Int32.ofNat i) (C : Arv Z h0 o0 kc .char (5 : Int32) (cs.map Value.int) (.int 0)) (h3 : i3 = Int32.ofNat i) (V : Arv Z h0 o2 kb .byte (5 : Int32) vs (.int 0)) (hvs : vs.length = 5) (Z0 : n0 ≤ h0.size) (N0 : Fr n0 locs) (hcl : cells ≤ own_R6.cells) (hsl : slots ≤ own_R6.slots) (hs6 : One s6) (g_o2 : n0 ≤ o2) (hc7 : i5 < i4) (hc20 : ¬ ((255 : Int32) < (cs.getD i 0))) :
    ∃ (T' : State) (locs' : List Loc) (vs' : List Value), Stand p l e own_R6 s m args below meth c T' locs' cells slots ∧ Fr n0 locs' ∧ Keep h0 T'.heap [o2] ∧ Arv Z T'.heap o2 kb .byte (5 : Int32) vs' (.int 0) ∧ vs'.length = 5 ∧
      ∀ target, Steps p.tables e below (T'.setTop (mkF m 3 #[.val (.ref o0), .val (.int (i1 + (1 : Int32))), .val (.ref o2), .val (.int (i3 + (1 : Int32))), .val (.int i4), .val (.int (i5 + (1 : Int32))), .val (.int (cs.getD i 0))] [])) target → Steps p.tables e below (T0.setTop (mkF m 3 #[.val (.ref o0), .val (.int i1), .val (.ref o2), .val (.int i3), .val (.int i4), .val (.int i5), s6] [])) target := by
  obtain ⟨cl_o0, Ar_o0, qc, Sc, Mc, Hc, Gc⟩ := C
  have x1 : (i1).toNatClampNeg = i := by rw [h1]; exact own_cl i (by omega)
  have hin12 : ¬ (i1 < 0 ∨ cl_o0.slots.size ≤ (i1).toNatClampNeg) := fun q => q.elim (by rw [h1]; exact own_nn i (by omega)) (by rw [x1, Sc]; show ¬ 5 ≤ i; omega)
  have hat12 : cl_o0.slots[(i1).toNatClampNeg]? = some (.int (cs.getD i 0)) := by
    rw [x1, Hc i (by rw [Sc]; exact hi)]
    simp [List.getD_eq_getElem?_getD, List.getElem?_eq_getElem (show i < cs.length by omega)]
  obtain ⟨cl_o2, Ar_o2, q2, S2, M2, H2, G2⟩ := V
  have x3 : (i3).toNatClampNeg = i := by rw [h3]; exact own_cl i (by omega)
  have hin31 : ¬ (i3 < 0 ∨ cl_o2.slots.size ≤ (i3).toNatClampNeg) := fun q => q.elim (by rw [h3]; exact own_nn i (by omega)) (by rw [x3, S2]; show ¬ 5 ≤ i; omega)
  obtain ⟨T7, h7, X7, e7, W7, st7⟩ := stB X0 hx hZ e0 Ar_o2 (j := i3) hin31 (g := (mkF m 31 #[.val (.ref o0), .val (.int i1), .val (.ref o2), .val (.int i3), .val (.int i4), .val (.int i5), .val (.int (cs.getD i 0))] [(.int ((cs.getD i 0).toInt8.toInt32)), (.int i3), (.ref o2)])) rfl rfl (hb hby d6_31)
  have N7 := Fr.snoc X7 N0 g_o2
  have K7 : Keep h0 h7 [o2] := (Keep.refl h0 [o2]).wr W7 (Or.inl (List.mem_of_getElem? (i := 0) rfl))
  refine ⟨T7, _, _, X7, N7, by rw [e7]; exact K7, by rw [e7]; exact Arv.set Ar_o2 q2 S2 M2 H2 G2 (fits_nar_byte _) W7 i x3 (by omega), by rw [List.length_set]; exact hvs, fun target kt => ?_⟩
  refine XS.iload X0.here hx rfl (hb hby d6_3) rfl ?_
  refine XS.iload X0.here hx rfl (hb hby d6_5) rfl ?_
  refine XS.icmpNo X0.here hx rfl (hb hby d6_7) rfl (tlt hc7).2.1 ?_
  refine XS.aloadN X0.here hx rfl (hb hby d6_10) rfl rfl ?_
  refine XS.iloadN X0.here hx rfl (hb hby d6_11) rfl ?_
  refine X0.caload hx (j := i1) (v := (.int (cs.getD i 0))) (by rw [e0]; exact Ar_o0.1) (State.isArrayOf_alike hZ.alike Ar_o0.2.1) Ar_o0.2.2 hin12 hat12 (g := (mkF m 12 #[.val (.ref o0), .val (.int i1), .val (.ref o2), .val (.int i3), .val (.int i4), .val (.int i5), s6] [(.int i1), (.ref o0)])) rfl rfl (hb hby d6_12) _ ?_
  refine XS.istore X0.here hx rfl (hb hby d6_13) rfl (l' := #[.val (.ref o0), .val (.int i1), .val (.ref o2), .val (.int i3), .val (.int i4), .val (.int i5), .val (.int (cs.getD i 0))]) (os6_13_ct hs6) ?_
  refine XS.iload X0.here hx rfl (hb hby d6_15) rfl ?_
  refine XS.sipush X0.here hx rfl (hb hby d6_17) ?_
  refine XS.icmpYes X0.here hx rfl (pc0 := 20) (pc' := 26) rfl (hb hby d6_20) rfl (flt hc20).2.2.2 (by decide) (by decide) ?_
  refine XS.aloadN X0.here hx rfl (hb hby d6_26) rfl rfl ?_
  refine XS.iloadN X0.here hx rfl (hb hby d6_27) rfl ?_
  refine XS.iload X0.here hx rfl (hb hby d6_28) rfl ?_
  refine XS.i2b X0.here hx rfl (hb hby d6_30) rfl ?_
  refine st7 _ ?_
  refine XS.iinc X7.here hx rfl (hb hby d6_32) rfl (l' := #[.val (.ref o0), .val (.int (i1 + (1 : Int32))), .val (.ref o2), .val (.int i3), .val (.int i4), .val (.int i5), .val (.int (cs.getD i 0))]) rfl ?_
  refine XS.iinc X7.here hx rfl (hb hby d6_35) rfl (l' := #[.val (.ref o0), .val (.int (i1 + (1 : Int32))), .val (.ref o2), .val (.int (i3 + (1 : Int32))), .val (.int i4), .val (.int i5), .val (.int (cs.getD i 0))]) rfl ?_
  refine XS.iinc X7.here hx rfl (hb hby d6_38) rfl (l' := #[.val (.ref o0), .val (.int (i1 + (1 : Int32))), .val (.ref o2), .val (.int (i3 + (1 : Int32))), .val (.int i4), .val (.int (i5 + (1 : Int32))), .val (.int (cs.getD i 0))]) rfl ?_
  refine XS.goto X7.here hx rfl (pc0 := 41) (pc' := 3) rfl (hb hby d6_41) (by decide) (by decide) ?_
  exact kt
theorem os6_13_cx {z0 : Value} {z1 : Value} {s2 : Slot} {s3 : Slot} {z4 : Value} {z5 : Value} {s6 : Slot} {v : Int32} (h : One s6) : storeLocals #[.val z0, .val z1, s2, s3, .val z4, .val z5, s6] 6 (.int v) = some #[.val z0, .val z1, s2, s3, .val z4, .val z5, .val (.int v)] := by
  rcases h with rfl | ⟨w, rfl, hw⟩
  · rfl
  · cases w <;> first | rfl | (simp [Value.category] at hw)
set_option maxRecDepth 65536 in
set_option maxHeartbeats 40000000 in
theorem cx {p : Program} {l : Launch} {e : Env} {s : State} {m : MethodId} {args : Array Value} {below : List Frame} {meth : Method} {c : Code} {T0 : State} {locs : List Loc} {cells slots : Nat} {Z : State} {a0 : Array Value} {h0 : Heap} (o0 : Addr) (i1 : Int32) (s2 : Slot) (s3 : Slot) (i4 : Int32) (i5 : Int32) (s6 : Slot) (cs : List Int32) (i : Nat) (kc : ClassId)
    (X0 : Stand p l e own_R6 s m args below meth c T0 locs cells slots) (hx : p.tables.exec = Jvm.exec) (hZ : Z.Warmed39 s.vm) (hw : ∀ d ∈ tables_1, d.before a0 Z = true) (hby : c.code = jdk_52_method_21_code) (hml : c.maxLocals = 7) (hown : s.vm.findClass "java/lang/StringUTF16" = some m.cls) (e0 : T0.heap = h0) (hcs : cs.length = 5) (hi : i < 5) (h1 : i1 = Int32.ofNat i) (C : Arv Z h0 o0 kc .char (5 : Int32) (cs.map Value.int) (.int 0)) (hs6 : One s6) (hc7 : i5 < i4) (hc20 : (255 : Int32) < (cs.getD i 0)) :
    ∃ (T' : State), Stand p l e own_R6 s m args below meth c T' locs cells slots ∧ T'.heap = h0 ∧
      ∀ target, Steps p.tables e below (T'.setTop (mkF m 23 #[.val (.ref o0), .val (.int i1), s2, s3, .val (.int i4), .val (.int i5), .val (.int (cs.getD i 0))] [])) target → Steps p.tables e below (T0.setTop (mkF m 3 #[.val (.ref o0), .val (.int i1), s2, s3, .val (.int i4), .val (.int i5), s6] [])) target := by
  obtain ⟨cl_o0, Ar_o0, qc, Sc, Mc, Hc, Gc⟩ := C
  have x1 : (i1).toNatClampNeg = i := by rw [h1]; exact own_cl i (by omega)
  have hin12 : ¬ (i1 < 0 ∨ cl_o0.slots.size ≤ (i1).toNatClampNeg) := fun q => q.elim (by rw [h1]; exact own_nn i (by omega)) (by rw [x1, Sc]; show ¬ 5 ≤ i; omega)
  have hat12 : cl_o0.slots[(i1).toNatClampNeg]? = some (.int (cs.getD i 0)) := by
    rw [x1, Hc i (by rw [Sc]; exact hi)]
    simp [List.getD_eq_getElem?_getD, List.getElem?_eq_getElem (show i < cs.length by omega)]
  refine ⟨T0, X0, e0, fun target kt => ?_⟩
  refine XS.iload X0.here hx rfl (hb hby d6_3) rfl ?_
  refine XS.iload X0.here hx rfl (hb hby d6_5) rfl ?_
  refine XS.icmpNo X0.here hx rfl (hb hby d6_7) rfl (tlt hc7).2.1 ?_
  refine XS.aloadN X0.here hx rfl (hb hby d6_10) rfl rfl ?_
  refine XS.iloadN X0.here hx rfl (hb hby d6_11) rfl ?_
  refine X0.caload hx (j := i1) (v := (.int (cs.getD i 0))) (by rw [e0]; exact Ar_o0.1) (State.isArrayOf_alike hZ.alike Ar_o0.2.1) Ar_o0.2.2 hin12 hat12 (g := (mkF m 12 #[.val (.ref o0), .val (.int i1), s2, s3, .val (.int i4), .val (.int i5), s6] [(.int i1), (.ref o0)])) rfl rfl (hb hby d6_12) _ ?_
  refine XS.istore X0.here hx rfl (hb hby d6_13) rfl (l' := #[.val (.ref o0), .val (.int i1), s2, s3, .val (.int i4), .val (.int i5), .val (.int (cs.getD i 0))]) (os6_13_cx hs6) ?_
  refine XS.iload X0.here hx rfl (hb hby d6_15) rfl ?_
  refine XS.sipush X0.here hx rfl (hb hby d6_17) ?_
  refine XS.icmpNo X0.here hx rfl (hb hby d6_20) rfl (tlt hc20).2.2.2 ?_
  exact kt
theorem own_succ (a : Nat) (ha : a < 32) : Int32.ofNat a + (1 : Int32) = Int32.ofNat (a + 1) := (by decide +kernel : ∀ a : Fin 32, Int32.ofNat a.val + (1 : Int32) = Int32.ofNat (a.val + 1)) ⟨a, ha⟩
theorem own_cloop {p : Program} {l : Launch} {e : Env} {s : State} {m : MethodId} {args : Array Value} {below : List Frame} {meth : Method} {c : Code} {cells slots : Nat} {Z : State} {a0 : Array Value} (o0 o2 : Addr) (cs : List Int32) (k : Nat) (kc kb : ClassId) (n0 : Nat) (hx : p.tables.exec = Jvm.exec) (hZ : Z.Warmed39 s.vm) (hw : ∀ d ∈ tables_1, d.before a0 Z = true) (hby : c.code = jdk_52_method_21_code) (hml : c.maxLocals = 7) (hown : s.vm.findClass "java/lang/StringUTF16" = some m.cls) (hcs : cs.length = 5) (hk : k < 5) (hlo : ∀ j, j < k → ¬ (255 : Int32) < cs.getD j 0) (hhi : (255 : Int32) < cs.getD k 0) (hne : o0 ≠ o2) (g2 : n0 ≤ o2) (hcl : cells ≤ own_R6.cells) (hsl : slots ≤ own_R6.slots) :
    ∀ (r i : Nat) (s6 : Slot) (vs : List Value) (T0 : State) (locs : List Loc), i + r = k → One s6 → Stand p l e own_R6 s m args below meth c T0 locs cells slots → Fr n0 locs → n0 ≤ T0.heap.size → Arv Z T0.heap o0 kc .char (5 : Int32) (cs.map Value.int) (.int 0) → Arv Z T0.heap o2 kb .byte (5 : Int32) vs (.int 0) → vs.length = 5 →
      ∃ (T' : State) (locs' : List Loc) (s6' : Slot), Stand p l e own_R6 s m args below meth c T' locs' cells slots ∧ Fr n0 locs' ∧ Keep T0.heap T'.heap [o2] ∧ ∀ target, Steps p.tables e below (T'.setTop (mkF m 23 #[.val (.ref o0), .val (.int (Int32.ofNat k)), .val (.ref o2), .val (.int (Int32.ofNat k)), .val (.int 5), .val (.int (Int32.ofNat k)), s6'] [])) target → Steps p.tables e below (T0.setTop (mkF m 3 #[.val (.ref o0), .val (.int (Int32.ofNat i)), .val (.ref o2), .val (.int (Int32.ofNat i)), .val (.int 5), .val (.int (Int32.ofNat i)), s6] [])) target := by
  intro r
  induction r with
  | zero =>
    intro i s6 vs T0 locs hik h6 X0 N0 Z0 C V hvs
    obtain rfl : i = k := by omega
    obtain ⟨T1, X1, e1, st1⟩ := cx o0 (Int32.ofNat i) (.val (.ref o2)) (.val (.int (Int32.ofNat i))) (5 : Int32) (Int32.ofNat i) s6 cs i kc X0 hx hZ hw hby hml hown rfl hcs hk rfl C h6 ((own_lt i 5 (by omega) (by decide)).mpr hk) hhi
    exact ⟨T1, locs, _, X1, N0, by rw [e1]; exact Keep.refl _ _, st1⟩
  | succ r ih =>
    intro i s6 vs T0 locs hik h6 X0 N0 Z0 C V hvs
    obtain ⟨T1, L1, vs1, X1, N1, K1, V1, hv1, st1⟩ := ct o0 (Int32.ofNat i) o2 (Int32.ofNat i) (5 : Int32) (Int32.ofNat i) s6 cs i kc kb vs n0 X0 hx hZ hw hby hml hown rfl hcs (by omega) rfl C rfl V hvs Z0 N0 hcl hsl h6 g2 ((own_lt i 5 (by omega) (by decide)).mpr (by omega)) (hlo i (by omega))
    rw [own_succ i (by omega)] at st1
    obtain ⟨T2, L2, s2, X2, N2, K2, st2⟩ := ih (i + 1) (.val (.int (cs.getD i 0))) vs1 T1 L1 (by omega) (One.val rfl) X1 N1 (Nat.le_trans Z0 K1.1) (C.keep K1 (ninS hne nin0)) V1 hv1
    exact ⟨T2, L2, s2, X2, N2, K1.trans K2 (fun x hx => Or.inl hx), fun t q => st1 _ (st2 _ q)⟩
theorem d6_0 : decode jdk_52_method_21_code 0 = .ok (.iconst 0, 1) := by decide +kernel
theorem d6_1 : decode jdk_52_method_21_code 1 = .ok (.istore 5, 2) := by decide +kernel
theorem d6_23 : decode jdk_52_method_21_code 23 = .ok (.iload 5, 2) := by decide +kernel
theorem d6_25 : decode jdk_52_method_21_code 25 = .ok (.ireturn, 1) := by decide +kernel
theorem pn_6 : plainName "java/lang/StringUTF16" = true := by first | (simp [plainName, overriddenIn]; done) | decide +kernel
theorem ef_6 (m : MethodId) (x0 : Addr) (x1 : Int32) (x2 : Addr) (x3 : Int32) (x4 : Int32) : entryFrame m #[(.ref x0), (.int x1), (.ref x2), (.int x3), (.int x4)] 7 = mkF m 0 #[.val (.ref x0), .val (.int x1), .val (.ref x2), .val (.int x3), .val (.int x4), .unset, .unset] [] := by first | (simp [entryFrame, mkF, argsToLocals, Value.category]; done) | rfl
def Q6 (a3 : Addr) (k : Nat) (h0 : Heap) (n0 : Nat) (v : Option Value) (h : Heap) (L : List Loc) : Prop := v = some (.int (Int32.ofNat k)) ∧ Fr n0 L ∧ Keep h0 h [a3]
set_option maxRecDepth 65536 in
set_option maxHeartbeats 40000000 in
theorem r6 (l : Launch) (Z : State) (a0 : Array Value) (hw : ∀ d ∈ tables_1, d.before a0 Z = true) (ws : List Jvm.Cond) (a1 a3 : Addr) (cs : List Int32) (k : Nat) (kc kb : ClassId) (vs : List Value) (h0 : Heap) (n0 : Nat) (Z0 : n0 ≤ h0.size) (hcs : cs.length = 5) (hk : k < 5) (hlo : ∀ j, j < k → ¬ (255 : Int32) < cs.getD j 0) (hhi : (255 : Int32) < cs.getD k 0) (hne : a1 ≠ a3) (g2 : n0 ≤ a3) (C : Arv Z h0 a1 kc .char (5 : Int32) (cs.map Value.int) (.int 0)) (V : Arv Z h0 a3 kb .byte (5 : Int32) vs (.int 0)) (hvs : vs.length = 5) :
    MetFree l (⟨"java/lang/StringUTF16", "compress", "([CI[BII)I"⟩ : MethodName) (head1 (Jvm.Cond.code (⟨"java/lang/StringUTF16", "compress", "([CI[BII)I"⟩ : MethodName) jdk_52_method_21_code 7 (some .int) :: ws) own_R6) (fun a U => a = #[(.ref a1), (.int 0), (.ref a3), (.int 0), (.int 5)] ∧ Z.Warmed39 U.vm ∧ U.heap = h0) (fun _ _ _ _ _ => True) (fun _ U o U' => ∃ v L, o = .returned v ∧ Q6 a3 k h0 n0 v U'.heap L ∧ FrameEnd U o U' L own_R6.cells own_R6.slots) := by
  refine MetFree.of_bodySF (plainFor_of_name pn_6) hisR ?_
  intro p e s m args below meth c s₁ Bd hml0 hP hK
  obtain ⟨rfl, hZ, hh⟩ := hP
  have hx := Bd.exec
  have hby := Bd.bytes
  have hml : c.maxLocals = 7 := hml0
  have hown : s.vm.findClass "java/lang/StringUTF16" = some m.cls := findClass_of_methodNamed Bd.named
  have hnm := (name_of_methodNamed Bd.named Bd.method).1
  have X0 : Stand p l e own_R6 s m #[(.ref a1), (.int 0), (.ref a3), (.int 0), (.int 5)] below meth c s₁ [] 0 0 := Stand.of_body Bd
  have e0 : s₁.heap = h0 := by rw [← hh, Bd.state]; rfl
  have N0 := Fr.nil n0
  have pre0 : ∀ t, Steps p.tables e below (s₁.setTop (mkF m 0 #[.val (.ref a1), .val (.int 0), .val (.ref a3), .val (.int 0), .val (.int 5), .unset, .unset] [])) t → Steps p.tables e below (s₁.setTop (entryFrame m #[(.ref a1), (.int 0), (.ref a3), (.int 0), (.int 5)] 7)) t := fun t k => castTop (ef_6 m a1 (0 : Int32) a3 (0 : Int32) (5 : Int32)) k
  obtain ⟨T1, L1, s6, X1, N1, K1, st1⟩ := own_cloop a1 a3 cs k kc kb n0 hx hZ hw hby hml hown hcs hk hlo hhi hne g2 (Nat.le_refl _) (Nat.le_refl _) k 0 .unset vs s₁ [] (by omega) One.u X0 N0 (by rw [e0]; exact Z0) (by rw [e0]; exact C) (by rw [e0]; exact V) hvs
  rw [e0] at K1
  obtain ⟨fs, hr, hrun, hended, hW, hsame⟩ := X1.leave (v := some (.int (Int32.ofNat k))) (fun h => by rw [Bd.returns] at h; cases h)
  refine ⟨_, _, pre0 _ ?_, hrun, hended, _, _, rfl, ?_, ⟨_, rfl⟩, hW, hsame.mono (by decide) (by decide)⟩
  · refine XS.iconst X0.here hx rfl (hb hby d6_0) ?_
    refine XS.istore X0.here hx rfl (hb hby d6_1) rfl (l' := #[.val (.ref a1), .val (.int 0), .val (.ref a3), .val (.int 0), .val (.int 5), .val (.int 0), .unset]) rfl ?_
    refine st1 _ ?_
    refine XS.iload X1.here hx rfl (hb hby d6_23) rfl ?_
    exact retI X1 hx Bd.returns (hb hby d6_25) hr
  · exact ⟨rfl, N1, K1⟩
theorem d5_0 : decode jdk_52_method_16_code 0 = .ok (.iload_n 2, 1) := by decide +kernel
theorem d5_1 : decode jdk_52_method_16_code 1 = .ok (.newarray .byte, 2) := by decide +kernel
theorem d5_3 : decode jdk_52_method_16_code 3 = .ok (.astore_n 3, 1) := by decide +kernel
theorem d5_4 : decode jdk_52_method_16_code 4 = .ok (.aload_n 0, 1) := by decide +kernel
theorem d5_5 : decode jdk_52_method_16_code 5 = .ok (.iload_n 1, 1) := by decide +kernel
theorem d5_6 : decode jdk_52_method_16_code 6 = .ok (.aload_n 3, 1) := by decide +kernel
theorem d5_7 : decode jdk_52_method_16_code 7 = .ok (.iconst 0, 1) := by decide +kernel
theorem d5_8 : decode jdk_52_method_16_code 8 = .ok (.iload_n 2, 1) := by decide +kernel
theorem d5_9 : decode jdk_52_method_16_code 9 = .ok (.invokestatic 115, 3) := by decide +kernel
theorem d5_12 : decode jdk_52_method_16_code 12 = .ok (.istore 4, 2) := by decide +kernel
theorem d5_14 : decode jdk_52_method_16_code 14 = .ok (.iload 4, 2) := by decide +kernel
theorem d5_16 : decode jdk_52_method_16_code 16 = .ok (.iload_n 2, 1) := by decide +kernel
theorem d5_17 : decode jdk_52_method_16_code 17 = .ok (.if_icmp .eq 40, 3) := by decide +kernel
theorem d5_20 : decode jdk_52_method_16_code 20 = .ok (.aload_n 0, 1) := by decide +kernel
theorem d5_21 : decode jdk_52_method_16_code 21 = .ok (.iload_n 1, 1) := by decide +kernel
theorem d5_22 : decode jdk_52_method_16_code 22 = .ok (.iload_n 2, 1) := by decide +kernel
theorem d5_23 : decode jdk_52_method_16_code 23 = .ok (.invokestatic 119, 3) := by decide +kernel
theorem d5_26 : decode jdk_52_method_16_code 26 = .ok (.astore 5, 2) := by decide +kernel
theorem d5_28 : decode jdk_52_method_16_code 28 = .ok (.aload 5, 2) := by decide +kernel
theorem d5_30 : decode jdk_52_method_16_code 30 = .ok (.iload 4, 2) := by decide +kernel
theorem d5_32 : decode jdk_52_method_16_code 32 = .ok (.invokestatic 71, 3) := by decide +kernel
theorem d5_35 : decode jdk_52_method_16_code 35 = .ok (.sipush 255, 3) := by decide +kernel
theorem d5_38 : decode jdk_52_method_16_code 38 = .ok (.if_icmp .gt 16, 3) := by decide +kernel
theorem d5_54 : decode jdk_52_method_16_code 54 = .ok (.aload 5, 2) := by decide +kernel
theorem d5_56 : decode jdk_52_method_16_code 56 = .ok (.areturn, 1) := by decide +kernel
theorem pn_5 : plainName "java/lang/StringUTF16" = true := by first | (simp [plainName, overriddenIn]; done) | decide +kernel
theorem pd_5_5 : parseMethodDescriptor "([CI[BII)I" = some ⟨[(.array .char), .int, (.array .byte), .int, .int], some .int⟩ := by decide +kernel
theorem pd_5_4 : parseMethodDescriptor "([CII)[B" = some ⟨[(.array .char), .int, .int], some (.array .byte)⟩ := by decide +kernel
theorem pd_5_13 : parseMethodDescriptor "([BI)C" = some ⟨[(.array .byte), .int], some .char⟩ := by decide +kernel
theorem ef_5 (m : MethodId) (x0 : Addr) (x1 : Int32) (x2 : Int32) : entryFrame m #[(.ref x0), (.int x1), (.int x2)] 6 = mkF m 0 #[.val (.ref x0), .val (.int x1), .val (.int x2), .unset, .unset, .unset] [] := by first | (simp [entryFrame, mkF, argsToLocals, Value.category]; done) | rfl
def Q5 (Z : State) (cs : List Int32) (h0 : Heap) (n0 : Nat) (v : Option Value) (h : Heap) (L : List Loc) : Prop := ∃ b, v = some (.ref b) ∧ Fr n0 L ∧ Keep h0 h [] ∧ h0.size ≤ b ∧ ∃ k, Arv Z h b k .byte (10 : Int32) (StrChars.Road.wideBytes cs) (.int 0)
abbrev own_R5 : Room := { frames := 3, cells := 2, slots := 15, locals := 60 }
theorem own_ne5 (k : Nat) (hk : k < 5) : ¬ (Int32.ofNat k = (5 : Int32)) := (by decide +kernel : ∀ k : Fin 5, ¬ (Int32.ofNat k.val = (5 : Int32))) ⟨k, hk⟩
set_option maxRecDepth 65536 in
set_option maxHeartbeats 40000000 in
theorem r5 (l : Launch) (Z : State) (a0 : Array Value) (hw : ∀ d ∈ tables_1, d.before a0 Z = true) (ws : List Jvm.Cond) (a1 : Addr) (c0 c1 c2 c3 c4 : Int32) (k : Nat) (kc : ClassId) (h0 : Heap) (n0 : Nat) (Z0 : n0 ≤ h0.size) (hk : k < 5) (hlo : ∀ j, j < k → ¬ (255 : Int32) < [c0, c1, c2, c3, c4].getD j 0) (hhi : (255 : Int32) < [c0, c1, c2, c3, c4].getD k 0) (hbb : ∀ c ∈ [c0, c1, c2, c3, c4], ¬ c < 0 ∧ ¬ (65535 : Int32) < c) (C : Arv Z h0 a1 kc .char (5 : Int32) ([c0, c1, c2, c3, c4].map Value.int) (.int 0)) (O : Old Z n0 h0) (SA0 : Sta Z Z.heap "java/lang/StringUTF16" "$assertionsDisabled" "Z" (.int 1)) (SH0 : Sta Z Z.heap "java/lang/StringUTF16" "HI_BYTE_SHIFT" "I" (.int 0)) (SL0 : Sta Z Z.heap "java/lang/StringUTF16" "LO_BYTE_SHIFT" "I" (.int 8)) :
    MetFree l (⟨"java/lang/StringUTF16", "compress", "([CII)[B"⟩ : MethodName) (head1 (Jvm.Cond.code (⟨"java/lang/StringUTF16", "compress", "([CII)[B"⟩ : MethodName) jdk_52_method_16_code 6 (some (.array .byte)) :: ws) own_R5) (fun a U => a = #[(.ref a1), (.int 0), (.int 5)] ∧ Z.Warmed39 U.vm ∧ U.heap = h0) (fun _ _ _ _ _ => True) (fun _ U o U' => ∃ v L, o = .returned v ∧ Q5 Z [c0, c1, c2, c3, c4] h0 n0 v U'.heap L ∧ FrameEnd U o U' L own_R5.cells own_R5.slots) := by
  refine MetFree.of_bodySF (plainFor_of_name pn_5) hisR ?_
  intro p e s m args below meth c s₁ Bd hml0 hP hK
  obtain ⟨rfl, hZ, hh⟩ := hP
  have hx := Bd.exec
  have hby := Bd.bytes
  have hml : c.maxLocals = 6 := hml0
  have hown : s.vm.findClass "java/lang/StringUTF16" = some m.cls := findClass_of_methodNamed Bd.named
  have hnm := (name_of_methodNamed Bd.named Bd.method).1
  have X0 : Stand p l e own_R5 s m #[(.ref a1), (.int 0), (.int 5)] below meth c s₁ [] 0 0 := Stand.of_body Bd
  have e0 : s₁.heap = h0 := by rw [← hh, Bd.state]; rfl
  have N0 := Fr.nil n0
  have pre0 : ∀ t, Steps p.tables e below (s₁.setTop (mkF m 0 #[.val (.ref a1), .val (.int 0), .val (.int 5), .unset, .unset, .unset] [])) t → Steps p.tables e below (s₁.setTop (entryFrame m #[(.ref a1), (.int 0), (.int 5)] 6)) t := fun t k => castTop (ef_5 m a1 (0 : Int32) (5 : Int32)) k
  obtain ⟨T4, h4, k4, X4, e4, E4, A4, st4⟩ := newP X0 hx hZ (own_W hw 23 rfl) e0 (g := (mkF m 1 #[.val (.ref a1), .val (.int 0), .val (.int 5), .unset, .unset, .unset] [(.int 5)])) rfl (hb hby d5_1) rfl (by decide) (cap := 5) (by decide) (by decide) (by decide) (by decide)
  obtain ⟨b4, g4⟩ : ∃ z, z = h0.size := ⟨_, rfl⟩
  rw [← g4] at A4 st4
  have V_b4 : Arv Z h4 b4 k4 .byte (5 : Int32) [(.int 0), (.int 0), (.int 0), (.int 0), (.int 0)] (.int 0) := (Arv.new A4 (by decide)).pad (pad_rep [] (.int 0) 5)
  have ne4 : a1 ≠ b4 := fun q => Nat.lt_irrefl _ (Nat.lt_of_lt_of_eq (q ▸ C.lt) g4.symm)
  have C4 := C.ext E4
  have g_b4 : n0 ≤ b4 := Nat.le_trans Z0 (Nat.le_of_eq g4.symm)
  have sz_b4 : h0.size ≤ b4 := (Nat.le_trans (Keep.refl h0 []).1 (Nat.le_of_eq g4.symm))
  have K4 : Keep h0 h4 [] := (Keep.refl h0 []).ext E4
  obtain ⟨_, _, ⟨T5, L5, k5, n5⟩, -, X5, ⟨Lc5, hQ5, l5, y5, z5⟩, st5⟩ := Jvm.LawKit.callS X4 hx (y := (⟨"java/lang/StringUTF16", "compress", "([CI[BII)I"⟩ : MethodName)) hown (mvT hZ (own_W hw 24 rfl)) (mvT hZ (own_W hw 25 rfl)) (mvT hZ (own_W hw 21 rfl)) (mvT hZ (own_W hw 26 rfl)) (by decide) (backOf (W := 0) (r6 l Z a0 hw [] a1 b4 [c0, c1, c2, c3, c4] k kc k4 _ h4 n0 (Nat.le_trans Z0 E4.1) rfl hk hlo hhi ne4 g_b4 C4 V_b4 rfl) hZ (own_W hw 26 rfl) (own_W hw 21 rfl) (by decide) (by decide)) (g := (mkF m 9 #[.val (.ref a1), .val (.int 0), .val (.int 5), .val (.ref b4), .unset, .unset] [(.int 5), (.int 0), (.ref b4), (.int 0), (.ref a1)])) rfl (by rw [hml]; rfl) (argsL := [(.ref a1), (.int 0), (.ref b4), (.int 0), (.int 5)]) (rest := []) (lenOf pd_5_5 rfl) rfl (by show 2 * 0 + _ ≤ _; exact Nat.le_of_eq rfl) (hb hby d5_9) (fun _ _ => ⟨rfl, e4, (by decide : 1 + 0 ≤ _), (by decide : 5 + 0 ≤ _)⟩)
  dsimp only [Pt.U, Pt.locs, Pt.cells, Pt.slots] at X5 l5 y5 z5 st5 hQ5
  subst l5 y5 z5
  obtain ⟨rfl, N5q, K5⟩ := hQ5
  have KA : Keep h0 T5.heap [] := K4.trans K5 (allS (Or.inr sz_b4) all0)
  have C5_ := C.keep KA nin0
  have O5 := O.keep KA all0
  have Z5 := Nat.le_trans Z0 KA.1
  have N5 := Fr.app N0 N5q
  obtain ⟨_, _, ⟨T6, L6, k6, n6⟩, -, X6, ⟨Lc6, hQ6, l6, y6, z6⟩, st6⟩ := Jvm.LawKit.callS X5 hx (y := (⟨"java/lang/StringUTF16", "toBytes", "([CII)[B"⟩ : MethodName)) hown (mvT hZ (own_W hw 128 rfl)) (mvT hZ (own_W hw 129 rfl)) (mvT hZ (own_W hw 21 rfl)) (mvT hZ (own_W hw 130 rfl)) (by decide) (backOf (W := 0) (r25 l Z a0 hw [] a1 c0 c1 c2 c3 c4 kc T5.heap n0 Z5 C5_ O5 SA0 SH0 SL0) hZ (own_W hw 130 rfl) (own_W hw 21 rfl) (by decide) (by decide)) (g := (mkF m 23 #[.val (.ref a1), .val (.int 0), .val (.int 5), .val (.ref b4), .val (.int (Int32.ofNat k)), .unset] [(.int 5), (.int 0), (.ref a1)])) rfl (by rw [hml]; rfl) (argsL := [(.ref a1), (.int 0), (.int 5)]) (rest := []) (lenOf pd_5_4 rfl) rfl (by show 2 * 0 + _ ≤ _; exact Nat.le_of_eq rfl) (hb hby d5_23) (fun _ _ => ⟨rfl, rfl, (by decide : 1 + 1 ≤ _), (by decide : 5 + 10 ≤ _)⟩)
  dsimp only [Pt.U, Pt.locs, Pt.cells, Pt.slots] at X6 l6 y6 z6 st6 hQ6
  subst l6 y6 z6
  obtain ⟨rfl, N6q, K6, kb, V6⟩ := hQ6
  have O6 := O5.keep K6 all0
  have Z6 := Nat.le_trans Z5 K6.1
  have N6 := Fr.app N5 N6q
  obtain ⟨_, _, ⟨T7, L7, k7, n7⟩, -, X7, ⟨Lc7, hQ7, l7, y7, z7⟩, st7⟩ := Jvm.LawKit.callS X6 hx (y := (⟨"java/lang/StringUTF16", "getChar", "([BI)C"⟩ : MethodName)) hown (mvT hZ (own_W hw 144 rfl)) (mvT hZ (own_W hw 145 rfl)) (mvT hZ (own_W hw 21 rfl)) (mvT hZ (own_W hw 146 rfl)) (by decide) (backOf (W := 0) (r29w l Z a0 hw [] T5.heap.size (Int32.ofNat k) [c0, c1, c2, c3, c4] k kb T6.heap n0 Z6 rfl hk (by show 5 ≤ 22; decide) V6 hbb (SA0.ext O6.2) (SH0.ext O6.2) (SL0.ext O6.2)) hZ (own_W hw 146 rfl) (own_W hw 21 rfl) (by decide) (by decide)) (g := (mkF m 32 #[.val (.ref a1), .val (.int 0), .val (.int 5), .val (.ref b4), .val (.int (Int32.ofNat k)), .val (.ref T5.heap.size)] [(.int (Int32.ofNat k)), (.ref T5.heap.size)])) rfl (by rw [hml]; rfl) (argsL := [(.ref T5.heap.size), (.int (Int32.ofNat k))]) (rest := []) (lenOf pd_5_13 rfl) rfl (by show 2 * 0 + _ ≤ _; exact Nat.le_of_eq rfl) (hb hby d5_32) (fun _ _ => ⟨rfl, rfl, (by decide : 2 + 0 ≤ _), (by decide : 15 + 0 ≤ _)⟩)
  dsimp only [Pt.U, Pt.locs, Pt.cells, Pt.slots] at X7 l7 y7 z7 st7 hQ7
  subst l7 y7 z7
  obtain ⟨rfl, N7q, e7⟩ := hQ7
  have N7 := Fr.app N6 N7q
  obtain ⟨fs, hr, hrun, hended, hW, hsame⟩ := X7.leave (v := some (.ref T5.heap.size)) (fun h => by rw [Bd.returns] at h; cases h)
  refine ⟨_, _, pre0 _ ?_, hrun, hended, _, _, rfl, ?_, ⟨_, rfl⟩, hW, hsame.mono (by decide) (by decide)⟩
  · refine XS.iloadN X0.here hx rfl (hb hby d5_0) rfl ?_
    refine st4 _ ?_
    refine XS.astoreN X4.here hx rfl (hb hby d5_3) rfl rfl (l' := #[.val (.ref a1), .val (.int 0), .val (.int 5), .val (.ref b4), .unset, .unset]) rfl ?_
    refine XS.aloadN X4.here hx rfl (hb hby d5_4) rfl rfl ?_
    refine XS.iloadN X4.here hx rfl (hb hby d5_5) rfl ?_
    refine XS.aloadN X4.here hx rfl (hb hby d5_6) rfl rfl ?_
    refine XS.iconst X4.here hx rfl (hb hby d5_7) ?_
    refine XS.iloadN X4.here hx rfl (hb hby d5_8) rfl ?_
    refine st5 _ ?_
    refine XS.istore X5.here hx rfl (hb hby d5_12) rfl (l' := #[.val (.ref a1), .val (.int 0), .val (.int 5), .val (.ref b4), .val (.int (Int32.ofNat k)), .unset]) rfl ?_
    refine XS.iload X5.here hx rfl (hb hby d5_14) rfl ?_
    refine XS.iloadN X5.here hx rfl (hb hby d5_16) rfl ?_
    refine XS.icmpNo X5.here hx rfl (hb hby d5_17) rfl (feq (own_ne5 k hk)).1 ?_
    refine XS.aloadN X5.here hx rfl (hb hby d5_20) rfl rfl ?_
    refine XS.iloadN X5.here hx rfl (hb hby d5_21) rfl ?_
    refine XS.iloadN X5.here hx rfl (hb hby d5_22) rfl ?_
    refine st6 _ ?_
    refine XS.astore X6.here hx rfl (hb hby d5_26) rfl rfl (l' := #[.val (.ref a1), .val (.int 0), .val (.int 5), .val (.ref b4), .val (.int (Int32.ofNat k)), .val (.ref T5.heap.size)]) rfl ?_
    refine XS.aload X6.here hx rfl (hb hby d5_28) rfl rfl ?_
    refine XS.iload X6.here hx rfl (hb hby d5_30) rfl ?_
    refine st7 _ ?_
    refine XS.sipush X7.here hx rfl (hb hby d5_35) ?_
    refine XS.icmpYes X7.here hx rfl (pc0 := 38) (pc' := 54) rfl (hb hby d5_38) rfl (tlt (hhi : (255 : Int32) < ([c0, c1, c2, c3, c4].getD k 0))).2.2.1 (by decide) (by decide) ?_
    refine XS.aload X7.here hx rfl (hb hby d5_54) rfl rfl ?_
    jvm_step X7.here [X7.here.top, hx, (hb hby d5_56), X7.method', Bd.returns, Value.isRef, FieldType.isReference]
    first | (intro acts; rw [hr _ acts rfl rfl rfl]) | rw [hr _ _ rfl rfl rfl]
    exact Steps.refl _
  · show Q5 Z [c0, c1, c2, c3, c4] h0 n0 _ T7.heap _
    exact ⟨_, rfl, N7, by rw [e7]; exact KA.trans K6 all0, KA.1, kb, by rw [e7]; exact V6⟩
theorem d7_0 : decode jdk_52_method_15_code 0 = .ok (.iload_n 1, 1) := by decide +kernel
theorem d7_1 : decode jdk_52_method_15_code 1 = .ok (.aload_n 0, 1) := by decide +kernel
theorem d7_2 : decode jdk_52_method_15_code 2 = .ok (.arraylength, 1) := by decide +kernel
theorem d7_3 : decode jdk_52_method_15_code 3 = .ok (.isub, 1) := by decide +kernel
theorem d7_4 : decode jdk_52_method_15_code 4 = .ok (.bipush 31, 2) := by decide +kernel
theorem d7_6 : decode jdk_52_method_15_code 6 = .ok (.iushr, 1) := by decide +kernel
theorem d7_7 : decode jdk_52_method_15_code 7 = .ok (.i2b, 1) := by decide +kernel
theorem d7_8 : decode jdk_52_method_15_code 8 = .ok (.ireturn, 1) := by decide +kernel
theorem pn_7 : plainName "java/lang/StringUTF16" = true := by first | (simp [plainName, overriddenIn]; done) | decide +kernel
theorem ef_7 (m : MethodId) (x0 : Addr) (x1 : Int32) : entryFrame m #[(.ref x0), (.int x1)] 2 = mkF m 0 #[.val (.ref x0), .val (.int x1)] [] := by first | (simp [entryFrame, mkF, argsToLocals, Value.category]; done) | rfl
set_option maxRecDepth 65536 in
set_option maxHeartbeats 40000000 in
theorem r7 (l : Launch) (Z : State) (a0 : Array Value) (hw : ∀ d ∈ tables_1, d.before a0 Z = true) (ws : List Jvm.Cond) (a1 : Addr) (p2 : Int32) (cl_a1 : Cell) (z_a1 : Int32) (h0 : Heap) (n0 : Nat) (Z0 : n0 ≤ h0.size) (Ar_a1 : Arr Z h0 a1 cl_a1 .byte) (S_a1 : cl_a1.slots.size = z_a1.toNatClampNeg) (N_a1 : ¬ z_a1 < 0) :
    MetFree l (⟨"java/lang/StringUTF16", "coderFromArrayLen", "([BI)B"⟩ : MethodName) (head1 (Jvm.Cond.code (⟨"java/lang/StringUTF16", "coderFromArrayLen", "([BI)B"⟩ : MethodName) jdk_52_method_15_code 2 (some .byte) :: ws) ({ frames := 0, cells := 0, slots := 0, locals := 0 } : Room)) (fun a U => a = #[(.ref a1), (.int p2)] ∧ Z.Warmed39 U.vm ∧ U.heap = h0) (fun _ _ _ _ _ => True) (fun _ U o U' => ∃ v L, o = .returned v ∧ QR (some (.int (nar .byte ((((p2 - z_a1).toUInt32 >>> ((31 : Int32) &&& 31).toUInt32).toInt32).toInt8.toInt32)))) h0 n0 v U'.heap L ∧ FrameEnd U o U' L ({ frames := 0, cells := 0, slots := 0, locals := 0 } : Room).cells ({ frames := 0, cells := 0, slots := 0, locals := 0 } : Room).slots) := by
  refine MetFree.of_bodySF (plainFor_of_name pn_7) hisR ?_
  intro p e s m args below meth c s₁ Bd hml0 hP hK
  obtain ⟨rfl, hZ, hh⟩ := hP
  have hx := Bd.exec
  have hby := Bd.bytes
  have hml : c.maxLocals = 2 := hml0
  have hown : s.vm.findClass "java/lang/StringUTF16" = some m.cls := findClass_of_methodNamed Bd.named
  have hnm := (name_of_methodNamed Bd.named Bd.method).1
  have X0 : Stand p l e ({ frames := 0, cells := 0, slots := 0, locals := 0 } : Room) s m #[(.ref a1), (.int p2)] below meth c s₁ [] 0 0 := Stand.of_body Bd
  have e0 : s₁.heap = h0 := by rw [← hh, Bd.state]; rfl
  have N0 := Fr.nil n0
  have pre0 : ∀ t, Steps p.tables e below (s₁.setTop (mkF m 0 #[.val (.ref a1), .val (.int p2)] [])) t → Steps p.tables e below (s₁.setTop (entryFrame m #[(.ref a1), (.int p2)] 2)) t := fun t k => castTop (ef_7 m a1 p2) k
  obtain ⟨fs, hr, hrun, hended, hW, hsame⟩ := X0.leave (v := some (.int (nar .byte ((((p2 - z_a1).toUInt32 >>> ((31 : Int32) &&& 31).toUInt32).toInt32).toInt8.toInt32)))) (fun h => by rw [Bd.returns] at h; cases h)
  refine ⟨_, _, pre0 _ ?_, hrun, hended, _, _, rfl, ?_, ⟨_, rfl⟩, hW, hsame.mono (by decide) (by decide)⟩
  · refine XS.iloadN X0.here hx rfl (hb hby d7_0) rfl ?_
    refine XS.aloadN X0.here hx rfl (hb hby d7_1) rfl rfl ?_
    refine X0.arraylength hx (by rw [e0]; exact Ar_a1.1) (State.isArrayOf_alike hZ.alike Ar_a1.2.1) (g := (mkF m 2 #[.val (.ref a1), .val (.int p2)] [(.ref a1), (.int p2)])) rfl rfl (hb hby d7_2) _ ?_
    rw [len_of S_a1 N_a1]
    refine XS.isub X0.here hx rfl (hb hby d7_3) rfl ?_
    refine XS.bipush X0.here hx rfl (hb hby d7_4) ?_
    refine XS.iushr X0.here hx rfl (hb hby d7_6) rfl ?_
    refine XS.i2b X0.here hx rfl (hb hby d7_7) rfl ?_
    exact retN X0 hx (t := .byte) Bd.returns (by simp) (hb hby d7_8) hr
  · show QR (some (.int (nar .byte ((((p2 - z_a1).toUInt32 >>> ((31 : Int32) &&& 31).toUInt32).toInt32).toInt8.toInt32)))) h0 n0 _ s₁.heap _
    rw [e0]
    exact ⟨rfl, N0, rfl⟩
theorem r7c (l : Launch) (Z : State) (a0 : Array Value) (hw : ∀ d ∈ tables_1, d.before a0 Z = true) (ws : List Jvm.Cond) (a1 : Addr) (kb : ClassId) (vs : List Value) (h0 : Heap) (n0 : Nat) (Z0 : n0 ≤ h0.size) (V : Arv Z h0 a1 kb .byte (10 : Int32) vs (.int 0)) :
    MetFree l (⟨"java/lang/StringUTF16", "coderFromArrayLen", "([BI)B"⟩ : MethodName) (head1 (Jvm.Cond.code (⟨"java/lang/StringUTF16", "coderFromArrayLen", "([BI)B"⟩ : MethodName) jdk_52_method_15_code 2 (some .byte) :: ws) ({ frames := 0, cells := 0, slots := 0, locals := 0 } : Room)) (fun a U => a = #[(.ref a1), (.int 5)] ∧ Z.Warmed39 U.vm ∧ U.heap = h0) (fun _ _ _ _ _ => True) (fun _ U o U' => ∃ v L, o = .returned v ∧ QR (some (.int 1)) h0 n0 v U'.heap L ∧ FrameEnd U o U' L ({ frames := 0, cells := 0, slots := 0, locals := 0 } : Room).cells ({ frames := 0, cells := 0, slots := 0, locals := 0 } : Room).slots) := by
  obtain ⟨cl, Ar, q, S, N, H, G⟩ := V
  have e : nar .byte (((((5 : Int32) - (10 : Int32)).toUInt32 >>> ((31 : Int32) &&& 31).toUInt32).toInt32).toInt8.toInt32) = 1 := by decide +kernel
  rw [← e]
  exact r7 l Z a0 hw ws a1 5 cl 10 h0 n0 Z0 Ar S N
theorem d3_0 : decode jdk_42_method_149_code 0 = .ok (.aload_n 0, 1) := by decide +kernel
theorem d3_1 : decode jdk_42_method_149_code 1 = .ok (.invokespecial 1, 3) := by decide +kernel
theorem d3_4 : decode jdk_42_method_149_code 4 = .ok (.iload_n 3, 1) := by decide +kernel
theorem d3_5 : decode jdk_42_method_149_code 5 = .ok (.ifCond .ne 22, 3) := by decide +kernel
theorem d3_27 : decode jdk_42_method_149_code 27 = .ok (.getstatic 38, 3) := by decide +kernel
theorem d3_30 : decode jdk_42_method_149_code 30 = .ok (.ifCond .eq 28, 3) := by decide +kernel
theorem d3_33 : decode jdk_42_method_149_code 33 = .ok (.aload_n 1, 1) := by decide +kernel
theorem d3_34 : decode jdk_42_method_149_code 34 = .ok (.iload_n 2, 1) := by decide +kernel
theorem d3_35 : decode jdk_42_method_149_code 35 = .ok (.iload_n 3, 1) := by decide +kernel
theorem d3_36 : decode jdk_42_method_149_code 36 = .ok (.invokestatic 177, 3) := by decide +kernel
theorem d3_39 : decode jdk_42_method_149_code 39 = .ok (.astore 5, 2) := by decide +kernel
theorem d3_41 : decode jdk_42_method_149_code 41 = .ok (.aload_n 0, 1) := by decide +kernel
theorem d3_42 : decode jdk_42_method_149_code 42 = .ok (.aload 5, 2) := by decide +kernel
theorem d3_44 : decode jdk_42_method_149_code 44 = .ok (.iload_n 3, 1) := by decide +kernel
theorem d3_45 : decode jdk_42_method_149_code 45 = .ok (.invokestatic 47, 3) := by decide +kernel
theorem d3_48 : decode jdk_42_method_149_code 48 = .ok (.putfield 15, 3) := by decide +kernel
theorem d3_51 : decode jdk_42_method_149_code 51 = .ok (.aload_n 0, 1) := by decide +kernel
theorem d3_52 : decode jdk_42_method_149_code 52 = .ok (.aload 5, 2) := by decide +kernel
theorem d3_54 : decode jdk_42_method_149_code 54 = .ok (.putfield 9, 3) := by decide +kernel
theorem d3_57 : decode jdk_42_method_149_code 57 = .ok (.return_, 1) := by decide +kernel
theorem pn_3 : plainName "java/lang/String" = true := by first | (simp [plainName, overriddenIn]; done) | decide +kernel
theorem pd_3_4 : parseMethodDescriptor "([CII)[B" = some ⟨[(.array .char), .int, .int], some (.array .byte)⟩ := by decide +kernel
theorem pd_3_6 : parseMethodDescriptor "([BI)B" = some ⟨[(.array .byte), .int], some .byte⟩ := by decide +kernel
theorem ef_3 (m : MethodId) (x0 : Addr) (x1 : Addr) (x2 : Int32) (x3 : Int32) : entryFrame m #[(.ref x0), (.ref x1), (.int x2), (.int x3), .null] 6 = mkF m 0 #[.val (.ref x0), .val (.ref x1), .val (.int x2), .val (.int x3), .val .null, .unset] [] := by first | (simp [entryFrame, mkF, argsToLocals, Value.category]; done) | rfl
def own_Sw (Z : State) (h : Heap) (o : Addr) (cs : List Int32) (n : Nat) : Prop := ∃ (t : Addr) (kb : ClassId), Exa Z h o "java/lang/String" ∧ Fld Z h o "java/lang/String" "value" "[B" (.ref t) ∧ Fld Z h o "java/lang/String" "coder" "B" (.int 1) ∧ Arv Z h t kb .byte (10 : Int32) (StrChars.Road.wideBytes cs) (.int 0) ∧ n ≤ t
def Q3 (Z : State) (a1 : Addr) (cs : List Int32) (h0 : Heap) (n0 : Nat) (v : Option Value) (h : Heap) (L : List Loc) : Prop := v = none ∧ Fr n0 L ∧ Keep h0 h [a1] ∧ own_Sw Z h a1 cs h0.size
abbrev own_R3 : Room := { frames := 4, cells := 2, slots := 15, locals := 80 }
abbrev own_R2 : Room := { frames := 5, cells := 2, slots := 15, locals := 100 }
set_option maxRecDepth 65536 in
set_option maxHeartbeats 40000000 in
theorem r3 (l : Launch) (Z : State) (a0 : Array Value) (hw : ∀ d ∈ tables_1, d.before a0 Z = true) (ws : List Jvm.Cond) (a1 : Addr) (a2 : Addr) (c0 c1 c2 c3 c4 : Int32) (k : Nat) (kc : ClassId) (w6 : Int32) (u_coder_a1 : Value) (u_value_a1 : Value) (h0 : Heap) (n0 : Nat) (Z0 : n0 ≤ h0.size) (S_COMPACT_STRINGS : Sta Z h0 "java/lang/String" "COMPACT_STRINGS" "Z" (.int w6)) (E_a1 : Exa Z h0 a1 "java/lang/String") (F_coder_a1 : Fld Z h0 a1 "java/lang/String" "coder" "B" u_coder_a1) (g_a1 : n0 ≤ a1) (F_value_a1 : Fld Z h0 a1 "java/lang/String" "value" "[B" u_value_a1) (hc30 : ¬ (w6 = (0 : Int32))) (hk : k < 5) (hlo : ∀ j, j < k → ¬ (255 : Int32) < [c0, c1, c2, c3, c4].getD j 0) (hhi : (255 : Int32) < [c0, c1, c2, c3, c4].getD k 0) (hbb : ∀ c ∈ [c0, c1, c2, c3, c4], ¬ c < 0 ∧ ¬ (65535 : Int32) < c) (C : Arv Z h0 a2 kc .char (5 : Int32) ([c0, c1, c2, c3, c4].map Value.int) (.int 0)) (O : Old Z n0 h0) (SA0 : Sta Z Z.heap "java/lang/StringUTF16" "$assertionsDisabled" "Z" (.int 1)) (SH0 : Sta Z Z.heap "java/lang/StringUTF16" "HI_BYTE_SHIFT" "I" (.int 0)) (SL0 : Sta Z Z.heap "java/lang/StringUTF16" "LO_BYTE_SHIFT" "I" (.int 8)) :
    MetFree l (⟨"java/lang/String", "<init>", "([CIILjava/lang/Void;)V"⟩ : MethodName) (head1 (Jvm.Cond.code (⟨"java/lang/String", "<init>", "([CIILjava/lang/Void;)V"⟩ : MethodName) jdk_42_method_149_code 6 none :: ws) own_R3) (fun a U => a = #[(.ref a1), (.ref a2), (.int 0), (.int 5), .null] ∧ Z.Warmed39 U.vm ∧ U.heap = h0) (fun _ _ _ _ _ => True) (fun _ U o U' => ∃ v L, o = .returned v ∧ Q3 Z a1 [c0, c1, c2, c3, c4] h0 n0 v U'.heap L ∧ FrameEnd U o U' L own_R3.cells own_R3.slots) := by
  refine MetFree.of_bodySF (plainFor_of_name pn_3) hisR ?_
  intro p e s m args below meth c s₁ Bd hml0 hP hK
  obtain ⟨rfl, hZ, hh⟩ := hP
  have hx := Bd.exec
  have hby := Bd.bytes
  have hml : c.maxLocals = 6 := hml0
  have hown : s.vm.findClass "java/lang/String" = some m.cls := findClass_of_methodNamed Bd.named
  have hnm := (name_of_methodNamed Bd.named Bd.method).1
  have X0 : Stand p l e own_R3 s m #[(.ref a1), (.ref a2), (.int 0), (.int 5), .null] below meth c s₁ [] 0 0 := Stand.of_body Bd
  have e0 : s₁.heap = h0 := by rw [← hh, Bd.state]; rfl
  have N0 := Fr.nil n0
  have pre0 : ∀ t, Steps p.tables e below (s₁.setTop (mkF m 0 #[.val (.ref a1), .val (.ref a2), .val (.int 0), .val (.int 5), .val .null, .unset] [])) t → Steps p.tables e below (s₁.setTop (entryFrame m #[(.ref a1), (.ref a2), (.int 0), (.int 5), .null] 6)) t := fun t k => castTop (ef_3 m a1 a2 (0 : Int32) (5 : Int32)) k
  obtain ⟨T5, X5, e5, st5⟩ := initO X0 hx hZ hown (own_W hw 15 rfl) (own_W hw 16 rfl) (own_W hw 17 rfl) e0 (g := (mkF m 1 #[.val (.ref a1), .val (.ref a2), .val (.int 0), .val (.int 5), .val .null, .unset] [(.ref a1)])) rfl (by rw [hml]; rfl) rfl (hb hby d3_1) (by decide) (W := 0) (by show 2 * 0 + _ ≤ _; exact Nat.le_of_eq rfl) (by decide)
  obtain ⟨T7, X7, e7, st7⟩ := getS2 X5 hx hZ hown (host := "") (Or.inl (own_W hw 18 rfl)) Via.refl e5 S_COMPACT_STRINGS (g := (mkF m 27 #[.val (.ref a1), .val (.ref a2), .val (.int 0), .val (.int 5), .val .null, .unset] [])) rfl (hb hby d3_27)
  obtain ⟨_, _, ⟨T8, L8, k8, n8⟩, -, X8, ⟨Lc8, hQ8, l8, y8, z8⟩, st8⟩ := Jvm.LawKit.callS X7 hx (y := (⟨"java/lang/StringUTF16", "compress", "([CII)[B"⟩ : MethodName)) hown (mvT hZ (own_W hw 19 rfl)) (mvT hZ (own_W hw 20 rfl)) (mvT hZ (own_W hw 21 rfl)) (mvT hZ (own_W hw 22 rfl)) (by decide) (backOf (W := 0) (r5 l Z a0 hw [] a2 c0 c1 c2 c3 c4 k kc h0 n0 Z0 hk hlo hhi hbb C O SA0 SH0 SL0) hZ (own_W hw 22 rfl) (own_W hw 21 rfl) (by decide) (by decide)) (g := (mkF m 36 #[.val (.ref a1), .val (.ref a2), .val (.int 0), .val (.int 5), .val .null, .unset] [(.int 5), (.int 0), (.ref a2)])) rfl (by rw [hml]; rfl) (argsL := [(.ref a2), (.int 0), (.int 5)]) (rest := []) (lenOf pd_3_4 rfl) rfl (by show 2 * 0 + _ ≤ _; exact Nat.le_of_eq rfl) (hb hby d3_36) (fun _ _ => ⟨rfl, e7, (by decide : 0 + 2 ≤ _), (by decide : 0 + 15 ≤ _)⟩)
  dsimp only [Pt.U, Pt.locs, Pt.cells, Pt.slots] at X8 l8 y8 z8 st8 hQ8
  subst l8 y8 z8
  obtain ⟨b8, rfl, N8q, K8, g8, kb, V8⟩ := hQ8
  have Z8 := Nat.le_trans Z0 K8.1
  have N8 := Fr.app N0 N8q
  obtain ⟨_, _, ⟨T9, L9, k9, n9⟩, -, X9, ⟨Lc9, hQ9, l9, y9, z9⟩, st9⟩ := Jvm.LawKit.callS X8 hx (y := (⟨"java/lang/StringUTF16", "coderFromArrayLen", "([BI)B"⟩ : MethodName)) hown (mvT hZ (own_W hw 27 rfl)) (mvT hZ (own_W hw 28 rfl)) (mvT hZ (own_W hw 21 rfl)) (mvT hZ (own_W hw 29 rfl)) (by decide) (backOf (W := 1) (r7c l Z a0 hw [] b8 kb _ T8.heap n0 Z8 V8) hZ (own_W hw 29 rfl) (own_W hw 21 rfl) (by decide) (by decide)) (g := (mkF m 45 #[.val (.ref a1), .val (.ref a2), .val (.int 0), .val (.int 5), .val .null, .val (.ref b8)] [(.int 5), (.ref b8), (.ref a1)])) rfl (by rw [hml]; rfl) (argsL := [(.ref b8), (.int 5)]) (rest := [(.ref a1)]) (lenOf pd_3_6 rfl) rfl (by show 2 * 0 + _ ≤ _; exact Nat.le_of_eq rfl) (hb hby d3_45) (fun _ _ => ⟨rfl, rfl, (by decide : 2 + 0 ≤ _), (by decide : 15 + 0 ≤ _)⟩)
  dsimp only [Pt.U, Pt.locs, Pt.cells, Pt.slots] at X9 l9 y9 z9 st9 hQ9
  subst l9 y9 z9
  obtain ⟨rfl, N9q, e9⟩ := hQ9
  have N9 := Fr.app N8 N9q
  obtain ⟨T10, h10, X10, e10, W10, st10⟩ := putFN X9 hx hZ hown (own_W hw 30 rfl) Via.refl e9 (F_coder_a1.keep K8 nin0) (E_a1.keep K8) (Or.inr ⟨(own_W hw 31 rfl), rfl, hnm⟩) (own_W hw 6 rfl) (ty := .byte) (v' := (.int 1)) (by decide) rfl (by decide) (g := (mkF m 48 #[.val (.ref a1), .val (.ref a2), .val (.int 0), .val (.int 5), .val .null, .val (.ref b8)] [(.int 1), (.ref a1)])) rfl rfl (hb hby d3_48)
  have Fw10 := (F_coder_a1.keep K8 nin0).same W10
  have K10 : Keep h0 h10 [a1] := ((Keep.refl h0 [a1]).trans K8 all0).wr W10 (Or.inl (List.mem_of_getElem? (i := 0) rfl))
  have N10 := Fr.snoc X10 N9 g_a1
  obtain ⟨T11, h11, X11, e11, W11, st11⟩ := putF X10 hx hZ hown (host := "") (Or.inl (own_W hw 32 rfl)) Via.refl e10 ((F_value_a1.keep K8 nin0).other W10 (Or.inr (slot_ne (Or.inr (own_W hw 33 rfl)) (Or.inr (own_W hw 31 rfl)) (by decide) (t := (.array .byte)) (t' := .byte) (by decide) (by decide)))) ((E_a1.keep K8).wr W10) (Or.inr ⟨(own_W hw 33 rfl), rfl, hnm⟩) (own_W hw 6 rfl) (ty := (.array .byte)) (by decide) rfl rfl (g := (mkF m 54 #[.val (.ref a1), .val (.ref a2), .val (.int 0), .val (.int 5), .val .null, .val (.ref b8)] [(.ref b8), (.ref a1)])) rfl rfl (hb hby d3_54)
  have Fw11 := ((F_value_a1.keep K8 nin0).other W10 (Or.inr (slot_ne (Or.inr (own_W hw 33 rfl)) (Or.inr (own_W hw 31 rfl)) (by decide) (t := (.array .byte)) (t' := .byte) (by decide) (by decide)))).same W11
  have K11 : Keep h0 h11 [a1] := K10.wr W11 (Or.inl (List.mem_of_getElem? (i := 0) rfl))
  have N11 := Fr.snoc X11 N10 g_a1
  obtain ⟨fs, hr, hrun, hended, hW, hsame⟩ := X11.leave (v := none) (fun _ => rfl)
  refine ⟨_, _, pre0 _ ?_, hrun, hended, _, _, rfl, ?_, ⟨_, rfl⟩, hW, hsame.mono (by decide) (by decide)⟩
  · refine XS.aloadN X0.here hx rfl (hb hby d3_0) rfl rfl ?_
    refine st5 _ ?_
    refine XS.iloadN X5.here hx rfl (hb hby d3_4) rfl ?_
    refine XS.ifYes X5.here hx rfl (pc0 := 5) (pc' := 27) rfl (hb hby d3_5) rfl ((if0 _ _).trans (feq (by decide : ¬ ((5 : Int32) = (0 : Int32)))).2) (by decide) (by decide) ?_
    refine st7 _ ?_
    refine XS.ifNo X7.here hx rfl (hb hby d3_30) rfl ((if0 _ _).trans (feq hc30).1) ?_
    refine XS.aloadN X7.here hx rfl (hb hby d3_33) rfl rfl ?_
    refine XS.iloadN X7.here hx rfl (hb hby d3_34) rfl ?_
    refine XS.iloadN X7.here hx rfl (hb hby d3_35) rfl ?_
    refine st8 _ ?_
    refine XS.astore X8.here hx rfl (hb hby d3_39) rfl rfl (l' := #[.val (.ref a1), .val (.ref a2), .val (.int 0), .val (.int 5), .val .null, .val (.ref b8)]) rfl ?_
    refine XS.aloadN X8.here hx rfl (hb hby d3_41) rfl rfl ?_
    refine XS.aload X8.here hx rfl (hb hby d3_42) rfl rfl ?_
    refine XS.iloadN X8.here hx rfl (hb hby d3_44) rfl ?_
    refine st9 _ ?_
    refine st10 _ ?_
    refine XS.aloadN X10.here hx rfl (hb hby d3_51) rfl rfl ?_
    refine XS.aload X10.here hx rfl (hb hby d3_52) rfl rfl ?_
    refine st11 _ ?_
    exact X11.returnOut hx Bd.returns (hb hby d3_57) hr
  · show Q3 Z a1 [c0, c1, c2, c3, c4] h0 n0 _ T11.heap _
    rw [e11]
    have hb8 : b8 ≠ a1 := Nat.ne_of_gt (Nat.lt_of_lt_of_le E_a1.lt g8)
    exact ⟨rfl, N11, K11, b8, kb, ((E_a1.keep K8).wr W10).wr W11, Fw11, Fw10.other W11 (Or.inr (Ne.symm (slot_ne (Or.inr (own_W hw 33 rfl)) (Or.inr (own_W hw 31 rfl)) (by decide) (t := (.array .byte)) (t' := .byte) (by decide) (by decide)))), (V8.other W10 hb8).other W11 hb8, g8⟩
theorem d2_0 : decode jdk_42_method_3_code 0 = .ok (.aload_n 0, 1) := by decide +kernel
theorem d2_1 : decode jdk_42_method_3_code 1 = .ok (.aload_n 1, 1) := by decide +kernel
theorem d2_2 : decode jdk_42_method_3_code 2 = .ok (.iconst 0, 1) := by decide +kernel
theorem d2_3 : decode jdk_42_method_3_code 3 = .ok (.aload_n 1, 1) := by decide +kernel
theorem d2_4 : decode jdk_42_method_3_code 4 = .ok (.arraylength, 1) := by decide +kernel
theorem d2_5 : decode jdk_42_method_3_code 5 = .ok (.aconst_null, 1) := by decide +kernel
theorem d2_6 : decode jdk_42_method_3_code 6 = .ok (.invokespecial 27, 3) := by decide +kernel
theorem d2_9 : decode jdk_42_method_3_code 9 = .ok (.return_, 1) := by decide +kernel
theorem pn_2 : plainName "java/lang/String" = true := by first | (simp [plainName, overriddenIn]; done) | decide +kernel
theorem pd_2_2 : parseMethodDescriptor "([CIILjava/lang/Void;)V" = some ⟨[(.array .char), .int, .int, (.object "java/lang/Void")], none⟩ := by decide +kernel
theorem ef_2 (m : MethodId) (x0 : Addr) (x1 : Addr) : entryFrame m #[(.ref x0), (.ref x1)] 2 = mkF m 0 #[.val (.ref x0), .val (.ref x1)] [] := by first | (simp [entryFrame, mkF, argsToLocals, Value.category]; done) | rfl
set_option maxRecDepth 65536 in
set_option maxHeartbeats 40000000 in
theorem r2 (l : Launch) (Z : State) (a0 : Array Value) (hw : ∀ d ∈ tables_1, d.before a0 Z = true) (ws : List Jvm.Cond) (a1 : Addr) (a2 : Addr) (c0 c1 c2 c3 c4 : Int32) (k : Nat) (kc : ClassId) (w6 : Int32) (u_coder_a1 : Value) (u_value_a1 : Value) (h0 : Heap) (n0 : Nat) (Z0 : n0 ≤ h0.size) (S_COMPACT_STRINGS : Sta Z h0 "java/lang/String" "COMPACT_STRINGS" "Z" (.int w6)) (E_a1 : Exa Z h0 a1 "java/lang/String") (F_coder_a1 : Fld Z h0 a1 "java/lang/String" "coder" "B" u_coder_a1) (g_a1 : n0 ≤ a1) (F_value_a1 : Fld Z h0 a1 "java/lang/String" "value" "[B" u_value_a1) (hc30 : ¬ (w6 = (0 : Int32))) (hk : k < 5) (hlo : ∀ j, j < k → ¬ (255 : Int32) < [c0, c1, c2, c3, c4].getD j 0) (hhi : (255 : Int32) < [c0, c1, c2, c3, c4].getD k 0) (hbb : ∀ c ∈ [c0, c1, c2, c3, c4], ¬ c < 0 ∧ ¬ (65535 : Int32) < c) (C : Arv Z h0 a2 kc .char (5 : Int32) ([c0, c1, c2, c3, c4].map Value.int) (.int 0)) (O : Old Z n0 h0) (SA0 : Sta Z Z.heap "java/lang/StringUTF16" "$assertionsDisabled" "Z" (.int 1)) (SH0 : Sta Z Z.heap "java/lang/StringUTF16" "HI_BYTE_SHIFT" "I" (.int 0)) (SL0 : Sta Z Z.heap "java/lang/StringUTF16" "LO_BYTE_SHIFT" "I" (.int 8)) :
    MetFree l (⟨"java/lang/String", "<init>", "([C)V"⟩ : MethodName) (head1 (Jvm.Cond.code (⟨"java/lang/String", "<init>", "([C)V"⟩ : MethodName) jdk_42_method_3_code 2 none :: ws) own_R2) (fun a U => a = #[(.ref a1), (.ref a2)] ∧ Z.Warmed39 U.vm ∧ U.heap = h0) (fun _ _ _ _ _ => True) (fun _ U o U' => ∃ v L, o = .returned v ∧ Q3 Z a1 [c0, c1, c2, c3, c4] h0 n0 v U'.heap L ∧ FrameEnd U o U' L own_R2.cells own_R2.slots) := by
  refine MetFree.of_bodySF (plainFor_of_name pn_2) hisR ?_
  intro p e s m args below meth c s₁ Bd hml0 hP hK
  obtain ⟨rfl, hZ, hh⟩ := hP
  have hx := Bd.exec
  obtain ⟨cl_a2, Ar_a2, qc, S_a2, N_a2, Hc, Gc⟩ := id C
  have hby := Bd.bytes
  have hml : c.maxLocals = 2 := hml0
  have hown : s.vm.findClass "java/lang/String" = some m.cls := findClass_of_methodNamed Bd.named
  have hnm := (name_of_methodNamed Bd.named Bd.method).1
  have X0 : Stand p l e own_R2 s m #[(.ref a1), (.ref a2)] below meth c s₁ [] 0 0 := Stand.of_body Bd
  have e0 : s₁.heap = h0 := by rw [← hh, Bd.state]; rfl
  have N0 := Fr.nil n0
  have pre0 : ∀ t, Steps p.tables e below (s₁.setTop (mkF m 0 #[.val (.ref a1), .val (.ref a2)] [])) t → Steps p.tables e below (s₁.setTop (entryFrame m #[(.ref a1), (.ref a2)] 2)) t := fun t k => castTop (ef_2 m a1 a2) k
  obtain ⟨_, _, ⟨T3, L3, k3, n3⟩, -, X3, ⟨Lc3, hQ3, l3, y3, z3⟩, st3⟩ := X0.specialBack hx (y := (⟨"java/lang/String", "<init>", "([CIILjava/lang/Void;)V"⟩ : MethodName)) rfl hown (mvT hZ (own_W hw 11 rfl)) (mvT hZ (own_W hw 12 rfl)) (mvT hZ (own_W hw 14 rfl)) (by decide) (backOf (W := 0) (r3 l Z a0 hw [] a1 a2 c0 c1 c2 c3 c4 k kc w6 u_coder_a1 u_value_a1 h0 n0 Z0 S_COMPACT_STRINGS E_a1 F_coder_a1 g_a1 F_value_a1 hc30 hk hlo hhi hbb C O SA0 SH0 SL0) hZ (own_W hw 14 rfl) (own_W hw 7 rfl) (by decide) (by decide)) (g := (mkF m 6 #[.val (.ref a1), .val (.ref a2)] [.null, (.int 5), (.int 0), (.ref a2), (.ref a1)])) rfl (by rw [hml]; rfl) (Steps.refl _) (a := a1) (argsL := [(.ref a2), (.int 0), (.int 5), .null]) (rest := []) (lenOf pd_2_2 rfl) rfl (by show 2 * 0 + _ ≤ _; exact Nat.le_of_eq rfl) (hb hby d2_6) (fun _ _ => ⟨rfl, e0, (by decide : 0 + 2 ≤ _), (by decide : 0 + 15 ≤ _)⟩)
  dsimp only [Pt.U, Pt.locs, Pt.cells, Pt.slots] at X3 l3 y3 z3 st3 hQ3
  subst l3 y3 z3
  obtain ⟨rfl, N3q, Q3q⟩ := hQ3
  have N3 := Fr.app N0 N3q
  obtain ⟨fs, hr, hrun, hended, hW, hsame⟩ := X3.leave (v := none) (fun _ => rfl)
  refine ⟨_, _, pre0 _ ?_, hrun, hended, _, _, rfl, ?_, ⟨_, rfl⟩, hW, hsame.mono (by decide) (by decide)⟩
  · refine XS.aloadN X0.here hx rfl (hb hby d2_0) rfl rfl ?_
    refine XS.aloadN X0.here hx rfl (hb hby d2_1) rfl rfl ?_
    refine XS.iconst X0.here hx rfl (hb hby d2_2) ?_
    refine XS.aloadN X0.here hx rfl (hb hby d2_3) rfl rfl ?_
    refine X0.arraylength hx (by rw [e0]; exact Ar_a2.1) (State.isArrayOf_alike hZ.alike Ar_a2.2.1) (g := (mkF m 4 #[.val (.ref a1), .val (.ref a2)] [(.ref a2), (.int 0), (.ref a2), (.ref a1)])) rfl rfl (hb hby d2_4) _ ?_
    rw [len_of S_a2 N_a2]
    refine XS.aconstNull X0.here hx rfl (hb hby d2_5) ?_
    refine st3.trans ?_
    exact X3.returnOut hx Bd.returns (hb hby d2_9) hr
  · show Q3 Z a1 [c0, c1, c2, c3, c4] h0 n0 _ T3.heap _
    exact ⟨rfl, N3, Q3q⟩
def own_St (Z : State) (h : Heap) (o : Addr) (cs : List Int32) : Prop := ∃ (t : Addr) (kb : ClassId), Exa Z h o "java/lang/String" ∧ Fld Z h o "java/lang/String" "value" "[B" (.ref t) ∧ cs.length ≤ 22 ∧ (∀ c ∈ cs, ¬ c < 0 ∧ ¬ (65535 : Int32) < c) ∧ ((Fld Z h o "java/lang/String" "coder" "B" (.int 0) ∧ Arv Z h t kb .byte (Int32.ofNat cs.length) ((cs.map StrChars.lo8).map Value.int) (.int 0) ∧ ∀ c ∈ cs, ¬ (255 : Int32) < c) ∨ (Fld Z h o "java/lang/String" "coder" "B" (.int 1) ∧ Arv Z h t kb .byte (Int32.ofNat (2 * cs.length)) (StrChars.Road.wideBytes cs) (.int 0)))
def own_SW (Z : State) (h : Heap) : Prop := ∃ (z : Int32) (fm : Value), Sta Z h "java/lang/String" "COMPACT_STRINGS" "Z" (.int z) ∧ ¬ z = 0 ∧ Sta Z h "jdk/internal/util/Preconditions" "SIOOBE_FORMATTER" "Ljava/util/function/BiFunction;" fm ∧ fm.isRef = true ∧ Sta Z h "java/lang/StringUTF16" "$assertionsDisabled" "Z" (.int 1) ∧ Sta Z h "java/lang/StringUTF16" "HI_BYTE_SHIFT" "I" (.int 0) ∧ Sta Z h "java/lang/StringUTF16" "LO_BYTE_SHIFT" "I" (.int 8)
theorem own_SW.ext {Z : State} {h h' : Heap} (S : own_SW Z h) (E : Ext h h') : own_SW Z h' := by
  obtain ⟨z, fm, S1, hz, S2, rf, S3, S4, S5⟩ := S
  exact ⟨z, fm, S1.ext E, hz, S2.ext E, rf, S3.ext E, S4.ext E, S5.ext E⟩
def own_Tx (Z : State) (h : Heap) (o : Addr) (cs : List Int32) : Prop := own_St Z h o cs ∧ own_SW Z h
theorem own_St.keep0 {Z : State} {h h' : Heap} {o : Addr} {cs : List Int32} (T : own_St Z h o cs) (K : Keep h h' []) : own_St Z h' o cs := by
  obtain ⟨t, kb, E, V, l2, hb, C⟩ := T
  refine ⟨t, kb, E.keep K, V.keep K nin0, l2, hb, C.elim (fun q => Or.inl ⟨q.1.keep K nin0, q.2.1.keep K nin0, q.2.2⟩) (fun q => Or.inr ⟨q.1.keep K nin0, q.2.keep K nin0⟩)⟩
theorem own_St.keep1 {Z : State} {h h' : Heap} {o x : Addr} {cs : List Int32} {a0 : Array Value} (hw : ∀ d ∈ tables_1, d.before a0 Z = true) (T : own_St Z h o cs) (K : Keep h h' [x]) (X : Exa Z h x "com/example/bandmark/bandmark/PlainDecimal") : own_St Z h' o cs := by
  obtain ⟨t, kb, E, V, l2, hb, C⟩ := T
  have h1 : o ≠ x := Exa.ne E X (by decide)
  have h2 : t ≠ x := C.elim (fun q w => Exa.neArv X q.2.1 (own_W hw 55 rfl) w.symm) (fun q w => Exa.neArv X q.2 (own_W hw 55 rfl) w.symm)
  refine ⟨t, kb, E.keep K, V.keep K (ninS h1 nin0), l2, hb, C.elim (fun q => Or.inl ⟨q.1.keep K (ninS h1 nin0), q.2.1.keep K (ninS h2 nin0), q.2.2⟩) (fun q => Or.inr ⟨q.1.keep K (ninS h1 nin0), q.2.keep K (ninS h2 nin0)⟩)⟩
theorem own_ch {p : Program} {l : Launch} {e : Env} {R : Room} {s : State} {args : Array Value} {below : List Frame} {len W : Nat} {Z : State} {a0 : Array Value} {h : Heap} (hZ : Z.Warmed39 s.vm) (hw : ∀ d ∈ tables_1, d.before a0 Z = true) {o : Addr} {cs : List Int32} (TX : own_Tx Z h o cs) {i : Nat} {j : Int32} (hi : i < cs.length) (hj : j = Int32.ofNat i) (n0 : Nat) (Z0 : n0 ≤ h.size) (hfr : 5 ≤ R.frames) (hlo : W + 66 ≤ R.locals) :
    Back l R p e below s args (⟨"java/lang/String", "charAt", "(I)C"⟩ : MethodName) len W (fun P a => a = #[.ref o, .int j] ∧ P.U.heap = h ∧ P.cells + 0 ≤ R.cells ∧ P.slots + 0 ≤ R.slots)
      (fun P _ v B => ∃ L, QR (some (.int (cs.getD i 0))) h n0 v B.U.heap L ∧ B.locs = P.locs ++ L ∧ B.cells = P.cells + 0 ∧ B.slots = P.slots + 0) := by
  obtain ⟨⟨t, kb, E, V, l2, hb, C⟩, ⟨z, fm, S, hz, F, rf, SA, SH, SL⟩⟩ := TX
  rcases C with ⟨C, K, h25⟩ | ⟨C, K⟩
  · refine Back.mono (StrChars.Road.chN hZ (fun d hd => hw d ((by decide +kernel : ∀ d ∈ StrChars.Road.wordsChN, d ∈ tables_1) d hd)) (kI := 4) (own_W hw 6 rfl) E V C K (StrChars.Road.codOf rfl h25) hb S hz F rf (by omega) hi hj (by omega) (by omega)) (fun P a hp => hp) (fun P a v B hp hq => ?_)
    obtain ⟨L, ⟨q1, q2, q3⟩, hl, hc, hs⟩ := hq
    exact ⟨L, ⟨q1, by rw [q2]; exact Fr.nil n0, q3⟩, hl, hc, hs⟩
  · exact backOf (W := W) (r16w l Z a0 hw [] o j t cs i kb fm z h n0 Z0 E V S hz C hj hi l2 K hb SA SH SL F rf) hZ (own_W hw 73 rfl) (own_W hw 7 rfl) (by show 4 + 1 ≤ _; omega) (by show W + (2 + 11) + 53 ≤ _; omega)
theorem own_Tx.exa {Z : State} {h : Heap} {o : Addr} {cs : List Int32} (T : own_Tx Z h o cs) : Exa Z h o "java/lang/String" := by obtain ⟨⟨t, kb, E, -⟩, -⟩ := T; exact E
abbrev own_R15 : Room := { frames := 5, cells := 0, slots := 0, locals := 66 }
def own_dn (x : Int32) : Nat := (x.toInt - 48).toNat
def own_scan (f : Nat → Int32) : Nat → Nat → Nat → Bool → Nat → Nat → Option (Nat × Nat × Nat)
  | 0, _, c, _, u, q => some (c, u, q)
  | k + 1, i, c, pt, u, q => if ¬ f i < 48 ∧ ¬ 57 < f i then own_scan f k (i + 1) (c + 1) pt (u * 10 + own_dn (f i)) (if pt then q + 1 else q) else if f i = 46 ∧ pt = false then own_scan f k (i + 1) c true u q else none
def own_neg (f : Nat → Int32) (a b : Nat) : Bool := decide (a < b ∧ f a = 45)
def own_start (f : Nat → Int32) (a b : Nat) : Nat := if a < b ∧ (f a = 45 ∨ f a = 43) then a + 1 else a
def own_read (f : Nat → Int32) (a b : Nat) : Option (Nat × Nat × Nat) := match own_scan f (b - own_start f a b) (own_start f a b) 0 false 0 0 with
  | some (0, _, _) => none
  | r => r
theorem own_zero (a : Nat) (ha : a < 32) : Int32.ofNat a = (0 : Int32) ↔ a = 0 := (by decide +kernel : ∀ a : Fin 32, Int32.ofNat a.val = (0 : Int32) ↔ a.val = 0) ⟨a, ha⟩
theorem own_scan_s (f : Nat → Int32) (k i c : Nat) (pt : Bool) (u q : Nat) : own_scan f (k + 1) i c pt u q = if ¬ f i < 48 ∧ ¬ 57 < f i then own_scan f k (i + 1) (c + 1) pt (u * 10 + own_dn (f i)) (if pt then q + 1 else q) else if f i = 46 ∧ pt = false then own_scan f k (i + 1) c true u q else none := rfl
def own_b (pt : Bool) : Int32 := if pt then 1 else 0
theorem own_dig10 (x : Int32) (h1 : ¬ x < 48) (h2 : ¬ 57 < x) : ∃ n : Fin 10, x = Int32.ofNat (48 + n.val) := by
  rw [Int32.lt_iff_toInt_lt] at h1 h2
  have z1 : (48 : Int32).toInt = 48 := by decide
  have z2 : (57 : Int32).toInt = 57 := by decide
  refine ⟨⟨x.toInt.toNat - 48, by omega⟩, ?_⟩
  apply Int32.toInt_inj.mp
  rw [Int32.toInt_ofNat_of_lt (by show 48 + (x.toInt.toNat - 48) < _; omega)]
  show x.toInt = ((48 + (x.toInt.toNat - 48) : Nat) : Int)
  omega
theorem own_dval (x : Int32) (h1 : ¬ x < 48) (h2 : ¬ 57 < x) : (x - (48 : Int32)).toInt64 = Int64.ofNat (own_dn x) ∧ own_dn x < 10 := by
  obtain ⟨n, rfl⟩ := own_dig10 x h1 h2
  exact (by decide +kernel : ∀ n : Fin 10, (Int32.ofNat (48 + n.val) - (48 : Int32)).toInt64 = Int64.ofNat (own_dn (Int32.ofNat (48 + n.val))) ∧ own_dn (Int32.ofNat (48 + n.val)) < 10) n
theorem own_horner (u : Nat) (x : Int32) (h1 : ¬ x < 48) (h2 : ¬ 57 < x) : (Int64.ofNat u * (10 : Int64)) + ((x - (48 : Int32)).toInt64) = Int64.ofNat (u * 10 + own_dn x) := by
  rw [(own_dval x h1 h2).1, Int64.ofNat_add, Int64.ofNat_mul]
  rfl
theorem d15_0 : decode prog_8_method_2_code 0 = .ok (.iload_n 2, 1) := by decide +kernel
theorem d15_1 : decode prog_8_method_2_code 1 = .ok (.istore 4, 2) := by decide +kernel
theorem d15_3 : decode prog_8_method_2_code 3 = .ok (.iload 4, 2) := by decide +kernel
theorem d15_5 : decode prog_8_method_2_code 5 = .ok (.iload_n 3, 1) := by decide +kernel
theorem d15_6 : decode prog_8_method_2_code 6 = .ok (.if_icmp .ge 18, 3) := by decide +kernel
theorem d15_24 : decode prog_8_method_2_code 24 = .ok (.iconst 0, 1) := by decide +kernel
theorem d15_25 : decode prog_8_method_2_code 25 = .ok (.istore 5, 2) := by decide +kernel
theorem d15_27 : decode prog_8_method_2_code 27 = .ok (.iload 5, 2) := by decide +kernel
theorem d15_29 : decode prog_8_method_2_code 29 = .ok (.ifCond .ne 20, 3) := by decide +kernel
theorem d15_32 : decode prog_8_method_2_code 32 = .ok (.iload 4, 2) := by decide +kernel
theorem d15_34 : decode prog_8_method_2_code 34 = .ok (.iload_n 3, 1) := by decide +kernel
theorem d15_35 : decode prog_8_method_2_code 35 = .ok (.if_icmp .ge 17, 3) := by decide +kernel
theorem d15_52 : decode prog_8_method_2_code 52 = .ok (.lconst 0, 1) := by decide +kernel
theorem d15_53 : decode prog_8_method_2_code 53 = .ok (.lstore 6, 2) := by decide +kernel
theorem d15_55 : decode prog_8_method_2_code 55 = .ok (.iconst 0, 1) := by decide +kernel
theorem d15_56 : decode prog_8_method_2_code 56 = .ok (.istore 8, 2) := by decide +kernel
theorem d15_58 : decode prog_8_method_2_code 58 = .ok (.iconst 0, 1) := by decide +kernel
theorem d15_59 : decode prog_8_method_2_code 59 = .ok (.istore 9, 2) := by decide +kernel
theorem d15_61 : decode prog_8_method_2_code 61 = .ok (.iconst 0, 1) := by decide +kernel
theorem d15_62 : decode prog_8_method_2_code 62 = .ok (.istore 10, 2) := by decide +kernel
theorem os15_1_b0 {s0 : Slot} {s1 : Slot} {z2 : Value} {z3 : Value} {s4 : Slot} {s5 : Slot} {s6 : Slot} {s7 : Slot} {s8 : Slot} {s9 : Slot} {s10 : Slot} {s11 : Slot} {v : Int32} (h : One s4) : storeLocals #[s0, s1, .val z2, .val z3, s4, s5, s6, s7, s8, s9, s10, s11] 4 (.int v) = some #[s0, s1, .val z2, .val z3, .val (.int v), s5, s6, s7, s8, s9, s10, s11] := by
  rcases h with rfl | ⟨w, rfl, hw⟩
  · rfl
  · cases w <;> first | rfl | (simp [Value.category] at hw)
theorem os15_25_b0 {s0 : Slot} {s1 : Slot} {z2 : Value} {z3 : Value} {z4 : Value} {s5 : Slot} {s6 : Slot} {s7 : Slot} {s8 : Slot} {s9 : Slot} {s10 : Slot} {s11 : Slot} {v : Int32} (h : One s5) : storeLocals #[s0, s1, .val z2, .val z3, .val z4, s5, s6, s7, s8, s9, s10, s11] 5 (.int v) = some #[s0, s1, .val z2, .val z3, .val z4, .val (.int v), s6, s7, s8, s9, s10, s11] := by
  rcases h with rfl | ⟨w, rfl, hw⟩
  · rfl
  · cases w <;> first | rfl | (simp [Value.category] at hw)
theorem os15_56_b0 {s0 : Slot} {s1 : Slot} {z2 : Value} {z3 : Value} {z4 : Value} {z5 : Value} {z6 : Value} {s8 : Slot} {s9 : Slot} {s10 : Slot} {s11 : Slot} {v : Int32} (h : One s8) : storeLocals #[s0, s1, .val z2, .val z3, .val z4, .val z5, .val z6, .second, s8, s9, s10, s11] 8 (.int v) = some #[s0, s1, .val z2, .val z3, .val z4, .val z5, .val z6, .second, .val (.int v), s9, s10, s11] := by
  rcases h with rfl | ⟨w, rfl, hw⟩
  · rfl
  · cases w <;> first | rfl | (simp [Value.category] at hw)
theorem os15_59_b0 {s0 : Slot} {s1 : Slot} {z2 : Value} {z3 : Value} {z4 : Value} {z5 : Value} {z6 : Value} {z8 : Value} {s9 : Slot} {s10 : Slot} {s11 : Slot} {v : Int32} (h : One s9) : storeLocals #[s0, s1, .val z2, .val z3, .val z4, .val z5, .val z6, .second, .val z8, s9, s10, s11] 9 (.int v) = some #[s0, s1, .val z2, .val z3, .val z4, .val z5, .val z6, .second, .val z8, .val (.int v), s10, s11] := by
  rcases h with rfl | ⟨w, rfl, hw⟩
  · rfl
  · cases w <;> first | rfl | (simp [Value.category] at hw)
theorem os15_62_b0 {s0 : Slot} {s1 : Slot} {z2 : Value} {z3 : Value} {z4 : Value} {z5 : Value} {z6 : Value} {z8 : Value} {z9 : Value} {s10 : Slot} {s11 : Slot} {v : Int32} (h : One s10) : storeLocals #[s0, s1, .val z2, .val z3, .val z4, .val z5, .val z6, .second, .val z8, .val z9, s10, s11] 10 (.int v) = some #[s0, s1, .val z2, .val z3, .val z4, .val z5, .val z6, .second, .val z8, .val z9, .val (.int v), s11] := by
  rcases h with rfl | ⟨w, rfl, hw⟩
  · rfl
  · cases w <;> first | rfl | (simp [Value.category] at hw)
set_option maxRecDepth 65536 in
set_option maxHeartbeats 40000000 in
theorem b0 {p : Program} {l : Launch} {e : Env} {s : State} {m : MethodId} {args : Array Value} {below : List Frame} {meth : Method} {c : Code} {T0 : State} {locs : List Loc} {cells slots : Nat} {Z : State} {a0 : Array Value} {h0 : Heap} (s0 : Slot) (s1 : Slot) (i2 : Int32) (i3 : Int32) (s4 : Slot) (s5 : Slot) (s8 : Slot) (s9 : Slot) (s10 : Slot) (s11 : Slot)
    (X0 : Stand p l e own_R15 s m args below meth c T0 locs cells slots) (hx : p.tables.exec = Jvm.exec) (hZ : Z.Warmed39 s.vm) (hw : ∀ d ∈ tables_1, d.before a0 Z = true) (hby : c.code = prog_8_method_2_code) (hml : c.maxLocals = 12) (hown : s.vm.findClass "com/example/bandmark/bandmark/PlainDecimal" = some m.cls) (e0 : T0.heap = h0) (hs4 : One s4) (hs5 : One s5) (hs8 : One s8) (hs9 : One s9) (hs10 : One s10) (hc6 : ¬ (i2 < i3)) (hc35 : ¬ (i2 < i3)) :
    ∃ (T' : State), Stand p l e own_R15 s m args below meth c T' locs cells slots ∧ T'.heap = h0 ∧
      ∀ target, Steps p.tables e below (T'.setTop (mkF m 64 #[s0, s1, .val (.int i2), .val (.int i3), .val (.int i2), .val (.int 0), .val (.long (0 : Int64)), .second, .val (.int 0), .val (.int 0), .val (.int 0), s11] [])) target → Steps p.tables e below (T0.setTop (mkF m 0 #[s0, s1, .val (.int i2), .val (.int i3), s4, s5, .unset, .unset, s8, s9, s10, s11] [])) target := by
  refine ⟨T0, X0, e0, fun target kt => ?_⟩
  refine XS.iloadN X0.here hx rfl (hb hby d15_0) rfl ?_
  refine XS.istore X0.here hx rfl (hb hby d15_1) rfl (l' := #[s0, s1, .val (.int i2), .val (.int i3), .val (.int i2), s5, .unset, .unset, s8, s9, s10, s11]) (os15_1_b0 hs4) ?_
  refine XS.iload X0.here hx rfl (hb hby d15_3) rfl ?_
  refine XS.iloadN X0.here hx rfl (hb hby d15_5) rfl ?_
  refine XS.icmpYes X0.here hx rfl (pc0 := 6) (pc' := 24) rfl (hb hby d15_6) rfl (flt hc6).2.1 (by decide) (by decide) ?_
  refine XS.iconst X0.here hx rfl (hb hby d15_24) ?_
  refine XS.istore X0.here hx rfl (hb hby d15_25) rfl (l' := #[s0, s1, .val (.int i2), .val (.int i3), .val (.int i2), .val (.int 0), .unset, .unset, s8, s9, s10, s11]) (os15_25_b0 hs5) ?_
  refine XS.iload X0.here hx rfl (hb hby d15_27) rfl ?_
  refine XS.ifNo X0.here hx rfl (hb hby d15_29) rfl ((if0 _ _).trans (teq (rfl : (0 : Int32) = (0 : Int32))).2) ?_
  refine XS.iload X0.here hx rfl (hb hby d15_32) rfl ?_
  refine XS.iloadN X0.here hx rfl (hb hby d15_34) rfl ?_
  refine XS.icmpYes X0.here hx rfl (pc0 := 35) (pc' := 52) rfl (hb hby d15_35) rfl (flt hc35).2.1 (by decide) (by decide) ?_
  refine XS.lconst X0.here hx rfl (hb hby d15_52) ?_
  refine XS.lstore X0.here hx rfl (hb hby d15_53) rfl (l' := #[s0, s1, .val (.int i2), .val (.int i3), .val (.int i2), .val (.int 0), .val (.long (0 : Int64)), .second, s8, s9, s10, s11]) rfl ?_
  refine XS.iconst X0.here hx rfl (hb hby d15_55) ?_
  refine XS.istore X0.here hx rfl (hb hby d15_56) rfl (l' := #[s0, s1, .val (.int i2), .val (.int i3), .val (.int i2), .val (.int 0), .val (.long (0 : Int64)), .second, .val (.int 0), s9, s10, s11]) (os15_56_b0 hs8) ?_
  refine XS.iconst X0.here hx rfl (hb hby d15_58) ?_
  refine XS.istore X0.here hx rfl (hb hby d15_59) rfl (l' := #[s0, s1, .val (.int i2), .val (.int i3), .val (.int i2), .val (.int 0), .val (.long (0 : Int64)), .second, .val (.int 0), .val (.int 0), s10, s11]) (os15_59_b0 hs9) ?_
  refine XS.iconst X0.here hx rfl (hb hby d15_61) ?_
  refine XS.istore X0.here hx rfl (hb hby d15_62) rfl (l' := #[s0, s1, .val (.int i2), .val (.int i3), .val (.int i2), .val (.int 0), .val (.long (0 : Int64)), .second, .val (.int 0), .val (.int 0), .val (.int 0), s11]) (os15_62_b0 hs10) ?_
  exact kt
theorem d15_9 : decode prog_8_method_2_code 9 = .ok (.aload_n 1, 1) := by decide +kernel
theorem d15_10 : decode prog_8_method_2_code 10 = .ok (.iload 4, 2) := by decide +kernel
theorem d15_12 : decode prog_8_method_2_code 12 = .ok (.invokevirtual 7, 3) := by decide +kernel
theorem d15_15 : decode prog_8_method_2_code 15 = .ok (.bipush 45, 2) := by decide +kernel
theorem d15_17 : decode prog_8_method_2_code 17 = .ok (.if_icmp .ne 7, 3) := by decide +kernel
theorem d15_20 : decode prog_8_method_2_code 20 = .ok (.iconst 1, 1) := by decide +kernel
theorem d15_21 : decode prog_8_method_2_code 21 = .ok (.goto 4, 3) := by decide +kernel
theorem d15_49 : decode prog_8_method_2_code 49 = .ok (.iinc 4 1, 3) := by decide +kernel
theorem pd_15_0 : parseMethodDescriptor "(I)C" = some ⟨[.int], some .char⟩ := by decide +kernel
theorem os15_1_b1 {s0 : Slot} {z1 : Value} {z2 : Value} {z3 : Value} {s4 : Slot} {s5 : Slot} {s6 : Slot} {s7 : Slot} {s8 : Slot} {s9 : Slot} {s10 : Slot} {s11 : Slot} {v : Int32} (h : One s4) : storeLocals #[s0, .val z1, .val z2, .val z3, s4, s5, s6, s7, s8, s9, s10, s11] 4 (.int v) = some #[s0, .val z1, .val z2, .val z3, .val (.int v), s5, s6, s7, s8, s9, s10, s11] := by
  rcases h with rfl | ⟨w, rfl, hw⟩
  · rfl
  · cases w <;> first | rfl | (simp [Value.category] at hw)
theorem os15_25_b1 {s0 : Slot} {z1 : Value} {z2 : Value} {z3 : Value} {z4 : Value} {s5 : Slot} {s6 : Slot} {s7 : Slot} {s8 : Slot} {s9 : Slot} {s10 : Slot} {s11 : Slot} {v : Int32} (h : One s5) : storeLocals #[s0, .val z1, .val z2, .val z3, .val z4, s5, s6, s7, s8, s9, s10, s11] 5 (.int v) = some #[s0, .val z1, .val z2, .val z3, .val z4, .val (.int v), s6, s7, s8, s9, s10, s11] := by
  rcases h with rfl | ⟨w, rfl, hw⟩
  · rfl
  · cases w <;> first | rfl | (simp [Value.category] at hw)
theorem os15_56_b1 {s0 : Slot} {z1 : Value} {z2 : Value} {z3 : Value} {z4 : Value} {z5 : Value} {z6 : Value} {s8 : Slot} {s9 : Slot} {s10 : Slot} {s11 : Slot} {v : Int32} (h : One s8) : storeLocals #[s0, .val z1, .val z2, .val z3, .val z4, .val z5, .val z6, .second, s8, s9, s10, s11] 8 (.int v) = some #[s0, .val z1, .val z2, .val z3, .val z4, .val z5, .val z6, .second, .val (.int v), s9, s10, s11] := by
  rcases h with rfl | ⟨w, rfl, hw⟩
  · rfl
  · cases w <;> first | rfl | (simp [Value.category] at hw)
theorem os15_59_b1 {s0 : Slot} {z1 : Value} {z2 : Value} {z3 : Value} {z4 : Value} {z5 : Value} {z6 : Value} {z8 : Value} {s9 : Slot} {s10 : Slot} {s11 : Slot} {v : Int32} (h : One s9) : storeLocals #[s0, .val z1, .val z2, .val z3, .val z4, .val z5, .val z6, .second, .val z8, s9, s10, s11] 9 (.int v) = some #[s0, .val z1, .val z2, .val z3, .val z4, .val z5, .val z6, .second, .val z8, .val (.int v), s10, s11] := by
  rcases h with rfl | ⟨w, rfl, hw⟩
  · rfl
  · cases w <;> first | rfl | (simp [Value.category] at hw)
theorem os15_62_b1 {s0 : Slot} {z1 : Value} {z2 : Value} {z3 : Value} {z4 : Value} {z5 : Value} {z6 : Value} {z8 : Value} {z9 : Value} {s10 : Slot} {s11 : Slot} {v : Int32} (h : One s10) : storeLocals #[s0, .val z1, .val z2, .val z3, .val z4, .val z5, .val z6, .second, .val z8, .val z9, s10, s11] 10 (.int v) = some #[s0, .val z1, .val z2, .val z3, .val z4, .val z5, .val z6, .second, .val z8, .val z9, .val (.int v), s11] := by
  rcases h with rfl | ⟨w, rfl, hw⟩
  · rfl
  · cases w <;> first | rfl | (simp [Value.category] at hw)
set_option maxRecDepth 65536 in
set_option maxHeartbeats 40000000 in
theorem b1 {p : Program} {l : Launch} {e : Env} {s : State} {m : MethodId} {args : Array Value} {below : List Frame} {meth : Method} {c : Code} {T0 : State} {locs : List Loc} {cells slots : Nat} {Z : State} {a0 : Array Value} {h0 : Heap} (s0 : Slot) (o1 : Addr) (i2 : Int32) (i3 : Int32) (s4 : Slot) (s5 : Slot) (s8 : Slot) (s9 : Slot) (s10 : Slot) (s11 : Slot) (cs : List Int32) (ii : Nat) (n0 : Nat)
    (X0 : Stand p l e own_R15 s m args below meth c T0 locs cells slots) (hx : p.tables.exec = Jvm.exec) (hZ : Z.Warmed39 s.vm) (hw : ∀ d ∈ tables_1, d.before a0 Z = true) (hby : c.code = prog_8_method_2_code) (hml : c.maxLocals = 12) (hown : s.vm.findClass "com/example/bandmark/bandmark/PlainDecimal" = some m.cls) (e0 : T0.heap = h0) (TX : own_Tx Z h0 o1 cs) (hi : ii < cs.length) (hj : i2 = Int32.ofNat ii) (Z0 : n0 ≤ h0.size) (N0 : Fr n0 locs) (hcl : cells ≤ own_R15.cells) (hsl : slots ≤ own_R15.slots) (hs4 : One s4) (hs5 : One s5) (hs8 : One s8) (hs9 : One s9) (hs10 : One s10) (hc6 : i2 < i3) (hc29 : ¬ ((1 : Int32) = (0 : Int32))) (hk0 : (cs.getD ii 0) = (45 : Int32)) :
    ∃ (T' : State) (locs' : List Loc), Stand p l e own_R15 s m args below meth c T' locs' cells slots ∧ Fr n0 locs' ∧ T'.heap = h0 ∧
      ∀ target, Steps p.tables e below (T'.setTop (mkF m 64 #[s0, .val (.ref o1), .val (.int i2), .val (.int i3), .val (.int (i2 + (1 : Int32))), .val (.int 1), .val (.long (0 : Int64)), .second, .val (.int 0), .val (.int 0), .val (.int 0), s11] [])) target → Steps p.tables e below (T0.setTop (mkF m 0 #[s0, .val (.ref o1), .val (.int i2), .val (.int i3), s4, s5, .unset, .unset, s8, s9, s10, s11] [])) target := by
  obtain ⟨cq5, kq5, q5a, q5b, q5c⟩ := isOf hZ e0 TX.exa
  obtain ⟨_, _, ⟨T5, L5, k5, n5⟩, -, X5, ⟨Lc5, hQ5, l5, y5, z5⟩, st5⟩ := X0.virtualBack hx (y := (⟨"java/lang/String", "charAt", "(I)C"⟩ : MethodName)) (z := (⟨"java/lang/String", "charAt", "(I)C"⟩ : MethodName)) hown (mvT hZ (own_W hw 69 rfl)) (mvT hZ (own_W hw 70 rfl)) (notFace_of_selects (args := #[]) (mvT hZ (own_W hw 72 rfl))) (mvT hZ (own_W hw 72 rfl)) (mvT hZ (own_W hw 71 rfl)) (by decide) (own_ch (W := 0) hZ hw TX (i := ii) (j := i2) hi hj n0 Z0 (by decide) (by decide)) q5a q5c (g := (mkF m 12 #[s0, .val (.ref o1), .val (.int i2), .val (.int i3), .val (.int i2), s5, .unset, .unset, s8, s9, s10, s11] [(.int i2), (.ref o1)])) rfl (by rw [hml]; rfl) (Steps.refl _) (argsL := [(.int i2)]) (rest := []) (lenOf pd_15_0 rfl) rfl (by show 2 * 0 + _ ≤ _; exact Nat.le_of_eq rfl) (hb hby d15_12) (fun _ _ => ⟨rfl, e0, hcl, hsl⟩)
  dsimp only [Pt.U, Pt.locs, Pt.cells, Pt.slots] at X5 l5 y5 z5 st5 hQ5
  subst l5 y5 z5
  obtain ⟨rfl, N5q, e5⟩ := hQ5
  have N5 := Fr.app N0 N5q
  refine ⟨T5, _, X5, N5, e5, fun target kt => ?_⟩
  refine XS.iloadN X0.here hx rfl (hb hby d15_0) rfl ?_
  refine XS.istore X0.here hx rfl (hb hby d15_1) rfl (l' := #[s0, .val (.ref o1), .val (.int i2), .val (.int i3), .val (.int i2), s5, .unset, .unset, s8, s9, s10, s11]) (os15_1_b1 hs4) ?_
  refine XS.iload X0.here hx rfl (hb hby d15_3) rfl ?_
  refine XS.iloadN X0.here hx rfl (hb hby d15_5) rfl ?_
  refine XS.icmpNo X0.here hx rfl (hb hby d15_6) rfl (tlt hc6).2.1 ?_
  refine XS.aloadN X0.here hx rfl (hb hby d15_9) rfl rfl ?_
  refine XS.iload X0.here hx rfl (hb hby d15_10) rfl ?_
  refine st5.trans ?_
  refine XS.bipush X5.here hx rfl (hb hby d15_15) ?_
  refine XS.icmpNo X5.here hx rfl (hb hby d15_17) rfl (teq (hk0 : (cs.getD ii 0) = (45 : Int32))).2 ?_
  refine XS.iconst X5.here hx rfl (hb hby d15_20) ?_
  refine XS.goto X5.here hx rfl (pc0 := 21) (pc' := 25) rfl (hb hby d15_21) (by decide) (by decide) ?_
  refine XS.istore X5.here hx rfl (hb hby d15_25) rfl (l' := #[s0, .val (.ref o1), .val (.int i2), .val (.int i3), .val (.int i2), .val (.int 1), .unset, .unset, s8, s9, s10, s11]) (os15_25_b1 hs5) ?_
  refine XS.iload X5.here hx rfl (hb hby d15_27) rfl ?_
  refine XS.ifYes X5.here hx rfl (pc0 := 29) (pc' := 49) rfl (hb hby d15_29) rfl ((if0 _ _).trans (feq hc29).2) (by decide) (by decide) ?_
  refine XS.iinc X5.here hx rfl (hb hby d15_49) rfl (l' := #[s0, .val (.ref o1), .val (.int i2), .val (.int i3), .val (.int (i2 + (1 : Int32))), .val (.int 1), .unset, .unset, s8, s9, s10, s11]) rfl ?_
  refine XS.lconst X5.here hx rfl (hb hby d15_52) ?_
  refine XS.lstore X5.here hx rfl (hb hby d15_53) rfl (l' := #[s0, .val (.ref o1), .val (.int i2), .val (.int i3), .val (.int (i2 + (1 : Int32))), .val (.int 1), .val (.long (0 : Int64)), .second, s8, s9, s10, s11]) rfl ?_
  refine XS.iconst X5.here hx rfl (hb hby d15_55) ?_
  refine XS.istore X5.here hx rfl (hb hby d15_56) rfl (l' := #[s0, .val (.ref o1), .val (.int i2), .val (.int i3), .val (.int (i2 + (1 : Int32))), .val (.int 1), .val (.long (0 : Int64)), .second, .val (.int 0), s9, s10, s11]) (os15_56_b1 hs8) ?_
  refine XS.iconst X5.here hx rfl (hb hby d15_58) ?_
  refine XS.istore X5.here hx rfl (hb hby d15_59) rfl (l' := #[s0, .val (.ref o1), .val (.int i2), .val (.int i3), .val (.int (i2 + (1 : Int32))), .val (.int 1), .val (.long (0 : Int64)), .second, .val (.int 0), .val (.int 0), s10, s11]) (os15_59_b1 hs9) ?_
  refine XS.iconst X5.here hx rfl (hb hby d15_61) ?_
  refine XS.istore X5.here hx rfl (hb hby d15_62) rfl (l' := #[s0, .val (.ref o1), .val (.int i2), .val (.int i3), .val (.int (i2 + (1 : Int32))), .val (.int 1), .val (.long (0 : Int64)), .second, .val (.int 0), .val (.int 0), .val (.int 0), s11]) (os15_62_b1 hs10) ?_
  exact kt
theorem d15_38 : decode prog_8_method_2_code 38 = .ok (.aload_n 1, 1) := by decide +kernel
theorem d15_39 : decode prog_8_method_2_code 39 = .ok (.iload 4, 2) := by decide +kernel
theorem d15_41 : decode prog_8_method_2_code 41 = .ok (.invokevirtual 7, 3) := by decide +kernel
theorem d15_44 : decode prog_8_method_2_code 44 = .ok (.bipush 43, 2) := by decide +kernel
theorem d15_46 : decode prog_8_method_2_code 46 = .ok (.if_icmp .ne 6, 3) := by decide +kernel
theorem os15_1_b2 {s0 : Slot} {z1 : Value} {z2 : Value} {z3 : Value} {s4 : Slot} {s5 : Slot} {s6 : Slot} {s7 : Slot} {s8 : Slot} {s9 : Slot} {s10 : Slot} {s11 : Slot} {v : Int32} (h : One s4) : storeLocals #[s0, .val z1, .val z2, .val z3, s4, s5, s6, s7, s8, s9, s10, s11] 4 (.int v) = some #[s0, .val z1, .val z2, .val z3, .val (.int v), s5, s6, s7, s8, s9, s10, s11] := by
  rcases h with rfl | ⟨w, rfl, hw⟩
  · rfl
  · cases w <;> first | rfl | (simp [Value.category] at hw)
theorem os15_25_b2 {s0 : Slot} {z1 : Value} {z2 : Value} {z3 : Value} {z4 : Value} {s5 : Slot} {s6 : Slot} {s7 : Slot} {s8 : Slot} {s9 : Slot} {s10 : Slot} {s11 : Slot} {v : Int32} (h : One s5) : storeLocals #[s0, .val z1, .val z2, .val z3, .val z4, s5, s6, s7, s8, s9, s10, s11] 5 (.int v) = some #[s0, .val z1, .val z2, .val z3, .val z4, .val (.int v), s6, s7, s8, s9, s10, s11] := by
  rcases h with rfl | ⟨w, rfl, hw⟩
  · rfl
  · cases w <;> first | rfl | (simp [Value.category] at hw)
theorem os15_56_b2 {s0 : Slot} {z1 : Value} {z2 : Value} {z3 : Value} {z4 : Value} {z5 : Value} {z6 : Value} {s8 : Slot} {s9 : Slot} {s10 : Slot} {s11 : Slot} {v : Int32} (h : One s8) : storeLocals #[s0, .val z1, .val z2, .val z3, .val z4, .val z5, .val z6, .second, s8, s9, s10, s11] 8 (.int v) = some #[s0, .val z1, .val z2, .val z3, .val z4, .val z5, .val z6, .second, .val (.int v), s9, s10, s11] := by
  rcases h with rfl | ⟨w, rfl, hw⟩
  · rfl
  · cases w <;> first | rfl | (simp [Value.category] at hw)
theorem os15_59_b2 {s0 : Slot} {z1 : Value} {z2 : Value} {z3 : Value} {z4 : Value} {z5 : Value} {z6 : Value} {z8 : Value} {s9 : Slot} {s10 : Slot} {s11 : Slot} {v : Int32} (h : One s9) : storeLocals #[s0, .val z1, .val z2, .val z3, .val z4, .val z5, .val z6, .second, .val z8, s9, s10, s11] 9 (.int v) = some #[s0, .val z1, .val z2, .val z3, .val z4, .val z5, .val z6, .second, .val z8, .val (.int v), s10, s11] := by
  rcases h with rfl | ⟨w, rfl, hw⟩
  · rfl
  · cases w <;> first | rfl | (simp [Value.category] at hw)
theorem os15_62_b2 {s0 : Slot} {z1 : Value} {z2 : Value} {z3 : Value} {z4 : Value} {z5 : Value} {z6 : Value} {z8 : Value} {z9 : Value} {s10 : Slot} {s11 : Slot} {v : Int32} (h : One s10) : storeLocals #[s0, .val z1, .val z2, .val z3, .val z4, .val z5, .val z6, .second, .val z8, .val z9, s10, s11] 10 (.int v) = some #[s0, .val z1, .val z2, .val z3, .val z4, .val z5, .val z6, .second, .val z8, .val z9, .val (.int v), s11] := by
  rcases h with rfl | ⟨w, rfl, hw⟩
  · rfl
  · cases w <;> first | rfl | (simp [Value.category] at hw)
set_option maxRecDepth 65536 in
set_option maxHeartbeats 40000000 in
theorem b2 {p : Program} {l : Launch} {e : Env} {s : State} {m : MethodId} {args : Array Value} {below : List Frame} {meth : Method} {c : Code} {T0 : State} {locs : List Loc} {cells slots : Nat} {Z : State} {a0 : Array Value} {h0 : Heap} (s0 : Slot) (o1 : Addr) (i2 : Int32) (i3 : Int32) (s4 : Slot) (s5 : Slot) (s8 : Slot) (s9 : Slot) (s10 : Slot) (s11 : Slot) (cs : List Int32) (ii : Nat) (n0 : Nat)
    (X0 : Stand p l e own_R15 s m args below meth c T0 locs cells slots) (hx : p.tables.exec = Jvm.exec) (hZ : Z.Warmed39 s.vm) (hw : ∀ d ∈ tables_1, d.before a0 Z = true) (hby : c.code = prog_8_method_2_code) (hml : c.maxLocals = 12) (hown : s.vm.findClass "com/example/bandmark/bandmark/PlainDecimal" = some m.cls) (e0 : T0.heap = h0) (TX : own_Tx Z h0 o1 cs) (hi : ii < cs.length) (hj : i2 = Int32.ofNat ii) (Z0 : n0 ≤ h0.size) (N0 : Fr n0 locs) (hcl : cells ≤ own_R15.cells) (hsl : slots ≤ own_R15.slots) (hs4 : One s4) (hs5 : One s5) (hs8 : One s8) (hs9 : One s9) (hs10 : One s10) (hc6 : i2 < i3) (hc35 : i2 < i3) (hk0 : ¬ ((cs.getD ii 0) = (45 : Int32))) (hk1 : (cs.getD ii 0) = (43 : Int32)) :
    ∃ (T' : State) (locs' : List Loc), Stand p l e own_R15 s m args below meth c T' locs' cells slots ∧ Fr n0 locs' ∧ T'.heap = h0 ∧
      ∀ target, Steps p.tables e below (T'.setTop (mkF m 64 #[s0, .val (.ref o1), .val (.int i2), .val (.int i3), .val (.int (i2 + (1 : Int32))), .val (.int 0), .val (.long (0 : Int64)), .second, .val (.int 0), .val (.int 0), .val (.int 0), s11] [])) target → Steps p.tables e below (T0.setTop (mkF m 0 #[s0, .val (.ref o1), .val (.int i2), .val (.int i3), s4, s5, .unset, .unset, s8, s9, s10, s11] [])) target := by
  obtain ⟨cq5, kq5, q5a, q5b, q5c⟩ := isOf hZ e0 TX.exa
  obtain ⟨_, _, ⟨T5, L5, k5, n5⟩, -, X5, ⟨Lc5, hQ5, l5, y5, z5⟩, st5⟩ := X0.virtualBack hx (y := (⟨"java/lang/String", "charAt", "(I)C"⟩ : MethodName)) (z := (⟨"java/lang/String", "charAt", "(I)C"⟩ : MethodName)) hown (mvT hZ (own_W hw 69 rfl)) (mvT hZ (own_W hw 70 rfl)) (notFace_of_selects (args := #[]) (mvT hZ (own_W hw 72 rfl))) (mvT hZ (own_W hw 72 rfl)) (mvT hZ (own_W hw 71 rfl)) (by decide) (own_ch (W := 0) hZ hw TX (i := ii) (j := i2) hi hj n0 Z0 (by decide) (by decide)) q5a q5c (g := (mkF m 12 #[s0, .val (.ref o1), .val (.int i2), .val (.int i3), .val (.int i2), s5, .unset, .unset, s8, s9, s10, s11] [(.int i2), (.ref o1)])) rfl (by rw [hml]; rfl) (Steps.refl _) (argsL := [(.int i2)]) (rest := []) (lenOf pd_15_0 rfl) rfl (by show 2 * 0 + _ ≤ _; exact Nat.le_of_eq rfl) (hb hby d15_12) (fun _ _ => ⟨rfl, e0, hcl, hsl⟩)
  dsimp only [Pt.U, Pt.locs, Pt.cells, Pt.slots] at X5 l5 y5 z5 st5 hQ5
  subst l5 y5 z5
  obtain ⟨rfl, N5q, e5⟩ := hQ5
  have N5 := Fr.app N0 N5q
  obtain ⟨cq6, kq6, q6a, q6b, q6c⟩ := isOf hZ e5 TX.exa
  obtain ⟨_, _, ⟨T6, L6, k6, n6⟩, -, X6, ⟨Lc6, hQ6, l6, y6, z6⟩, st6⟩ := X5.virtualBack hx (y := (⟨"java/lang/String", "charAt", "(I)C"⟩ : MethodName)) (z := (⟨"java/lang/String", "charAt", "(I)C"⟩ : MethodName)) hown (mvT hZ (own_W hw 69 rfl)) (mvT hZ (own_W hw 70 rfl)) (notFace_of_selects (args := #[]) (mvT hZ (own_W hw 72 rfl))) (mvT hZ (own_W hw 72 rfl)) (mvT hZ (own_W hw 71 rfl)) (by decide) (own_ch (W := 0) hZ hw TX (i := ii) (j := i2) hi hj n0 Z0 (by decide) (by decide)) q6a q6c (g := (mkF m 41 #[s0, .val (.ref o1), .val (.int i2), .val (.int i3), .val (.int i2), .val (.int 0), .unset, .unset, s8, s9, s10, s11] [(.int i2), (.ref o1)])) rfl (by rw [hml]; rfl) (Steps.refl _) (argsL := [(.int i2)]) (rest := []) (lenOf pd_15_0 rfl) rfl (by show 2 * 0 + _ ≤ _; exact Nat.le_of_eq rfl) (hb hby d15_41) (fun _ _ => ⟨rfl, e5, hcl, hsl⟩)
  dsimp only [Pt.U, Pt.locs, Pt.cells, Pt.slots] at X6 l6 y6 z6 st6 hQ6
  subst l6 y6 z6
  obtain ⟨rfl, N6q, e6⟩ := hQ6
  have N6 := Fr.app N5 N6q
  refine ⟨T6, _, X6, N6, e6, fun target kt => ?_⟩
  refine XS.iloadN X0.here hx rfl (hb hby d15_0) rfl ?_
  refine XS.istore X0.here hx rfl (hb hby d15_1) rfl (l' := #[s0, .val (.ref o1), .val (.int i2), .val (.int i3), .val (.int i2), s5, .unset, .unset, s8, s9, s10, s11]) (os15_1_b2 hs4) ?_
  refine XS.iload X0.here hx rfl (hb hby d15_3) rfl ?_
  refine XS.iloadN X0.here hx rfl (hb hby d15_5) rfl ?_
  refine XS.icmpNo X0.here hx rfl (hb hby d15_6) rfl (tlt hc6).2.1 ?_
  refine XS.aloadN X0.here hx rfl (hb hby d15_9) rfl rfl ?_
  refine XS.iload X0.here hx rfl (hb hby d15_10) rfl ?_
  refine st5.trans ?_
  refine XS.bipush X5.here hx rfl (hb hby d15_15) ?_
  refine XS.icmpYes X5.here hx rfl (pc0 := 17) (pc' := 24) rfl (hb hby d15_17) rfl (feq (hk0 : ¬ ((cs.getD ii 0) = (45 : Int32)))).2 (by decide) (by decide) ?_
  refine XS.iconst X5.here hx rfl (hb hby d15_24) ?_
  refine XS.istore X5.here hx rfl (hb hby d15_25) rfl (l' := #[s0, .val (.ref o1), .val (.int i2), .val (.int i3), .val (.int i2), .val (.int 0), .unset, .unset, s8, s9, s10, s11]) (os15_25_b2 hs5) ?_
  refine XS.iload X5.here hx rfl (hb hby d15_27) rfl ?_
  refine XS.ifNo X5.here hx rfl (hb hby d15_29) rfl ((if0 _ _).trans (teq (rfl : (0 : Int32) = (0 : Int32))).2) ?_
  refine XS.iload X5.here hx rfl (hb hby d15_32) rfl ?_
  refine XS.iloadN X5.here hx rfl (hb hby d15_34) rfl ?_
  refine XS.icmpNo X5.here hx rfl (hb hby d15_35) rfl (tlt hc35).2.1 ?_
  refine XS.aloadN X5.here hx rfl (hb hby d15_38) rfl rfl ?_
  refine XS.iload X5.here hx rfl (hb hby d15_39) rfl ?_
  refine st6.trans ?_
  refine XS.bipush X6.here hx rfl (hb hby d15_44) ?_
  refine XS.icmpNo X6.here hx rfl (hb hby d15_46) rfl (teq (hk1 : (cs.getD ii 0) = (43 : Int32))).2 ?_
  refine XS.iinc X6.here hx rfl (hb hby d15_49) rfl (l' := #[s0, .val (.ref o1), .val (.int i2), .val (.int i3), .val (.int (i2 + (1 : Int32))), .val (.int 0), .unset, .unset, s8, s9, s10, s11]) rfl ?_
  refine XS.lconst X6.here hx rfl (hb hby d15_52) ?_
  refine XS.lstore X6.here hx rfl (hb hby d15_53) rfl (l' := #[s0, .val (.ref o1), .val (.int i2), .val (.int i3), .val (.int (i2 + (1 : Int32))), .val (.int 0), .val (.long (0 : Int64)), .second, s8, s9, s10, s11]) rfl ?_
  refine XS.iconst X6.here hx rfl (hb hby d15_55) ?_
  refine XS.istore X6.here hx rfl (hb hby d15_56) rfl (l' := #[s0, .val (.ref o1), .val (.int i2), .val (.int i3), .val (.int (i2 + (1 : Int32))), .val (.int 0), .val (.long (0 : Int64)), .second, .val (.int 0), s9, s10, s11]) (os15_56_b2 hs8) ?_
  refine XS.iconst X6.here hx rfl (hb hby d15_58) ?_
  refine XS.istore X6.here hx rfl (hb hby d15_59) rfl (l' := #[s0, .val (.ref o1), .val (.int i2), .val (.int i3), .val (.int (i2 + (1 : Int32))), .val (.int 0), .val (.long (0 : Int64)), .second, .val (.int 0), .val (.int 0), s10, s11]) (os15_59_b2 hs9) ?_
  refine XS.iconst X6.here hx rfl (hb hby d15_61) ?_
  refine XS.istore X6.here hx rfl (hb hby d15_62) rfl (l' := #[s0, .val (.ref o1), .val (.int i2), .val (.int i3), .val (.int (i2 + (1 : Int32))), .val (.int 0), .val (.long (0 : Int64)), .second, .val (.int 0), .val (.int 0), .val (.int 0), s11]) (os15_62_b2 hs10) ?_
  exact kt
theorem os15_1_b3 {s0 : Slot} {z1 : Value} {z2 : Value} {z3 : Value} {s4 : Slot} {s5 : Slot} {s6 : Slot} {s7 : Slot} {s8 : Slot} {s9 : Slot} {s10 : Slot} {s11 : Slot} {v : Int32} (h : One s4) : storeLocals #[s0, .val z1, .val z2, .val z3, s4, s5, s6, s7, s8, s9, s10, s11] 4 (.int v) = some #[s0, .val z1, .val z2, .val z3, .val (.int v), s5, s6, s7, s8, s9, s10, s11] := by
  rcases h with rfl | ⟨w, rfl, hw⟩
  · rfl
  · cases w <;> first | rfl | (simp [Value.category] at hw)
theorem os15_25_b3 {s0 : Slot} {z1 : Value} {z2 : Value} {z3 : Value} {z4 : Value} {s5 : Slot} {s6 : Slot} {s7 : Slot} {s8 : Slot} {s9 : Slot} {s10 : Slot} {s11 : Slot} {v : Int32} (h : One s5) : storeLocals #[s0, .val z1, .val z2, .val z3, .val z4, s5, s6, s7, s8, s9, s10, s11] 5 (.int v) = some #[s0, .val z1, .val z2, .val z3, .val z4, .val (.int v), s6, s7, s8, s9, s10, s11] := by
  rcases h with rfl | ⟨w, rfl, hw⟩
  · rfl
  · cases w <;> first | rfl | (simp [Value.category] at hw)
theorem os15_56_b3 {s0 : Slot} {z1 : Value} {z2 : Value} {z3 : Value} {z4 : Value} {z5 : Value} {z6 : Value} {s8 : Slot} {s9 : Slot} {s10 : Slot} {s11 : Slot} {v : Int32} (h : One s8) : storeLocals #[s0, .val z1, .val z2, .val z3, .val z4, .val z5, .val z6, .second, s8, s9, s10, s11] 8 (.int v) = some #[s0, .val z1, .val z2, .val z3, .val z4, .val z5, .val z6, .second, .val (.int v), s9, s10, s11] := by
  rcases h with rfl | ⟨w, rfl, hw⟩
  · rfl
  · cases w <;> first | rfl | (simp [Value.category] at hw)
theorem os15_59_b3 {s0 : Slot} {z1 : Value} {z2 : Value} {z3 : Value} {z4 : Value} {z5 : Value} {z6 : Value} {z8 : Value} {s9 : Slot} {s10 : Slot} {s11 : Slot} {v : Int32} (h : One s9) : storeLocals #[s0, .val z1, .val z2, .val z3, .val z4, .val z5, .val z6, .second, .val z8, s9, s10, s11] 9 (.int v) = some #[s0, .val z1, .val z2, .val z3, .val z4, .val z5, .val z6, .second, .val z8, .val (.int v), s10, s11] := by
  rcases h with rfl | ⟨w, rfl, hw⟩
  · rfl
  · cases w <;> first | rfl | (simp [Value.category] at hw)
theorem os15_62_b3 {s0 : Slot} {z1 : Value} {z2 : Value} {z3 : Value} {z4 : Value} {z5 : Value} {z6 : Value} {z8 : Value} {z9 : Value} {s10 : Slot} {s11 : Slot} {v : Int32} (h : One s10) : storeLocals #[s0, .val z1, .val z2, .val z3, .val z4, .val z5, .val z6, .second, .val z8, .val z9, s10, s11] 10 (.int v) = some #[s0, .val z1, .val z2, .val z3, .val z4, .val z5, .val z6, .second, .val z8, .val z9, .val (.int v), s11] := by
  rcases h with rfl | ⟨w, rfl, hw⟩
  · rfl
  · cases w <;> first | rfl | (simp [Value.category] at hw)
set_option maxRecDepth 65536 in
set_option maxHeartbeats 40000000 in
theorem b3 {p : Program} {l : Launch} {e : Env} {s : State} {m : MethodId} {args : Array Value} {below : List Frame} {meth : Method} {c : Code} {T0 : State} {locs : List Loc} {cells slots : Nat} {Z : State} {a0 : Array Value} {h0 : Heap} (s0 : Slot) (o1 : Addr) (i2 : Int32) (i3 : Int32) (s4 : Slot) (s5 : Slot) (s8 : Slot) (s9 : Slot) (s10 : Slot) (s11 : Slot) (cs : List Int32) (ii : Nat) (n0 : Nat)
    (X0 : Stand p l e own_R15 s m args below meth c T0 locs cells slots) (hx : p.tables.exec = Jvm.exec) (hZ : Z.Warmed39 s.vm) (hw : ∀ d ∈ tables_1, d.before a0 Z = true) (hby : c.code = prog_8_method_2_code) (hml : c.maxLocals = 12) (hown : s.vm.findClass "com/example/bandmark/bandmark/PlainDecimal" = some m.cls) (e0 : T0.heap = h0) (TX : own_Tx Z h0 o1 cs) (hi : ii < cs.length) (hj : i2 = Int32.ofNat ii) (Z0 : n0 ≤ h0.size) (N0 : Fr n0 locs) (hcl : cells ≤ own_R15.cells) (hsl : slots ≤ own_R15.slots) (hs4 : One s4) (hs5 : One s5) (hs8 : One s8) (hs9 : One s9) (hs10 : One s10) (hc6 : i2 < i3) (hc35 : i2 < i3) (hk0 : ¬ ((cs.getD ii 0) = (45 : Int32))) (hk1 : ¬ ((cs.getD ii 0) = (43 : Int32))) :
    ∃ (T' : State) (locs' : List Loc), Stand p l e own_R15 s m args below meth c T' locs' cells slots ∧ Fr n0 locs' ∧ T'.heap = h0 ∧
      ∀ target, Steps p.tables e below (T'.setTop (mkF m 64 #[s0, .val (.ref o1), .val (.int i2), .val (.int i3), .val (.int i2), .val (.int 0), .val (.long (0 : Int64)), .second, .val (.int 0), .val (.int 0), .val (.int 0), s11] [])) target → Steps p.tables e below (T0.setTop (mkF m 0 #[s0, .val (.ref o1), .val (.int i2), .val (.int i3), s4, s5, .unset, .unset, s8, s9, s10, s11] [])) target := by
  obtain ⟨cq5, kq5, q5a, q5b, q5c⟩ := isOf hZ e0 TX.exa
  obtain ⟨_, _, ⟨T5, L5, k5, n5⟩, -, X5, ⟨Lc5, hQ5, l5, y5, z5⟩, st5⟩ := X0.virtualBack hx (y := (⟨"java/lang/String", "charAt", "(I)C"⟩ : MethodName)) (z := (⟨"java/lang/String", "charAt", "(I)C"⟩ : MethodName)) hown (mvT hZ (own_W hw 69 rfl)) (mvT hZ (own_W hw 70 rfl)) (notFace_of_selects (args := #[]) (mvT hZ (own_W hw 72 rfl))) (mvT hZ (own_W hw 72 rfl)) (mvT hZ (own_W hw 71 rfl)) (by decide) (own_ch (W := 0) hZ hw TX (i := ii) (j := i2) hi hj n0 Z0 (by decide) (by decide)) q5a q5c (g := (mkF m 12 #[s0, .val (.ref o1), .val (.int i2), .val (.int i3), .val (.int i2), s5, .unset, .unset, s8, s9, s10, s11] [(.int i2), (.ref o1)])) rfl (by rw [hml]; rfl) (Steps.refl _) (argsL := [(.int i2)]) (rest := []) (lenOf pd_15_0 rfl) rfl (by show 2 * 0 + _ ≤ _; exact Nat.le_of_eq rfl) (hb hby d15_12) (fun _ _ => ⟨rfl, e0, hcl, hsl⟩)
  dsimp only [Pt.U, Pt.locs, Pt.cells, Pt.slots] at X5 l5 y5 z5 st5 hQ5
  subst l5 y5 z5
  obtain ⟨rfl, N5q, e5⟩ := hQ5
  have N5 := Fr.app N0 N5q
  obtain ⟨cq6, kq6, q6a, q6b, q6c⟩ := isOf hZ e5 TX.exa
  obtain ⟨_, _, ⟨T6, L6, k6, n6⟩, -, X6, ⟨Lc6, hQ6, l6, y6, z6⟩, st6⟩ := X5.virtualBack hx (y := (⟨"java/lang/String", "charAt", "(I)C"⟩ : MethodName)) (z := (⟨"java/lang/String", "charAt", "(I)C"⟩ : MethodName)) hown (mvT hZ (own_W hw 69 rfl)) (mvT hZ (own_W hw 70 rfl)) (notFace_of_selects (args := #[]) (mvT hZ (own_W hw 72 rfl))) (mvT hZ (own_W hw 72 rfl)) (mvT hZ (own_W hw 71 rfl)) (by decide) (own_ch (W := 0) hZ hw TX (i := ii) (j := i2) hi hj n0 Z0 (by decide) (by decide)) q6a q6c (g := (mkF m 41 #[s0, .val (.ref o1), .val (.int i2), .val (.int i3), .val (.int i2), .val (.int 0), .unset, .unset, s8, s9, s10, s11] [(.int i2), (.ref o1)])) rfl (by rw [hml]; rfl) (Steps.refl _) (argsL := [(.int i2)]) (rest := []) (lenOf pd_15_0 rfl) rfl (by show 2 * 0 + _ ≤ _; exact Nat.le_of_eq rfl) (hb hby d15_41) (fun _ _ => ⟨rfl, e5, hcl, hsl⟩)
  dsimp only [Pt.U, Pt.locs, Pt.cells, Pt.slots] at X6 l6 y6 z6 st6 hQ6
  subst l6 y6 z6
  obtain ⟨rfl, N6q, e6⟩ := hQ6
  have N6 := Fr.app N5 N6q
  refine ⟨T6, _, X6, N6, e6, fun target kt => ?_⟩
  refine XS.iloadN X0.here hx rfl (hb hby d15_0) rfl ?_
  refine XS.istore X0.here hx rfl (hb hby d15_1) rfl (l' := #[s0, .val (.ref o1), .val (.int i2), .val (.int i3), .val (.int i2), s5, .unset, .unset, s8, s9, s10, s11]) (os15_1_b3 hs4) ?_
  refine XS.iload X0.here hx rfl (hb hby d15_3) rfl ?_
  refine XS.iloadN X0.here hx rfl (hb hby d15_5) rfl ?_
  refine XS.icmpNo X0.here hx rfl (hb hby d15_6) rfl (tlt hc6).2.1 ?_
  refine XS.aloadN X0.here hx rfl (hb hby d15_9) rfl rfl ?_
  refine XS.iload X0.here hx rfl (hb hby d15_10) rfl ?_
  refine st5.trans ?_
  refine XS.bipush X5.here hx rfl (hb hby d15_15) ?_
  refine XS.icmpYes X5.here hx rfl (pc0 := 17) (pc' := 24) rfl (hb hby d15_17) rfl (feq (hk0 : ¬ ((cs.getD ii 0) = (45 : Int32)))).2 (by decide) (by decide) ?_
  refine XS.iconst X5.here hx rfl (hb hby d15_24) ?_
  refine XS.istore X5.here hx rfl (hb hby d15_25) rfl (l' := #[s0, .val (.ref o1), .val (.int i2), .val (.int i3), .val (.int i2), .val (.int 0), .unset, .unset, s8, s9, s10, s11]) (os15_25_b3 hs5) ?_
  refine XS.iload X5.here hx rfl (hb hby d15_27) rfl ?_
  refine XS.ifNo X5.here hx rfl (hb hby d15_29) rfl ((if0 _ _).trans (teq (rfl : (0 : Int32) = (0 : Int32))).2) ?_
  refine XS.iload X5.here hx rfl (hb hby d15_32) rfl ?_
  refine XS.iloadN X5.here hx rfl (hb hby d15_34) rfl ?_
  refine XS.icmpNo X5.here hx rfl (hb hby d15_35) rfl (tlt hc35).2.1 ?_
  refine XS.aloadN X5.here hx rfl (hb hby d15_38) rfl rfl ?_
  refine XS.iload X5.here hx rfl (hb hby d15_39) rfl ?_
  refine st6.trans ?_
  refine XS.bipush X6.here hx rfl (hb hby d15_44) ?_
  refine XS.icmpYes X6.here hx rfl (pc0 := 46) (pc' := 52) rfl (hb hby d15_46) rfl (feq (hk1 : ¬ ((cs.getD ii 0) = (43 : Int32)))).2 (by decide) (by decide) ?_
  refine XS.lconst X6.here hx rfl (hb hby d15_52) ?_
  refine XS.lstore X6.here hx rfl (hb hby d15_53) rfl (l' := #[s0, .val (.ref o1), .val (.int i2), .val (.int i3), .val (.int i2), .val (.int 0), .val (.long (0 : Int64)), .second, s8, s9, s10, s11]) rfl ?_
  refine XS.iconst X6.here hx rfl (hb hby d15_55) ?_
  refine XS.istore X6.here hx rfl (hb hby d15_56) rfl (l' := #[s0, .val (.ref o1), .val (.int i2), .val (.int i3), .val (.int i2), .val (.int 0), .val (.long (0 : Int64)), .second, .val (.int 0), s9, s10, s11]) (os15_56_b3 hs8) ?_
  refine XS.iconst X6.here hx rfl (hb hby d15_58) ?_
  refine XS.istore X6.here hx rfl (hb hby d15_59) rfl (l' := #[s0, .val (.ref o1), .val (.int i2), .val (.int i3), .val (.int i2), .val (.int 0), .val (.long (0 : Int64)), .second, .val (.int 0), .val (.int 0), s10, s11]) (os15_59_b3 hs9) ?_
  refine XS.iconst X6.here hx rfl (hb hby d15_61) ?_
  refine XS.istore X6.here hx rfl (hb hby d15_62) rfl (l' := #[s0, .val (.ref o1), .val (.int i2), .val (.int i3), .val (.int i2), .val (.int 0), .val (.long (0 : Int64)), .second, .val (.int 0), .val (.int 0), .val (.int 0), s11]) (os15_62_b3 hs10) ?_
  exact kt
theorem d15_64 : decode prog_8_method_2_code 64 = .ok (.iload 4, 2) := by decide +kernel
theorem d15_66 : decode prog_8_method_2_code 66 = .ok (.iload_n 3, 1) := by decide +kernel
theorem d15_67 : decode prog_8_method_2_code 67 = .ok (.if_icmp .ge 80, 3) := by decide +kernel
theorem d15_70 : decode prog_8_method_2_code 70 = .ok (.aload_n 1, 1) := by decide +kernel
theorem d15_71 : decode prog_8_method_2_code 71 = .ok (.iload 4, 2) := by decide +kernel
theorem d15_73 : decode prog_8_method_2_code 73 = .ok (.invokevirtual 7, 3) := by decide +kernel
theorem d15_76 : decode prog_8_method_2_code 76 = .ok (.istore 11, 2) := by decide +kernel
theorem d15_78 : decode prog_8_method_2_code 78 = .ok (.iload 11, 2) := by decide +kernel
theorem d15_80 : decode prog_8_method_2_code 80 = .ok (.bipush 48, 2) := by decide +kernel
theorem d15_82 : decode prog_8_method_2_code 82 = .ok (.if_icmp .lt 39, 3) := by decide +kernel
theorem d15_85 : decode prog_8_method_2_code 85 = .ok (.iload 11, 2) := by decide +kernel
theorem d15_87 : decode prog_8_method_2_code 87 = .ok (.bipush 57, 2) := by decide +kernel
theorem d15_89 : decode prog_8_method_2_code 89 = .ok (.if_icmp .gt 32, 3) := by decide +kernel
theorem d15_92 : decode prog_8_method_2_code 92 = .ok (.lload 6, 2) := by decide +kernel
theorem d15_94 : decode prog_8_method_2_code 94 = .ok (.ldc2_w 13, 3) := by decide +kernel
theorem d15_97 : decode prog_8_method_2_code 97 = .ok (.lmul, 1) := by decide +kernel
theorem d15_98 : decode prog_8_method_2_code 98 = .ok (.iload 11, 2) := by decide +kernel
theorem d15_100 : decode prog_8_method_2_code 100 = .ok (.bipush 48, 2) := by decide +kernel
theorem d15_102 : decode prog_8_method_2_code 102 = .ok (.isub, 1) := by decide +kernel
theorem d15_103 : decode prog_8_method_2_code 103 = .ok (.i2l, 1) := by decide +kernel
theorem d15_104 : decode prog_8_method_2_code 104 = .ok (.ladd, 1) := by decide +kernel
theorem d15_105 : decode prog_8_method_2_code 105 = .ok (.lstore 6, 2) := by decide +kernel
theorem d15_107 : decode prog_8_method_2_code 107 = .ok (.iinc 8 1, 3) := by decide +kernel
theorem d15_110 : decode prog_8_method_2_code 110 = .ok (.iload 10, 2) := by decide +kernel
theorem d15_112 : decode prog_8_method_2_code 112 = .ok (.ifCond .eq 29, 3) := by decide +kernel
theorem d15_141 : decode prog_8_method_2_code 141 = .ok (.iinc 4 1, 3) := by decide +kernel
theorem d15_144 : decode prog_8_method_2_code 144 = .ok (.goto (-80), 3) := by decide +kernel
theorem os15_76_t1 {s0 : Slot} {z1 : Value} {s2 : Slot} {z3 : Value} {z4 : Value} {s5 : Slot} {z6 : Value} {z8 : Value} {s9 : Slot} {z10 : Value} {s11 : Slot} {v : Int32} (h : One s11) : storeLocals #[s0, .val z1, s2, .val z3, .val z4, s5, .val z6, .second, .val z8, s9, .val z10, s11] 11 (.int v) = some #[s0, .val z1, s2, .val z3, .val z4, s5, .val z6, .second, .val z8, s9, .val z10, .val (.int v)] := by
  rcases h with rfl | ⟨w, rfl, hw⟩
  · rfl
  · cases w <;> first | rfl | (simp [Value.category] at hw)
set_option maxRecDepth 65536 in
set_option maxHeartbeats 40000000 in
theorem t1 {p : Program} {l : Launch} {e : Env} {s : State} {m : MethodId} {args : Array Value} {below : List Frame} {meth : Method} {c : Code} {T0 : State} {locs : List Loc} {cells slots : Nat} {Z : State} {a0 : Array Value} {h0 : Heap} (s0 : Slot) (o1 : Addr) (s2 : Slot) (i3 : Int32) (i4 : Int32) (s5 : Slot) (j6 : Int64) (i8 : Int32) (s9 : Slot) (i10 : Int32) (s11 : Slot) (cs : List Int32) (ii : Nat) (n0 : Nat)
    (X0 : Stand p l e own_R15 s m args below meth c T0 locs cells slots) (hx : p.tables.exec = Jvm.exec) (hZ : Z.Warmed39 s.vm) (hw : ∀ d ∈ tables_1, d.before a0 Z = true) (hby : c.code = prog_8_method_2_code) (hml : c.maxLocals = 12) (hown : s.vm.findClass "com/example/bandmark/bandmark/PlainDecimal" = some m.cls) (e0 : T0.heap = h0) (TX : own_Tx Z h0 o1 cs) (hi : ii < cs.length) (hj : i4 = Int32.ofNat ii) (Z0 : n0 ≤ h0.size) (N0 : Fr n0 locs) (hcl : cells ≤ own_R15.cells) (hsl : slots ≤ own_R15.slots) (hs11 : One s11) (hc67 : i4 < i3) (hc112 : i10 = (0 : Int32)) (hk0 : ¬ ((cs.getD ii 0) < (48 : Int32))) (hk1 : ¬ ((57 : Int32) < (cs.getD ii 0))) :
    ∃ (T' : State) (locs' : List Loc), Stand p l e own_R15 s m args below meth c T' locs' cells slots ∧ Fr n0 locs' ∧ T'.heap = h0 ∧
      ∀ target, Steps p.tables e below (T'.setTop (mkF m 64 #[s0, .val (.ref o1), s2, .val (.int i3), .val (.int (i4 + (1 : Int32))), s5, .val (.long ((j6 * (10 : Int64)) + (((cs.getD ii 0) - (48 : Int32)).toInt64))), .second, .val (.int (i8 + (1 : Int32))), s9, .val (.int i10), .val (.int (cs.getD ii 0))] [])) target → Steps p.tables e below (T0.setTop (mkF m 64 #[s0, .val (.ref o1), s2, .val (.int i3), .val (.int i4), s5, .val (.long j6), .second, .val (.int i8), s9, .val (.int i10), s11] [])) target := by
  obtain ⟨cq5, kq5, q5a, q5b, q5c⟩ := isOf hZ e0 TX.exa
  obtain ⟨_, _, ⟨T5, L5, k5, n5⟩, -, X5, ⟨Lc5, hQ5, l5, y5, z5⟩, st5⟩ := X0.virtualBack hx (y := (⟨"java/lang/String", "charAt", "(I)C"⟩ : MethodName)) (z := (⟨"java/lang/String", "charAt", "(I)C"⟩ : MethodName)) hown (mvT hZ (own_W hw 69 rfl)) (mvT hZ (own_W hw 70 rfl)) (notFace_of_selects (args := #[]) (mvT hZ (own_W hw 72 rfl))) (mvT hZ (own_W hw 72 rfl)) (mvT hZ (own_W hw 71 rfl)) (by decide) (own_ch (W := 0) hZ hw TX (i := ii) (j := i4) hi hj n0 Z0 (by decide) (by decide)) q5a q5c (g := (mkF m 73 #[s0, .val (.ref o1), s2, .val (.int i3), .val (.int i4), s5, .val (.long j6), .second, .val (.int i8), s9, .val (.int i10), s11] [(.int i4), (.ref o1)])) rfl (by rw [hml]; rfl) (Steps.refl _) (argsL := [(.int i4)]) (rest := []) (lenOf pd_15_0 rfl) rfl (by show 2 * 0 + _ ≤ _; exact Nat.le_of_eq rfl) (hb hby d15_73) (fun _ _ => ⟨rfl, e0, hcl, hsl⟩)
  dsimp only [Pt.U, Pt.locs, Pt.cells, Pt.slots] at X5 l5 y5 z5 st5 hQ5
  subst l5 y5 z5
  obtain ⟨rfl, N5q, e5⟩ := hQ5
  have N5 := Fr.app N0 N5q
  refine ⟨T5, _, X5, N5, e5, fun target kt => ?_⟩
  refine XS.iload X0.here hx rfl (hb hby d15_64) rfl ?_
  refine XS.iloadN X0.here hx rfl (hb hby d15_66) rfl ?_
  refine XS.icmpNo X0.here hx rfl (hb hby d15_67) rfl (tlt hc67).2.1 ?_
  refine XS.aloadN X0.here hx rfl (hb hby d15_70) rfl rfl ?_
  refine XS.iload X0.here hx rfl (hb hby d15_71) rfl ?_
  refine st5.trans ?_
  refine XS.istore X5.here hx rfl (hb hby d15_76) rfl (l' := #[s0, .val (.ref o1), s2, .val (.int i3), .val (.int i4), s5, .val (.long j6), .second, .val (.int i8), s9, .val (.int i10), .val (.int (cs.getD ii 0))]) (os15_76_t1 hs11) ?_
  refine XS.iload X5.here hx rfl (hb hby d15_78) rfl ?_
  refine XS.bipush X5.here hx rfl (hb hby d15_80) ?_
  refine XS.icmpNo X5.here hx rfl (hb hby d15_82) rfl (flt (hk0 : ¬ ((cs.getD ii 0) < (48 : Int32)))).1 ?_
  refine XS.iload X5.here hx rfl (hb hby d15_85) rfl ?_
  refine XS.bipush X5.here hx rfl (hb hby d15_87) ?_
  refine XS.icmpNo X5.here hx rfl (hb hby d15_89) rfl (flt (hk1 : ¬ ((57 : Int32) < (cs.getD ii 0)))).2.2.1 ?_
  refine XS.lload X5.here hx rfl (hb hby d15_92) rfl ?_
  refine X5.ldc2Long hx hown (mvT hZ (own_W hw 91 rfl)) (g := (mkF m 94 #[s0, .val (.ref o1), s2, .val (.int i3), .val (.int i4), s5, .val (.long j6), .second, .val (.int i8), s9, .val (.int i10), .val (.int (cs.getD ii 0))] [(.long j6)])) rfl (hb hby d15_94) _ ?_
  refine XS.lmul X5.here hx rfl (hb hby d15_97) rfl ?_
  refine XS.iload X5.here hx rfl (hb hby d15_98) rfl ?_
  refine XS.bipush X5.here hx rfl (hb hby d15_100) ?_
  refine XS.isub X5.here hx rfl (hb hby d15_102) rfl ?_
  refine XS.i2l X5.here hx rfl (hb hby d15_103) rfl ?_
  refine XS.ladd X5.here hx rfl (hb hby d15_104) rfl ?_
  refine XS.lstore X5.here hx rfl (hb hby d15_105) rfl (l' := #[s0, .val (.ref o1), s2, .val (.int i3), .val (.int i4), s5, .val (.long ((j6 * (10 : Int64)) + (((cs.getD ii 0) - (48 : Int32)).toInt64))), .second, .val (.int i8), s9, .val (.int i10), .val (.int (cs.getD ii 0))]) rfl ?_
  refine XS.iinc X5.here hx rfl (hb hby d15_107) rfl (l' := #[s0, .val (.ref o1), s2, .val (.int i3), .val (.int i4), s5, .val (.long ((j6 * (10 : Int64)) + (((cs.getD ii 0) - (48 : Int32)).toInt64))), .second, .val (.int (i8 + (1 : Int32))), s9, .val (.int i10), .val (.int (cs.getD ii 0))]) rfl ?_
  refine XS.iload X5.here hx rfl (hb hby d15_110) rfl ?_
  refine XS.ifYes X5.here hx rfl (pc0 := 112) (pc' := 141) rfl (hb hby d15_112) rfl ((if0 _ _).trans (teq hc112).1) (by decide) (by decide) ?_
  refine XS.iinc X5.here hx rfl (hb hby d15_141) rfl (l' := #[s0, .val (.ref o1), s2, .val (.int i3), .val (.int (i4 + (1 : Int32))), s5, .val (.long ((j6 * (10 : Int64)) + (((cs.getD ii 0) - (48 : Int32)).toInt64))), .second, .val (.int (i8 + (1 : Int32))), s9, .val (.int i10), .val (.int (cs.getD ii 0))]) rfl ?_
  refine XS.goto X5.here hx rfl (pc0 := 144) (pc' := 64) rfl (hb hby d15_144) (by decide) (by decide) ?_
  exact kt
theorem d15_115 : decode prog_8_method_2_code 115 = .ok (.iinc 9 1, 3) := by decide +kernel
theorem d15_118 : decode prog_8_method_2_code 118 = .ok (.goto 23, 3) := by decide +kernel
theorem os15_76_t2 {s0 : Slot} {z1 : Value} {s2 : Slot} {z3 : Value} {z4 : Value} {s5 : Slot} {z6 : Value} {z8 : Value} {z9 : Value} {z10 : Value} {s11 : Slot} {v : Int32} (h : One s11) : storeLocals #[s0, .val z1, s2, .val z3, .val z4, s5, .val z6, .second, .val z8, .val z9, .val z10, s11] 11 (.int v) = some #[s0, .val z1, s2, .val z3, .val z4, s5, .val z6, .second, .val z8, .val z9, .val z10, .val (.int v)] := by
  rcases h with rfl | ⟨w, rfl, hw⟩
  · rfl
  · cases w <;> first | rfl | (simp [Value.category] at hw)
set_option maxRecDepth 65536 in
set_option maxHeartbeats 40000000 in
theorem t2 {p : Program} {l : Launch} {e : Env} {s : State} {m : MethodId} {args : Array Value} {below : List Frame} {meth : Method} {c : Code} {T0 : State} {locs : List Loc} {cells slots : Nat} {Z : State} {a0 : Array Value} {h0 : Heap} (s0 : Slot) (o1 : Addr) (s2 : Slot) (i3 : Int32) (i4 : Int32) (s5 : Slot) (j6 : Int64) (i8 : Int32) (i9 : Int32) (i10 : Int32) (s11 : Slot) (cs : List Int32) (ii : Nat) (n0 : Nat)
    (X0 : Stand p l e own_R15 s m args below meth c T0 locs cells slots) (hx : p.tables.exec = Jvm.exec) (hZ : Z.Warmed39 s.vm) (hw : ∀ d ∈ tables_1, d.before a0 Z = true) (hby : c.code = prog_8_method_2_code) (hml : c.maxLocals = 12) (hown : s.vm.findClass "com/example/bandmark/bandmark/PlainDecimal" = some m.cls) (e0 : T0.heap = h0) (TX : own_Tx Z h0 o1 cs) (hi : ii < cs.length) (hj : i4 = Int32.ofNat ii) (Z0 : n0 ≤ h0.size) (N0 : Fr n0 locs) (hcl : cells ≤ own_R15.cells) (hsl : slots ≤ own_R15.slots) (hs11 : One s11) (hc67 : i4 < i3) (hc112 : ¬ (i10 = (0 : Int32))) (hk0 : ¬ ((cs.getD ii 0) < (48 : Int32))) (hk1 : ¬ ((57 : Int32) < (cs.getD ii 0))) :
    ∃ (T' : State) (locs' : List Loc), Stand p l e own_R15 s m args below meth c T' locs' cells slots ∧ Fr n0 locs' ∧ T'.heap = h0 ∧
      ∀ target, Steps p.tables e below (T'.setTop (mkF m 64 #[s0, .val (.ref o1), s2, .val (.int i3), .val (.int (i4 + (1 : Int32))), s5, .val (.long ((j6 * (10 : Int64)) + (((cs.getD ii 0) - (48 : Int32)).toInt64))), .second, .val (.int (i8 + (1 : Int32))), .val (.int (i9 + (1 : Int32))), .val (.int i10), .val (.int (cs.getD ii 0))] [])) target → Steps p.tables e below (T0.setTop (mkF m 64 #[s0, .val (.ref o1), s2, .val (.int i3), .val (.int i4), s5, .val (.long j6), .second, .val (.int i8), .val (.int i9), .val (.int i10), s11] [])) target := by
  obtain ⟨cq5, kq5, q5a, q5b, q5c⟩ := isOf hZ e0 TX.exa
  obtain ⟨_, _, ⟨T5, L5, k5, n5⟩, -, X5, ⟨Lc5, hQ5, l5, y5, z5⟩, st5⟩ := X0.virtualBack hx (y := (⟨"java/lang/String", "charAt", "(I)C"⟩ : MethodName)) (z := (⟨"java/lang/String", "charAt", "(I)C"⟩ : MethodName)) hown (mvT hZ (own_W hw 69 rfl)) (mvT hZ (own_W hw 70 rfl)) (notFace_of_selects (args := #[]) (mvT hZ (own_W hw 72 rfl))) (mvT hZ (own_W hw 72 rfl)) (mvT hZ (own_W hw 71 rfl)) (by decide) (own_ch (W := 0) hZ hw TX (i := ii) (j := i4) hi hj n0 Z0 (by decide) (by decide)) q5a q5c (g := (mkF m 73 #[s0, .val (.ref o1), s2, .val (.int i3), .val (.int i4), s5, .val (.long j6), .second, .val (.int i8), .val (.int i9), .val (.int i10), s11] [(.int i4), (.ref o1)])) rfl (by rw [hml]; rfl) (Steps.refl _) (argsL := [(.int i4)]) (rest := []) (lenOf pd_15_0 rfl) rfl (by show 2 * 0 + _ ≤ _; exact Nat.le_of_eq rfl) (hb hby d15_73) (fun _ _ => ⟨rfl, e0, hcl, hsl⟩)
  dsimp only [Pt.U, Pt.locs, Pt.cells, Pt.slots] at X5 l5 y5 z5 st5 hQ5
  subst l5 y5 z5
  obtain ⟨rfl, N5q, e5⟩ := hQ5
  have N5 := Fr.app N0 N5q
  refine ⟨T5, _, X5, N5, e5, fun target kt => ?_⟩
  refine XS.iload X0.here hx rfl (hb hby d15_64) rfl ?_
  refine XS.iloadN X0.here hx rfl (hb hby d15_66) rfl ?_
  refine XS.icmpNo X0.here hx rfl (hb hby d15_67) rfl (tlt hc67).2.1 ?_
  refine XS.aloadN X0.here hx rfl (hb hby d15_70) rfl rfl ?_
  refine XS.iload X0.here hx rfl (hb hby d15_71) rfl ?_
  refine st5.trans ?_
  refine XS.istore X5.here hx rfl (hb hby d15_76) rfl (l' := #[s0, .val (.ref o1), s2, .val (.int i3), .val (.int i4), s5, .val (.long j6), .second, .val (.int i8), .val (.int i9), .val (.int i10), .val (.int (cs.getD ii 0))]) (os15_76_t2 hs11) ?_
  refine XS.iload X5.here hx rfl (hb hby d15_78) rfl ?_
  refine XS.bipush X5.here hx rfl (hb hby d15_80) ?_
  refine XS.icmpNo X5.here hx rfl (hb hby d15_82) rfl (flt (hk0 : ¬ ((cs.getD ii 0) < (48 : Int32)))).1 ?_
  refine XS.iload X5.here hx rfl (hb hby d15_85) rfl ?_
  refine XS.bipush X5.here hx rfl (hb hby d15_87) ?_
  refine XS.icmpNo X5.here hx rfl (hb hby d15_89) rfl (flt (hk1 : ¬ ((57 : Int32) < (cs.getD ii 0)))).2.2.1 ?_
  refine XS.lload X5.here hx rfl (hb hby d15_92) rfl ?_
  refine X5.ldc2Long hx hown (mvT hZ (own_W hw 91 rfl)) (g := (mkF m 94 #[s0, .val (.ref o1), s2, .val (.int i3), .val (.int i4), s5, .val (.long j6), .second, .val (.int i8), .val (.int i9), .val (.int i10), .val (.int (cs.getD ii 0))] [(.long j6)])) rfl (hb hby d15_94) _ ?_
  refine XS.lmul X5.here hx rfl (hb hby d15_97) rfl ?_
  refine XS.iload X5.here hx rfl (hb hby d15_98) rfl ?_
  refine XS.bipush X5.here hx rfl (hb hby d15_100) ?_
  refine XS.isub X5.here hx rfl (hb hby d15_102) rfl ?_
  refine XS.i2l X5.here hx rfl (hb hby d15_103) rfl ?_
  refine XS.ladd X5.here hx rfl (hb hby d15_104) rfl ?_
  refine XS.lstore X5.here hx rfl (hb hby d15_105) rfl (l' := #[s0, .val (.ref o1), s2, .val (.int i3), .val (.int i4), s5, .val (.long ((j6 * (10 : Int64)) + (((cs.getD ii 0) - (48 : Int32)).toInt64))), .second, .val (.int i8), .val (.int i9), .val (.int i10), .val (.int (cs.getD ii 0))]) rfl ?_
  refine XS.iinc X5.here hx rfl (hb hby d15_107) rfl (l' := #[s0, .val (.ref o1), s2, .val (.int i3), .val (.int i4), s5, .val (.long ((j6 * (10 : Int64)) + (((cs.getD ii 0) - (48 : Int32)).toInt64))), .second, .val (.int (i8 + (1 : Int32))), .val (.int i9), .val (.int i10), .val (.int (cs.getD ii 0))]) rfl ?_
  refine XS.iload X5.here hx rfl (hb hby d15_110) rfl ?_
  refine XS.ifNo X5.here hx rfl (hb hby d15_112) rfl ((if0 _ _).trans (feq hc112).1) ?_
  refine XS.iinc X5.here hx rfl (hb hby d15_115) rfl (l' := #[s0, .val (.ref o1), s2, .val (.int i3), .val (.int i4), s5, .val (.long ((j6 * (10 : Int64)) + (((cs.getD ii 0) - (48 : Int32)).toInt64))), .second, .val (.int (i8 + (1 : Int32))), .val (.int (i9 + (1 : Int32))), .val (.int i10), .val (.int (cs.getD ii 0))]) rfl ?_
  refine XS.goto X5.here hx rfl (pc0 := 118) (pc' := 141) rfl (hb hby d15_118) (by decide) (by decide) ?_
  refine XS.iinc X5.here hx rfl (hb hby d15_141) rfl (l' := #[s0, .val (.ref o1), s2, .val (.int i3), .val (.int (i4 + (1 : Int32))), s5, .val (.long ((j6 * (10 : Int64)) + (((cs.getD ii 0) - (48 : Int32)).toInt64))), .second, .val (.int (i8 + (1 : Int32))), .val (.int (i9 + (1 : Int32))), .val (.int i10), .val (.int (cs.getD ii 0))]) rfl ?_
  refine XS.goto X5.here hx rfl (pc0 := 144) (pc' := 64) rfl (hb hby d15_144) (by decide) (by decide) ?_
  exact kt
theorem d15_121 : decode prog_8_method_2_code 121 = .ok (.iload 11, 2) := by decide +kernel
theorem d15_123 : decode prog_8_method_2_code 123 = .ok (.bipush 46, 2) := by decide +kernel
theorem d15_125 : decode prog_8_method_2_code 125 = .ok (.if_icmp .ne 14, 3) := by decide +kernel
theorem d15_128 : decode prog_8_method_2_code 128 = .ok (.iload 10, 2) := by decide +kernel
theorem d15_130 : decode prog_8_method_2_code 130 = .ok (.ifCond .ne 9, 3) := by decide +kernel
theorem d15_133 : decode prog_8_method_2_code 133 = .ok (.iconst 1, 1) := by decide +kernel
theorem d15_134 : decode prog_8_method_2_code 134 = .ok (.istore 10, 2) := by decide +kernel
theorem d15_136 : decode prog_8_method_2_code 136 = .ok (.goto 5, 3) := by decide +kernel
theorem os15_76_t3 {s0 : Slot} {z1 : Value} {s2 : Slot} {z3 : Value} {z4 : Value} {s5 : Slot} {s6 : Slot} {s7 : Slot} {s8 : Slot} {s9 : Slot} {z10 : Value} {s11 : Slot} {v : Int32} (h : One s11) : storeLocals #[s0, .val z1, s2, .val z3, .val z4, s5, s6, s7, s8, s9, .val z10, s11] 11 (.int v) = some #[s0, .val z1, s2, .val z3, .val z4, s5, s6, s7, s8, s9, .val z10, .val (.int v)] := by
  rcases h with rfl | ⟨w, rfl, hw⟩
  · rfl
  · cases w <;> first | rfl | (simp [Value.category] at hw)
set_option maxRecDepth 65536 in
set_option maxHeartbeats 40000000 in
theorem t3 {p : Program} {l : Launch} {e : Env} {s : State} {m : MethodId} {args : Array Value} {below : List Frame} {meth : Method} {c : Code} {T0 : State} {locs : List Loc} {cells slots : Nat} {Z : State} {a0 : Array Value} {h0 : Heap} (s0 : Slot) (o1 : Addr) (s2 : Slot) (i3 : Int32) (i4 : Int32) (s5 : Slot) (s6 : Slot) (s7 : Slot) (s8 : Slot) (s9 : Slot) (i10 : Int32) (s11 : Slot) (cs : List Int32) (ii : Nat) (n0 : Nat)
    (X0 : Stand p l e own_R15 s m args below meth c T0 locs cells slots) (hx : p.tables.exec = Jvm.exec) (hZ : Z.Warmed39 s.vm) (hw : ∀ d ∈ tables_1, d.before a0 Z = true) (hby : c.code = prog_8_method_2_code) (hml : c.maxLocals = 12) (hown : s.vm.findClass "com/example/bandmark/bandmark/PlainDecimal" = some m.cls) (e0 : T0.heap = h0) (TX : own_Tx Z h0 o1 cs) (hi : ii < cs.length) (hj : i4 = Int32.ofNat ii) (Z0 : n0 ≤ h0.size) (N0 : Fr n0 locs) (hcl : cells ≤ own_R15.cells) (hsl : slots ≤ own_R15.slots) (hs11 : One s11) (hc67 : i4 < i3) (hc130 : i10 = (0 : Int32)) (hk0 : (cs.getD ii 0) < (48 : Int32)) (hk1 : (cs.getD ii 0) = (46 : Int32)) :
    ∃ (T' : State) (locs' : List Loc), Stand p l e own_R15 s m args below meth c T' locs' cells slots ∧ Fr n0 locs' ∧ T'.heap = h0 ∧
      ∀ target, Steps p.tables e below (T'.setTop (mkF m 64 #[s0, .val (.ref o1), s2, .val (.int i3), .val (.int (i4 + (1 : Int32))), s5, s6, s7, s8, s9, .val (.int 1), .val (.int (cs.getD ii 0))] [])) target → Steps p.tables e below (T0.setTop (mkF m 64 #[s0, .val (.ref o1), s2, .val (.int i3), .val (.int i4), s5, s6, s7, s8, s9, .val (.int i10), s11] [])) target := by
  obtain ⟨cq5, kq5, q5a, q5b, q5c⟩ := isOf hZ e0 TX.exa
  obtain ⟨_, _, ⟨T5, L5, k5, n5⟩, -, X5, ⟨Lc5, hQ5, l5, y5, z5⟩, st5⟩ := X0.virtualBack hx (y := (⟨"java/lang/String", "charAt", "(I)C"⟩ : MethodName)) (z := (⟨"java/lang/String", "charAt", "(I)C"⟩ : MethodName)) hown (mvT hZ (own_W hw 69 rfl)) (mvT hZ (own_W hw 70 rfl)) (notFace_of_selects (args := #[]) (mvT hZ (own_W hw 72 rfl))) (mvT hZ (own_W hw 72 rfl)) (mvT hZ (own_W hw 71 rfl)) (by decide) (own_ch (W := 0) hZ hw TX (i := ii) (j := i4) hi hj n0 Z0 (by decide) (by decide)) q5a q5c (g := (mkF m 73 #[s0, .val (.ref o1), s2, .val (.int i3), .val (.int i4), s5, s6, s7, s8, s9, .val (.int i10), s11] [(.int i4), (.ref o1)])) rfl (by rw [hml]; rfl) (Steps.refl _) (argsL := [(.int i4)]) (rest := []) (lenOf pd_15_0 rfl) rfl (by show 2 * 0 + _ ≤ _; exact Nat.le_of_eq rfl) (hb hby d15_73) (fun _ _ => ⟨rfl, e0, hcl, hsl⟩)
  dsimp only [Pt.U, Pt.locs, Pt.cells, Pt.slots] at X5 l5 y5 z5 st5 hQ5
  subst l5 y5 z5
  obtain ⟨rfl, N5q, e5⟩ := hQ5
  have N5 := Fr.app N0 N5q
  refine ⟨T5, _, X5, N5, e5, fun target kt => ?_⟩
  refine XS.iload X0.here hx rfl (hb hby d15_64) rfl ?_
  refine XS.iloadN X0.here hx rfl (hb hby d15_66) rfl ?_
  refine XS.icmpNo X0.here hx rfl (hb hby d15_67) rfl (tlt hc67).2.1 ?_
  refine XS.aloadN X0.here hx rfl (hb hby d15_70) rfl rfl ?_
  refine XS.iload X0.here hx rfl (hb hby d15_71) rfl ?_
  refine st5.trans ?_
  refine XS.istore X5.here hx rfl (hb hby d15_76) rfl (l' := #[s0, .val (.ref o1), s2, .val (.int i3), .val (.int i4), s5, s6, s7, s8, s9, .val (.int i10), .val (.int (cs.getD ii 0))]) (os15_76_t3 hs11) ?_
  refine XS.iload X5.here hx rfl (hb hby d15_78) rfl ?_
  refine XS.bipush X5.here hx rfl (hb hby d15_80) ?_
  refine XS.icmpYes X5.here hx rfl (pc0 := 82) (pc' := 121) rfl (hb hby d15_82) rfl (tlt (hk0 : (cs.getD ii 0) < (48 : Int32))).1 (by decide) (by decide) ?_
  refine XS.iload X5.here hx rfl (hb hby d15_121) rfl ?_
  refine XS.bipush X5.here hx rfl (hb hby d15_123) ?_
  refine XS.icmpNo X5.here hx rfl (hb hby d15_125) rfl (teq (hk1 : (cs.getD ii 0) = (46 : Int32))).2 ?_
  refine XS.iload X5.here hx rfl (hb hby d15_128) rfl ?_
  refine XS.ifNo X5.here hx rfl (hb hby d15_130) rfl ((if0 _ _).trans (teq hc130).2) ?_
  refine XS.iconst X5.here hx rfl (hb hby d15_133) ?_
  refine XS.istore X5.here hx rfl (hb hby d15_134) rfl (l' := #[s0, .val (.ref o1), s2, .val (.int i3), .val (.int i4), s5, s6, s7, s8, s9, .val (.int 1), .val (.int (cs.getD ii 0))]) rfl ?_
  refine XS.goto X5.here hx rfl (pc0 := 136) (pc' := 141) rfl (hb hby d15_136) (by decide) (by decide) ?_
  refine XS.iinc X5.here hx rfl (hb hby d15_141) rfl (l' := #[s0, .val (.ref o1), s2, .val (.int i3), .val (.int (i4 + (1 : Int32))), s5, s6, s7, s8, s9, .val (.int 1), .val (.int (cs.getD ii 0))]) rfl ?_
  refine XS.goto X5.here hx rfl (pc0 := 144) (pc' := 64) rfl (hb hby d15_144) (by decide) (by decide) ?_
  exact kt
theorem os15_76_x1 {s0 : Slot} {z1 : Value} {s2 : Slot} {z3 : Value} {z4 : Value} {s5 : Slot} {s6 : Slot} {s7 : Slot} {s8 : Slot} {s9 : Slot} {s10 : Slot} {s11 : Slot} {v : Int32} (h : One s11) : storeLocals #[s0, .val z1, s2, .val z3, .val z4, s5, s6, s7, s8, s9, s10, s11] 11 (.int v) = some #[s0, .val z1, s2, .val z3, .val z4, s5, s6, s7, s8, s9, s10, .val (.int v)] := by
  rcases h with rfl | ⟨w, rfl, hw⟩
  · rfl
  · cases w <;> first | rfl | (simp [Value.category] at hw)
set_option maxRecDepth 65536 in
set_option maxHeartbeats 40000000 in
theorem x1 {p : Program} {l : Launch} {e : Env} {s : State} {m : MethodId} {args : Array Value} {below : List Frame} {meth : Method} {c : Code} {T0 : State} {locs : List Loc} {cells slots : Nat} {Z : State} {a0 : Array Value} {h0 : Heap} (s0 : Slot) (o1 : Addr) (s2 : Slot) (i3 : Int32) (i4 : Int32) (s5 : Slot) (s6 : Slot) (s7 : Slot) (s8 : Slot) (s9 : Slot) (s10 : Slot) (s11 : Slot) (cs : List Int32) (ii : Nat) (n0 : Nat)
    (X0 : Stand p l e own_R15 s m args below meth c T0 locs cells slots) (hx : p.tables.exec = Jvm.exec) (hZ : Z.Warmed39 s.vm) (hw : ∀ d ∈ tables_1, d.before a0 Z = true) (hby : c.code = prog_8_method_2_code) (hml : c.maxLocals = 12) (hown : s.vm.findClass "com/example/bandmark/bandmark/PlainDecimal" = some m.cls) (e0 : T0.heap = h0) (TX : own_Tx Z h0 o1 cs) (hi : ii < cs.length) (hj : i4 = Int32.ofNat ii) (Z0 : n0 ≤ h0.size) (N0 : Fr n0 locs) (hcl : cells ≤ own_R15.cells) (hsl : slots ≤ own_R15.slots) (hs11 : One s11) (hc67 : i4 < i3) (hk0 : (cs.getD ii 0) < (48 : Int32)) (hk1 : ¬ ((cs.getD ii 0) = (46 : Int32))) :
    ∃ (T' : State) (locs' : List Loc), Stand p l e own_R15 s m args below meth c T' locs' cells slots ∧ Fr n0 locs' ∧ T'.heap = h0 ∧
      ∀ target, Steps p.tables e below (T'.setTop (mkF m 139 #[s0, .val (.ref o1), s2, .val (.int i3), .val (.int i4), s5, s6, s7, s8, s9, s10, .val (.int (cs.getD ii 0))] [])) target → Steps p.tables e below (T0.setTop (mkF m 64 #[s0, .val (.ref o1), s2, .val (.int i3), .val (.int i4), s5, s6, s7, s8, s9, s10, s11] [])) target := by
  obtain ⟨cq5, kq5, q5a, q5b, q5c⟩ := isOf hZ e0 TX.exa
  obtain ⟨_, _, ⟨T5, L5, k5, n5⟩, -, X5, ⟨Lc5, hQ5, l5, y5, z5⟩, st5⟩ := X0.virtualBack hx (y := (⟨"java/lang/String", "charAt", "(I)C"⟩ : MethodName)) (z := (⟨"java/lang/String", "charAt", "(I)C"⟩ : MethodName)) hown (mvT hZ (own_W hw 69 rfl)) (mvT hZ (own_W hw 70 rfl)) (notFace_of_selects (args := #[]) (mvT hZ (own_W hw 72 rfl))) (mvT hZ (own_W hw 72 rfl)) (mvT hZ (own_W hw 71 rfl)) (by decide) (own_ch (W := 0) hZ hw TX (i := ii) (j := i4) hi hj n0 Z0 (by decide) (by decide)) q5a q5c (g := (mkF m 73 #[s0, .val (.ref o1), s2, .val (.int i3), .val (.int i4), s5, s6, s7, s8, s9, s10, s11] [(.int i4), (.ref o1)])) rfl (by rw [hml]; rfl) (Steps.refl _) (argsL := [(.int i4)]) (rest := []) (lenOf pd_15_0 rfl) rfl (by show 2 * 0 + _ ≤ _; exact Nat.le_of_eq rfl) (hb hby d15_73) (fun _ _ => ⟨rfl, e0, hcl, hsl⟩)
  dsimp only [Pt.U, Pt.locs, Pt.cells, Pt.slots] at X5 l5 y5 z5 st5 hQ5
  subst l5 y5 z5
  obtain ⟨rfl, N5q, e5⟩ := hQ5
  have N5 := Fr.app N0 N5q
  refine ⟨T5, _, X5, N5, e5, fun target kt => ?_⟩
  refine XS.iload X0.here hx rfl (hb hby d15_64) rfl ?_
  refine XS.iloadN X0.here hx rfl (hb hby d15_66) rfl ?_
  refine XS.icmpNo X0.here hx rfl (hb hby d15_67) rfl (tlt hc67).2.1 ?_
  refine XS.aloadN X0.here hx rfl (hb hby d15_70) rfl rfl ?_
  refine XS.iload X0.here hx rfl (hb hby d15_71) rfl ?_
  refine st5.trans ?_
  refine XS.istore X5.here hx rfl (hb hby d15_76) rfl (l' := #[s0, .val (.ref o1), s2, .val (.int i3), .val (.int i4), s5, s6, s7, s8, s9, s10, .val (.int (cs.getD ii 0))]) (os15_76_x1 hs11) ?_
  refine XS.iload X5.here hx rfl (hb hby d15_78) rfl ?_
  refine XS.bipush X5.here hx rfl (hb hby d15_80) ?_
  refine XS.icmpYes X5.here hx rfl (pc0 := 82) (pc' := 121) rfl (hb hby d15_82) rfl (tlt (hk0 : (cs.getD ii 0) < (48 : Int32))).1 (by decide) (by decide) ?_
  refine XS.iload X5.here hx rfl (hb hby d15_121) rfl ?_
  refine XS.bipush X5.here hx rfl (hb hby d15_123) ?_
  refine XS.icmpYes X5.here hx rfl (pc0 := 125) (pc' := 139) rfl (hb hby d15_125) rfl (feq (hk1 : ¬ ((cs.getD ii 0) = (46 : Int32)))).2 (by decide) (by decide) ?_
  exact kt
theorem os15_76_x2 {s0 : Slot} {z1 : Value} {s2 : Slot} {z3 : Value} {z4 : Value} {s5 : Slot} {s6 : Slot} {s7 : Slot} {s8 : Slot} {s9 : Slot} {s10 : Slot} {s11 : Slot} {v : Int32} (h : One s11) : storeLocals #[s0, .val z1, s2, .val z3, .val z4, s5, s6, s7, s8, s9, s10, s11] 11 (.int v) = some #[s0, .val z1, s2, .val z3, .val z4, s5, s6, s7, s8, s9, s10, .val (.int v)] := by
  rcases h with rfl | ⟨w, rfl, hw⟩
  · rfl
  · cases w <;> first | rfl | (simp [Value.category] at hw)
set_option maxRecDepth 65536 in
set_option maxHeartbeats 40000000 in
theorem x2 {p : Program} {l : Launch} {e : Env} {s : State} {m : MethodId} {args : Array Value} {below : List Frame} {meth : Method} {c : Code} {T0 : State} {locs : List Loc} {cells slots : Nat} {Z : State} {a0 : Array Value} {h0 : Heap} (s0 : Slot) (o1 : Addr) (s2 : Slot) (i3 : Int32) (i4 : Int32) (s5 : Slot) (s6 : Slot) (s7 : Slot) (s8 : Slot) (s9 : Slot) (s10 : Slot) (s11 : Slot) (cs : List Int32) (ii : Nat) (n0 : Nat)
    (X0 : Stand p l e own_R15 s m args below meth c T0 locs cells slots) (hx : p.tables.exec = Jvm.exec) (hZ : Z.Warmed39 s.vm) (hw : ∀ d ∈ tables_1, d.before a0 Z = true) (hby : c.code = prog_8_method_2_code) (hml : c.maxLocals = 12) (hown : s.vm.findClass "com/example/bandmark/bandmark/PlainDecimal" = some m.cls) (e0 : T0.heap = h0) (TX : own_Tx Z h0 o1 cs) (hi : ii < cs.length) (hj : i4 = Int32.ofNat ii) (Z0 : n0 ≤ h0.size) (N0 : Fr n0 locs) (hcl : cells ≤ own_R15.cells) (hsl : slots ≤ own_R15.slots) (hs11 : One s11) (hc67 : i4 < i3) (hk0 : ¬ ((cs.getD ii 0) < (48 : Int32))) (hk1 : (57 : Int32) < (cs.getD ii 0)) (hk2 : ¬ ((cs.getD ii 0) = (46 : Int32))) :
    ∃ (T' : State) (locs' : List Loc), Stand p l e own_R15 s m args below meth c T' locs' cells slots ∧ Fr n0 locs' ∧ T'.heap = h0 ∧
      ∀ target, Steps p.tables e below (T'.setTop (mkF m 139 #[s0, .val (.ref o1), s2, .val (.int i3), .val (.int i4), s5, s6, s7, s8, s9, s10, .val (.int (cs.getD ii 0))] [])) target → Steps p.tables e below (T0.setTop (mkF m 64 #[s0, .val (.ref o1), s2, .val (.int i3), .val (.int i4), s5, s6, s7, s8, s9, s10, s11] [])) target := by
  obtain ⟨cq5, kq5, q5a, q5b, q5c⟩ := isOf hZ e0 TX.exa
  obtain ⟨_, _, ⟨T5, L5, k5, n5⟩, -, X5, ⟨Lc5, hQ5, l5, y5, z5⟩, st5⟩ := X0.virtualBack hx (y := (⟨"java/lang/String", "charAt", "(I)C"⟩ : MethodName)) (z := (⟨"java/lang/String", "charAt", "(I)C"⟩ : MethodName)) hown (mvT hZ (own_W hw 69 rfl)) (mvT hZ (own_W hw 70 rfl)) (notFace_of_selects (args := #[]) (mvT hZ (own_W hw 72 rfl))) (mvT hZ (own_W hw 72 rfl)) (mvT hZ (own_W hw 71 rfl)) (by decide) (own_ch (W := 0) hZ hw TX (i := ii) (j := i4) hi hj n0 Z0 (by decide) (by decide)) q5a q5c (g := (mkF m 73 #[s0, .val (.ref o1), s2, .val (.int i3), .val (.int i4), s5, s6, s7, s8, s9, s10, s11] [(.int i4), (.ref o1)])) rfl (by rw [hml]; rfl) (Steps.refl _) (argsL := [(.int i4)]) (rest := []) (lenOf pd_15_0 rfl) rfl (by show 2 * 0 + _ ≤ _; exact Nat.le_of_eq rfl) (hb hby d15_73) (fun _ _ => ⟨rfl, e0, hcl, hsl⟩)
  dsimp only [Pt.U, Pt.locs, Pt.cells, Pt.slots] at X5 l5 y5 z5 st5 hQ5
  subst l5 y5 z5
  obtain ⟨rfl, N5q, e5⟩ := hQ5
  have N5 := Fr.app N0 N5q
  refine ⟨T5, _, X5, N5, e5, fun target kt => ?_⟩
  refine XS.iload X0.here hx rfl (hb hby d15_64) rfl ?_
  refine XS.iloadN X0.here hx rfl (hb hby d15_66) rfl ?_
  refine XS.icmpNo X0.here hx rfl (hb hby d15_67) rfl (tlt hc67).2.1 ?_
  refine XS.aloadN X0.here hx rfl (hb hby d15_70) rfl rfl ?_
  refine XS.iload X0.here hx rfl (hb hby d15_71) rfl ?_
  refine st5.trans ?_
  refine XS.istore X5.here hx rfl (hb hby d15_76) rfl (l' := #[s0, .val (.ref o1), s2, .val (.int i3), .val (.int i4), s5, s6, s7, s8, s9, s10, .val (.int (cs.getD ii 0))]) (os15_76_x2 hs11) ?_
  refine XS.iload X5.here hx rfl (hb hby d15_78) rfl ?_
  refine XS.bipush X5.here hx rfl (hb hby d15_80) ?_
  refine XS.icmpNo X5.here hx rfl (hb hby d15_82) rfl (flt (hk0 : ¬ ((cs.getD ii 0) < (48 : Int32)))).1 ?_
  refine XS.iload X5.here hx rfl (hb hby d15_85) rfl ?_
  refine XS.bipush X5.here hx rfl (hb hby d15_87) ?_
  refine XS.icmpYes X5.here hx rfl (pc0 := 89) (pc' := 121) rfl (hb hby d15_89) rfl (tlt (hk1 : (57 : Int32) < (cs.getD ii 0))).2.2.1 (by decide) (by decide) ?_
  refine XS.iload X5.here hx rfl (hb hby d15_121) rfl ?_
  refine XS.bipush X5.here hx rfl (hb hby d15_123) ?_
  refine XS.icmpYes X5.here hx rfl (pc0 := 125) (pc' := 139) rfl (hb hby d15_125) rfl (feq (hk2 : ¬ ((cs.getD ii 0) = (46 : Int32)))).2 (by decide) (by decide) ?_
  exact kt
theorem os15_76_x3 {s0 : Slot} {z1 : Value} {s2 : Slot} {z3 : Value} {z4 : Value} {s5 : Slot} {s6 : Slot} {s7 : Slot} {s8 : Slot} {s9 : Slot} {z10 : Value} {s11 : Slot} {v : Int32} (h : One s11) : storeLocals #[s0, .val z1, s2, .val z3, .val z4, s5, s6, s7, s8, s9, .val z10, s11] 11 (.int v) = some #[s0, .val z1, s2, .val z3, .val z4, s5, s6, s7, s8, s9, .val z10, .val (.int v)] := by
  rcases h with rfl | ⟨w, rfl, hw⟩
  · rfl
  · cases w <;> first | rfl | (simp [Value.category] at hw)
set_option maxRecDepth 65536 in
set_option maxHeartbeats 40000000 in
theorem x3 {p : Program} {l : Launch} {e : Env} {s : State} {m : MethodId} {args : Array Value} {below : List Frame} {meth : Method} {c : Code} {T0 : State} {locs : List Loc} {cells slots : Nat} {Z : State} {a0 : Array Value} {h0 : Heap} (s0 : Slot) (o1 : Addr) (s2 : Slot) (i3 : Int32) (i4 : Int32) (s5 : Slot) (s6 : Slot) (s7 : Slot) (s8 : Slot) (s9 : Slot) (i10 : Int32) (s11 : Slot) (cs : List Int32) (ii : Nat) (n0 : Nat)
    (X0 : Stand p l e own_R15 s m args below meth c T0 locs cells slots) (hx : p.tables.exec = Jvm.exec) (hZ : Z.Warmed39 s.vm) (hw : ∀ d ∈ tables_1, d.before a0 Z = true) (hby : c.code = prog_8_method_2_code) (hml : c.maxLocals = 12) (hown : s.vm.findClass "com/example/bandmark/bandmark/PlainDecimal" = some m.cls) (e0 : T0.heap = h0) (TX : own_Tx Z h0 o1 cs) (hi : ii < cs.length) (hj : i4 = Int32.ofNat ii) (Z0 : n0 ≤ h0.size) (N0 : Fr n0 locs) (hcl : cells ≤ own_R15.cells) (hsl : slots ≤ own_R15.slots) (hs11 : One s11) (hc67 : i4 < i3) (hc130 : ¬ (i10 = (0 : Int32))) (hk0 : (cs.getD ii 0) < (48 : Int32)) (hk1 : (cs.getD ii 0) = (46 : Int32)) :
    ∃ (T' : State) (locs' : List Loc), Stand p l e own_R15 s m args below meth c T' locs' cells slots ∧ Fr n0 locs' ∧ T'.heap = h0 ∧
      ∀ target, Steps p.tables e below (T'.setTop (mkF m 139 #[s0, .val (.ref o1), s2, .val (.int i3), .val (.int i4), s5, s6, s7, s8, s9, .val (.int i10), .val (.int (cs.getD ii 0))] [])) target → Steps p.tables e below (T0.setTop (mkF m 64 #[s0, .val (.ref o1), s2, .val (.int i3), .val (.int i4), s5, s6, s7, s8, s9, .val (.int i10), s11] [])) target := by
  obtain ⟨cq5, kq5, q5a, q5b, q5c⟩ := isOf hZ e0 TX.exa
  obtain ⟨_, _, ⟨T5, L5, k5, n5⟩, -, X5, ⟨Lc5, hQ5, l5, y5, z5⟩, st5⟩ := X0.virtualBack hx (y := (⟨"java/lang/String", "charAt", "(I)C"⟩ : MethodName)) (z := (⟨"java/lang/String", "charAt", "(I)C"⟩ : MethodName)) hown (mvT hZ (own_W hw 69 rfl)) (mvT hZ (own_W hw 70 rfl)) (notFace_of_selects (args := #[]) (mvT hZ (own_W hw 72 rfl))) (mvT hZ (own_W hw 72 rfl)) (mvT hZ (own_W hw 71 rfl)) (by decide) (own_ch (W := 0) hZ hw TX (i := ii) (j := i4) hi hj n0 Z0 (by decide) (by decide)) q5a q5c (g := (mkF m 73 #[s0, .val (.ref o1), s2, .val (.int i3), .val (.int i4), s5, s6, s7, s8, s9, .val (.int i10), s11] [(.int i4), (.ref o1)])) rfl (by rw [hml]; rfl) (Steps.refl _) (argsL := [(.int i4)]) (rest := []) (lenOf pd_15_0 rfl) rfl (by show 2 * 0 + _ ≤ _; exact Nat.le_of_eq rfl) (hb hby d15_73) (fun _ _ => ⟨rfl, e0, hcl, hsl⟩)
  dsimp only [Pt.U, Pt.locs, Pt.cells, Pt.slots] at X5 l5 y5 z5 st5 hQ5
  subst l5 y5 z5
  obtain ⟨rfl, N5q, e5⟩ := hQ5
  have N5 := Fr.app N0 N5q
  refine ⟨T5, _, X5, N5, e5, fun target kt => ?_⟩
  refine XS.iload X0.here hx rfl (hb hby d15_64) rfl ?_
  refine XS.iloadN X0.here hx rfl (hb hby d15_66) rfl ?_
  refine XS.icmpNo X0.here hx rfl (hb hby d15_67) rfl (tlt hc67).2.1 ?_
  refine XS.aloadN X0.here hx rfl (hb hby d15_70) rfl rfl ?_
  refine XS.iload X0.here hx rfl (hb hby d15_71) rfl ?_
  refine st5.trans ?_
  refine XS.istore X5.here hx rfl (hb hby d15_76) rfl (l' := #[s0, .val (.ref o1), s2, .val (.int i3), .val (.int i4), s5, s6, s7, s8, s9, .val (.int i10), .val (.int (cs.getD ii 0))]) (os15_76_x3 hs11) ?_
  refine XS.iload X5.here hx rfl (hb hby d15_78) rfl ?_
  refine XS.bipush X5.here hx rfl (hb hby d15_80) ?_
  refine XS.icmpYes X5.here hx rfl (pc0 := 82) (pc' := 121) rfl (hb hby d15_82) rfl (tlt (hk0 : (cs.getD ii 0) < (48 : Int32))).1 (by decide) (by decide) ?_
  refine XS.iload X5.here hx rfl (hb hby d15_121) rfl ?_
  refine XS.bipush X5.here hx rfl (hb hby d15_123) ?_
  refine XS.icmpNo X5.here hx rfl (hb hby d15_125) rfl (teq (hk1 : (cs.getD ii 0) = (46 : Int32))).2 ?_
  refine XS.iload X5.here hx rfl (hb hby d15_128) rfl ?_
  refine XS.ifYes X5.here hx rfl (pc0 := 130) (pc' := 139) rfl (hb hby d15_130) rfl ((if0 _ _).trans (feq hc130).2) (by decide) (by decide) ?_
  exact kt
set_option maxRecDepth 65536 in
set_option maxHeartbeats 40000000 in
theorem z0 {p : Program} {l : Launch} {e : Env} {s : State} {m : MethodId} {args : Array Value} {below : List Frame} {meth : Method} {c : Code} {T0 : State} {locs : List Loc} {cells slots : Nat} {Z : State} {a0 : Array Value} {h0 : Heap} (s0 : Slot) (s1 : Slot) (s2 : Slot) (i3 : Int32) (i4 : Int32) (s5 : Slot) (s6 : Slot) (s7 : Slot) (s8 : Slot) (s9 : Slot) (s10 : Slot) (s11 : Slot)
    (X0 : Stand p l e own_R15 s m args below meth c T0 locs cells slots) (hx : p.tables.exec = Jvm.exec) (hZ : Z.Warmed39 s.vm) (hw : ∀ d ∈ tables_1, d.before a0 Z = true) (hby : c.code = prog_8_method_2_code) (hml : c.maxLocals = 12) (hown : s.vm.findClass "com/example/bandmark/bandmark/PlainDecimal" = some m.cls) (e0 : T0.heap = h0) (hc67 : ¬ (i4 < i3)) :
    ∃ (T' : State), Stand p l e own_R15 s m args below meth c T' locs cells slots ∧ T'.heap = h0 ∧
      ∀ target, Steps p.tables e below (T'.setTop (mkF m 147 #[s0, s1, s2, .val (.int i3), .val (.int i4), s5, s6, s7, s8, s9, s10, s11] [])) target → Steps p.tables e below (T0.setTop (mkF m 64 #[s0, s1, s2, .val (.int i3), .val (.int i4), s5, s6, s7, s8, s9, s10, s11] [])) target := by
  refine ⟨T0, X0, e0, fun target kt => ?_⟩
  refine XS.iload X0.here hx rfl (hb hby d15_64) rfl ?_
  refine XS.iloadN X0.here hx rfl (hb hby d15_66) rfl ?_
  refine XS.icmpYes X0.here hx rfl (pc0 := 67) (pc' := 147) rfl (hb hby d15_67) rfl (flt hc67).2.1 (by decide) (by decide) ?_
  exact kt
theorem own_loop {p : Program} {l : Launch} {e : Env} {s : State} {m : MethodId} {args : Array Value} {below : List Frame} {meth : Method} {c : Code} {cells slots : Nat} {Z : State} {a0 : Array Value} {h0 : Heap} (s0 : Slot) (o1 : Addr) (s2 s5 : Slot) (cs : List Int32) (b n0 : Nat) (hb : b ≤ cs.length) (h22 : cs.length ≤ 22) (hx : p.tables.exec = Jvm.exec) (hZ : Z.Warmed39 s.vm) (hw : ∀ d ∈ tables_1, d.before a0 Z = true) (hby : c.code = prog_8_method_2_code) (hml : c.maxLocals = 12) (hown : s.vm.findClass "com/example/bandmark/bandmark/PlainDecimal" = some m.cls) (TX : own_Tx Z h0 o1 cs) (Z0 : n0 ≤ h0.size) (hcl : cells ≤ own_R15.cells) (hsl : slots ≤ own_R15.slots) :
    ∀ (k i c8 : Nat) (pt : Bool) (u q : Nat) (s11 : Slot) (T0 : State) (locs : List Loc), i + k = b → c8 ≤ i → q ≤ i → One s11 → Stand p l e own_R15 s m args below meth c T0 locs cells slots → T0.heap = h0 → Fr n0 locs →
      ∃ (T' : State) (locs' : List Loc), Stand p l e own_R15 s m args below meth c T' locs' cells slots ∧ Fr n0 locs' ∧ T'.heap = h0 ∧
        ((own_scan (fun j => cs.getD j 0) k i c8 pt u q = none ∧ ∃ La : Array Slot, ∀ target, Steps p.tables e below (T'.setTop (mkF m 139 La [])) target → Steps p.tables e below (T0.setTop (mkF m 64 #[s0, .val (.ref o1), s2, .val (.int (Int32.ofNat b)), .val (.int (Int32.ofNat i)), s5, .val (.long (Int64.ofNat u)), .second, .val (.int (Int32.ofNat c8)), .val (.int (Int32.ofNat q)), .val (.int (own_b pt)), s11] [])) target) ∨
         (∃ (r uu qq : Nat) (sa : Slot) (sb sc : Slot), own_scan (fun j => cs.getD j 0) k i c8 pt u q = some (r, uu, qq) ∧ r ≤ b ∧ ∀ target, Steps p.tables e below (T'.setTop (mkF m 147 #[s0, .val (.ref o1), s2, .val (.int (Int32.ofNat b)), sa, s5, .val (.long (Int64.ofNat uu)), .second, .val (.int (Int32.ofNat r)), .val (.int (Int32.ofNat qq)), sb, sc] [])) target → Steps p.tables e below (T0.setTop (mkF m 64 #[s0, .val (.ref o1), s2, .val (.int (Int32.ofNat b)), .val (.int (Int32.ofNat i)), s5, .val (.long (Int64.ofNat u)), .second, .val (.int (Int32.ofNat c8)), .val (.int (Int32.ofNat q)), .val (.int (own_b pt)), s11] [])) target)) := by
  intro k
  induction k with
  | zero =>
    intro i c8 pt u q s11 T0 locs hik hci hqi h11 X0 e0 N0
    obtain ⟨T1, X1, e1, st1⟩ := z0 s0 (.val (.ref o1)) s2 (Int32.ofNat b) (Int32.ofNat i) s5 (.val (.long (Int64.ofNat u))) .second (.val (.int (Int32.ofNat c8))) (.val (.int (Int32.ofNat q))) (.val (.int (own_b pt))) s11 X0 hx hZ hw hby hml hown e0 (fun q => by have := (own_lt i b (by omega) (by omega)).mp q; omega)
    exact ⟨T1, locs, X1, N0, e1, Or.inr ⟨c8, u, q, _, _, s11, rfl, by omega, st1⟩⟩
  | succ k ih =>
    intro i c8 pt u q s11 T0 locs hik hci hqi h11 X0 e0 N0
    have hlt : Int32.ofNat i < Int32.ofNat b := (own_lt i b (by omega) (by omega)).mpr (by omega)
    by_cases hd : ¬ cs.getD i 0 < 48 ∧ ¬ 57 < cs.getD i 0
    · cases pt with
      | false =>
        have es : own_scan (fun j => cs.getD j 0) (k + 1) i c8 false u q = own_scan (fun j => cs.getD j 0) k (i + 1) (c8 + 1) false (u * 10 + own_dn (cs.getD i 0)) q := (own_scan_s _ _ _ _ _ _ _).trans (if_pos hd)
        obtain ⟨T1, L1, X1, N1, e1, st1⟩ := t1 s0 o1 s2 (Int32.ofNat b) (Int32.ofNat i) s5 (Int64.ofNat u) (Int32.ofNat c8) (.val (.int (Int32.ofNat q))) (0 : Int32) s11 cs i n0 X0 hx hZ hw hby hml hown e0 TX (by omega) rfl Z0 N0 hcl hsl h11 hlt rfl hd.1 hd.2
        rw [own_succ i (by omega), own_succ c8 (by omega), own_horner u _ hd.1 hd.2] at st1
        obtain ⟨T2, L2, X2, N2, e2, h2⟩ := ih (i + 1) (c8 + 1) false (u * 10 + own_dn (cs.getD i 0)) q (.val (.int (cs.getD i 0))) T1 L1 (by omega) (by omega) (by omega) (One.val rfl) X1 e1 N1
        rcases h2 with ⟨hn, La, st2⟩ | ⟨r, uu, qq, sa, sb, sc, hn, hr, st2⟩
        · exact ⟨T2, L2, X2, N2, e2, Or.inl ⟨es.trans hn, La, fun t q => st1 _ (st2 _ q)⟩⟩
        · exact ⟨T2, L2, X2, N2, e2, Or.inr ⟨r, uu, qq, sa, sb, sc, es.trans hn, hr, fun t q => st1 _ (st2 _ q)⟩⟩
      | true =>
        have es : own_scan (fun j => cs.getD j 0) (k + 1) i c8 true u q = own_scan (fun j => cs.getD j 0) k (i + 1) (c8 + 1) true (u * 10 + own_dn (cs.getD i 0)) (q + 1) := (own_scan_s _ _ _ _ _ _ _).trans (if_pos hd)
        obtain ⟨T1, L1, X1, N1, e1, st1⟩ := t2 s0 o1 s2 (Int32.ofNat b) (Int32.ofNat i) s5 (Int64.ofNat u) (Int32.ofNat c8) (Int32.ofNat q) (1 : Int32) s11 cs i n0 X0 hx hZ hw hby hml hown e0 TX (by omega) rfl Z0 N0 hcl hsl h11 hlt (by decide) hd.1 hd.2
        rw [own_succ i (by omega), own_succ c8 (by omega), own_succ q (by omega), own_horner u _ hd.1 hd.2] at st1
        obtain ⟨T2, L2, X2, N2, e2, h2⟩ := ih (i + 1) (c8 + 1) true (u * 10 + own_dn (cs.getD i 0)) (q + 1) (.val (.int (cs.getD i 0))) T1 L1 (by omega) (by omega) (by omega) (One.val rfl) X1 e1 N1
        rcases h2 with ⟨hn, La, st2⟩ | ⟨r, uu, qq, sa, sb, sc, hn, hr, st2⟩
        · exact ⟨T2, L2, X2, N2, e2, Or.inl ⟨es.trans hn, La, fun t q => st1 _ (st2 _ q)⟩⟩
        · exact ⟨T2, L2, X2, N2, e2, Or.inr ⟨r, uu, qq, sa, sb, sc, es.trans hn, hr, fun t q => st1 _ (st2 _ q)⟩⟩
    · by_cases h46 : cs.getD i 0 = 46
      · have h48 : cs.getD i 0 < 48 := by rw [h46]; decide
        cases pt with
        | false =>
          have es : own_scan (fun j => cs.getD j 0) (k + 1) i c8 false u q = own_scan (fun j => cs.getD j 0) k (i + 1) c8 true u q := (own_scan_s _ _ _ _ _ _ _).trans ((if_neg hd).trans (if_pos ⟨h46, rfl⟩))
          obtain ⟨T1, L1, X1, N1, e1, st1⟩ := t3 s0 o1 s2 (Int32.ofNat b) (Int32.ofNat i) s5 (.val (.long (Int64.ofNat u))) .second (.val (.int (Int32.ofNat c8))) (.val (.int (Int32.ofNat q))) (0 : Int32) s11 cs i n0 X0 hx hZ hw hby hml hown e0 TX (by omega) rfl Z0 N0 hcl hsl h11 hlt rfl h48 h46
          rw [own_succ i (by omega)] at st1
          obtain ⟨T2, L2, X2, N2, e2, h2⟩ := ih (i + 1) c8 true u q (.val (.int (cs.getD i 0))) T1 L1 (by omega) (by omega) (by omega) (One.val rfl) X1 e1 N1
          rcases h2 with ⟨hn, La, st2⟩ | ⟨r, uu, qq, sa, sb, sc, hn, hr, st2⟩
          · exact ⟨T2, L2, X2, N2, e2, Or.inl ⟨es.trans hn, La, fun t q => st1 _ (st2 _ q)⟩⟩
          · exact ⟨T2, L2, X2, N2, e2, Or.inr ⟨r, uu, qq, sa, sb, sc, es.trans hn, hr, fun t q => st1 _ (st2 _ q)⟩⟩
        | true =>
          have es : own_scan (fun j => cs.getD j 0) (k + 1) i c8 true u q = none := (own_scan_s _ _ _ _ _ _ _).trans ((if_neg hd).trans (if_neg (fun q => by cases q.2)))
          obtain ⟨T1, L1, X1, N1, e1, st1⟩ := x3 s0 o1 s2 (Int32.ofNat b) (Int32.ofNat i) s5 (.val (.long (Int64.ofNat u))) .second (.val (.int (Int32.ofNat c8))) (.val (.int (Int32.ofNat q))) (1 : Int32) s11 cs i n0 X0 hx hZ hw hby hml hown e0 TX (by omega) rfl Z0 N0 hcl hsl h11 hlt (by decide) h48 h46
          exact ⟨T1, L1, X1, N1, e1, Or.inl ⟨es, _, st1⟩⟩
      · have es : own_scan (fun j => cs.getD j 0) (k + 1) i c8 pt u q = none := (own_scan_s _ _ _ _ _ _ _).trans ((if_neg hd).trans (if_neg (fun q => h46 q.1)))
        by_cases h48 : cs.getD i 0 < 48
        · obtain ⟨T1, L1, X1, N1, e1, st1⟩ := x1 s0 o1 s2 (Int32.ofNat b) (Int32.ofNat i) s5 (.val (.long (Int64.ofNat u))) .second (.val (.int (Int32.ofNat c8))) (.val (.int (Int32.ofNat q))) (.val (.int (own_b pt))) s11 cs i n0 X0 hx hZ hw hby hml hown e0 TX (by omega) rfl Z0 N0 hcl hsl h11 hlt h48 h46
          exact ⟨T1, L1, X1, N1, e1, Or.inl ⟨es, _, st1⟩⟩
        · have h57 : 57 < cs.getD i 0 := Classical.byContradiction fun q => hd ⟨h48, q⟩
          obtain ⟨T1, L1, X1, N1, e1, st1⟩ := x2 s0 o1 s2 (Int32.ofNat b) (Int32.ofNat i) s5 (.val (.long (Int64.ofNat u))) .second (.val (.int (Int32.ofNat c8))) (.val (.int (Int32.ofNat q))) (.val (.int (own_b pt))) s11 cs i n0 X0 hx hZ hw hby hml hown e0 TX (by omega) rfl Z0 N0 hcl hsl h11 hlt h48 h57 h46
          exact ⟨T1, L1, X1, N1, e1, Or.inl ⟨es, _, st1⟩⟩
theorem own_begin {p : Program} {l : Launch} {e : Env} {s : State} {m : MethodId} {args : Array Value} {below : List Frame} {meth : Method} {c : Code} {cells slots : Nat} {Z : State} {a0 : Array Value} {h0 : Heap} {T0 : State} {locs : List Loc} (s0 : Slot) (o1 : Addr) (cs : List Int32) (a b n0 : Nat) (hab : a ≤ b) (hb : b ≤ cs.length) (h22 : cs.length ≤ 22) (hx : p.tables.exec = Jvm.exec) (hZ : Z.Warmed39 s.vm) (hw : ∀ d ∈ tables_1, d.before a0 Z = true) (hby : c.code = prog_8_method_2_code) (hml : c.maxLocals = 12) (hown : s.vm.findClass "com/example/bandmark/bandmark/PlainDecimal" = some m.cls) (TX : own_Tx Z h0 o1 cs) (Z0 : n0 ≤ h0.size) (hcl : cells ≤ own_R15.cells) (hsl : slots ≤ own_R15.slots) (X0 : Stand p l e own_R15 s m args below meth c T0 locs cells slots) (e0 : T0.heap = h0) (N0 : Fr n0 locs) :
    ∃ (T' : State) (locs' : List Loc), Stand p l e own_R15 s m args below meth c T' locs' cells slots ∧ Fr n0 locs' ∧ T'.heap = h0 ∧ ∀ target, Steps p.tables e below (T'.setTop (mkF m 64 #[s0, .val (.ref o1), .val (.int (Int32.ofNat a)), .val (.int (Int32.ofNat b)), .val (.int (Int32.ofNat (own_start (fun j => cs.getD j 0) a b))), .val (.int (own_b (own_neg (fun j => cs.getD j 0) a b))), .val (.long (0 : Int64)), .second, .val (.int 0), .val (.int 0), .val (.int 0), .unset] [])) target → Steps p.tables e below (T0.setTop (mkF m 0 #[s0, .val (.ref o1), .val (.int (Int32.ofNat a)), .val (.int (Int32.ofNat b)), .unset, .unset, .unset, .unset, .unset, .unset, .unset, .unset] [])) target := by
  by_cases hlt : a < b
  · have hl : Int32.ofNat a < Int32.ofNat b := (own_lt a b (by omega) (by omega)).mpr hlt
    by_cases h45 : cs.getD a 0 = 45
    · have q : own_start (fun j => cs.getD j 0) a b = a + 1 := if_pos ⟨hlt, Or.inl h45⟩
      have q2 : own_neg (fun j => cs.getD j 0) a b = true := decide_eq_true ⟨hlt, h45⟩
      rw [q, q2, ← own_succ a (by omega)]
      obtain ⟨T1, L1, X1, N1, e1, st1⟩ := b1 s0 o1 (Int32.ofNat a) (Int32.ofNat b) .unset .unset .unset .unset .unset .unset cs a n0 X0 hx hZ hw hby hml hown e0 TX (by omega) rfl Z0 N0 hcl hsl One.u One.u One.u One.u One.u hl (by decide) h45
      exact ⟨T1, L1, X1, N1, e1, st1⟩
    · have q2 : own_neg (fun j => cs.getD j 0) a b = false := decide_eq_false (fun z => h45 z.2)
      by_cases h43 : cs.getD a 0 = 43
      · have q : own_start (fun j => cs.getD j 0) a b = a + 1 := if_pos ⟨hlt, Or.inr h43⟩
        rw [q, q2, ← own_succ a (by omega)]
        obtain ⟨T1, L1, X1, N1, e1, st1⟩ := b2 s0 o1 (Int32.ofNat a) (Int32.ofNat b) .unset .unset .unset .unset .unset .unset cs a n0 X0 hx hZ hw hby hml hown e0 TX (by omega) rfl Z0 N0 hcl hsl One.u One.u One.u One.u One.u hl hl h45 h43
        exact ⟨T1, L1, X1, N1, e1, st1⟩
      · have q : own_start (fun j => cs.getD j 0) a b = a := if_neg (fun z => z.2.elim h45 h43)
        rw [q, q2]
        obtain ⟨T1, L1, X1, N1, e1, st1⟩ := b3 s0 o1 (Int32.ofNat a) (Int32.ofNat b) .unset .unset .unset .unset .unset .unset cs a n0 X0 hx hZ hw hby hml hown e0 TX (by omega) rfl Z0 N0 hcl hsl One.u One.u One.u One.u One.u hl hl h45 h43
        exact ⟨T1, L1, X1, N1, e1, st1⟩
  · have hl : ¬ Int32.ofNat a < Int32.ofNat b := fun q => hlt ((own_lt a b (by omega) (by omega)).mp q)
    have q : own_start (fun j => cs.getD j 0) a b = a := if_neg (fun z => hlt z.1)
    have q2 : own_neg (fun j => cs.getD j 0) a b = false := decide_eq_false (fun z => hlt z.1)
    rw [q, q2]
    obtain ⟨T1, X1, e1, st1⟩ := b0 s0 (.val (.ref o1)) (Int32.ofNat a) (Int32.ofNat b) .unset .unset .unset .unset .unset .unset X0 hx hZ hw hby hml hown e0 One.u One.u One.u One.u One.u hl hl
    exact ⟨T1, locs, X1, N0, e1, st1⟩
def own_PD (Z : State) (h : Heap) (a : Addr) (u : Int64) (q d : Int32) : Prop := Exa Z h a "com/example/bandmark/bandmark/PlainDecimal" ∧ (∃ v, Fld Z h a "com/example/bandmark/bandmark/PlainDecimal" "text" "Ljava/lang/String;" v) ∧ (∃ v, Fld Z h a "com/example/bandmark/bandmark/PlainDecimal" "from" "I" v) ∧ (∃ v, Fld Z h a "com/example/bandmark/bandmark/PlainDecimal" "to" "I" v) ∧ Fld Z h a "com/example/bandmark/bandmark/PlainDecimal" "unscaled" "J" (.long u) ∧ Fld Z h a "com/example/bandmark/bandmark/PlainDecimal" "scale" "I" (.int q) ∧ Fld Z h a "com/example/bandmark/bandmark/PlainDecimal" "digits" "I" (.int d)
theorem d15_154 : decode prog_8_method_2_code 154 = .ok (.aload_n 0, 1) := by decide +kernel
theorem d15_155 : decode prog_8_method_2_code 155 = .ok (.aload_n 1, 1) := by decide +kernel
theorem d15_156 : decode prog_8_method_2_code 156 = .ok (.putfield 15, 3) := by decide +kernel
theorem d15_159 : decode prog_8_method_2_code 159 = .ok (.aload_n 0, 1) := by decide +kernel
theorem d15_160 : decode prog_8_method_2_code 160 = .ok (.iload_n 2, 1) := by decide +kernel
theorem d15_161 : decode prog_8_method_2_code 161 = .ok (.putfield 21, 3) := by decide +kernel
theorem d15_164 : decode prog_8_method_2_code 164 = .ok (.aload_n 0, 1) := by decide +kernel
theorem d15_165 : decode prog_8_method_2_code 165 = .ok (.iload_n 3, 1) := by decide +kernel
theorem d15_166 : decode prog_8_method_2_code 166 = .ok (.putfield 25, 3) := by decide +kernel
theorem d15_169 : decode prog_8_method_2_code 169 = .ok (.aload_n 0, 1) := by decide +kernel
theorem d15_170 : decode prog_8_method_2_code 170 = .ok (.iload 5, 2) := by decide +kernel
theorem d15_172 : decode prog_8_method_2_code 172 = .ok (.ifCond .eq 9, 3) := by decide +kernel
theorem d15_181 : decode prog_8_method_2_code 181 = .ok (.lload 6, 2) := by decide +kernel
theorem d15_183 : decode prog_8_method_2_code 183 = .ok (.putfield 28, 3) := by decide +kernel
theorem d15_186 : decode prog_8_method_2_code 186 = .ok (.aload_n 0, 1) := by decide +kernel
theorem d15_187 : decode prog_8_method_2_code 187 = .ok (.iload 9, 2) := by decide +kernel
theorem d15_189 : decode prog_8_method_2_code 189 = .ok (.putfield 32, 3) := by decide +kernel
theorem d15_192 : decode prog_8_method_2_code 192 = .ok (.aload_n 0, 1) := by decide +kernel
theorem d15_193 : decode prog_8_method_2_code 193 = .ok (.iload 8, 2) := by decide +kernel
theorem d15_195 : decode prog_8_method_2_code 195 = .ok (.putfield 35, 3) := by decide +kernel
set_option maxRecDepth 65536 in
set_option maxHeartbeats 40000000 in
theorem e1 {p : Program} {l : Launch} {e : Env} {s : State} {m : MethodId} {args : Array Value} {below : List Frame} {meth : Method} {c : Code} {T0 : State} {locs : List Loc} {cells slots : Nat} {Z : State} {a0 : Array Value} {h0 : Heap} (o0 : Addr) (o1 : Addr) (i2 : Int32) (i3 : Int32) (s4 : Slot) (i5 : Int32) (j6 : Int64) (i8 : Int32) (i9 : Int32) (s10 : Slot) (s11 : Slot) (u_text_o0 : Value) (u_from_o0 : Value) (u_to_o0 : Value) (u_unscaled_o0 : Value) (u_scale_o0 : Value) (u_digits_o0 : Value) (n0 : Nat)
    (X0 : Stand p l e own_R15 s m args below meth c T0 locs cells slots) (hx : p.tables.exec = Jvm.exec) (hZ : Z.Warmed39 s.vm) (hw : ∀ d ∈ tables_1, d.before a0 Z = true) (hby : c.code = prog_8_method_2_code) (hml : c.maxLocals = 12) (hown : s.vm.findClass "com/example/bandmark/bandmark/PlainDecimal" = some m.cls) (e0 : T0.heap = h0) (Z0 : n0 ≤ h0.size) (N0 : Fr n0 locs) (hcl : cells ≤ own_R15.cells) (hsl : slots ≤ own_R15.slots) (E_o0 : Exa Z h0 o0 "com/example/bandmark/bandmark/PlainDecimal") (F_text_o0 : Fld Z h0 o0 "com/example/bandmark/bandmark/PlainDecimal" "text" "Ljava/lang/String;" u_text_o0) (g_o0 : n0 ≤ o0) (F_from_o0 : Fld Z h0 o0 "com/example/bandmark/bandmark/PlainDecimal" "from" "I" u_from_o0) (F_to_o0 : Fld Z h0 o0 "com/example/bandmark/bandmark/PlainDecimal" "to" "I" u_to_o0) (F_unscaled_o0 : Fld Z h0 o0 "com/example/bandmark/bandmark/PlainDecimal" "unscaled" "J" u_unscaled_o0) (F_scale_o0 : Fld Z h0 o0 "com/example/bandmark/bandmark/PlainDecimal" "scale" "I" u_scale_o0) (F_digits_o0 : Fld Z h0 o0 "com/example/bandmark/bandmark/PlainDecimal" "digits" "I" u_digits_o0) (hc172 : i5 = (0 : Int32)) :
    ∃ (T' : State) (locs' : List Loc), Stand p l e own_R15 s m args below meth c T' locs' cells slots ∧ Fr n0 locs' ∧ Keep h0 T'.heap [o0] ∧ own_PD Z T'.heap o0 j6 i9 i8 ∧
      ∀ target, Steps p.tables e below (T'.setTop (mkF m 198 #[.val (.ref o0), .val (.ref o1), .val (.int i2), .val (.int i3), s4, .val (.int i5), .val (.long j6), .second, .val (.int i8), .val (.int i9), s10, s11] [])) target → Steps p.tables e below (T0.setTop (mkF m 154 #[.val (.ref o0), .val (.ref o1), .val (.int i2), .val (.int i3), s4, .val (.int i5), .val (.long j6), .second, .val (.int i8), .val (.int i9), s10, s11] [])) target := by
  obtain ⟨T5, h5, X5, e5, W5, st5⟩ := putF X0 hx hZ hown (host := "") (Or.inl (own_W hw 92 rfl)) Via.refl e0 F_text_o0 E_o0 (Or.inl (own_W hw 93 rfl)) (own_W hw 55 rfl) (ty := (.object "java/lang/String")) (by decide) rfl rfl (g := (mkF m 156 #[.val (.ref o0), .val (.ref o1), .val (.int i2), .val (.int i3), s4, .val (.int i5), .val (.long j6), .second, .val (.int i8), .val (.int i9), s10, s11] [(.ref o1), (.ref o0)])) rfl rfl (hb hby d15_156)
  have Fw5 := F_text_o0.same W5
  have K5 : Keep h0 h5 [o0] := (Keep.refl h0 [o0]).wr W5 (Or.inl (List.mem_of_getElem? (i := 0) rfl))
  have N5 := Fr.snoc X5 N0 g_o0
  obtain ⟨T6, h6, X6, e6, W6, st6⟩ := putF X5 hx hZ hown (host := "") (Or.inl (own_W hw 94 rfl)) Via.refl e5 (F_from_o0.other W5 (Or.inr (slot_ne (Or.inl (own_W hw 95 rfl)) (Or.inl (own_W hw 93 rfl)) (by decide) (t := .int) (t' := (.object "java/lang/String")) (by decide) (by decide)))) (E_o0.wr W5) (Or.inl (own_W hw 95 rfl)) (own_W hw 55 rfl) (ty := .int) (by decide) rfl rfl (g := (mkF m 161 #[.val (.ref o0), .val (.ref o1), .val (.int i2), .val (.int i3), s4, .val (.int i5), .val (.long j6), .second, .val (.int i8), .val (.int i9), s10, s11] [(.int i2), (.ref o0)])) rfl rfl (hb hby d15_161)
  have Fw6 := (F_from_o0.other W5 (Or.inr (slot_ne (Or.inl (own_W hw 95 rfl)) (Or.inl (own_W hw 93 rfl)) (by decide) (t := .int) (t' := (.object "java/lang/String")) (by decide) (by decide)))).same W6
  have K6 : Keep h0 h6 [o0] := K5.wr W6 (Or.inl (List.mem_of_getElem? (i := 0) rfl))
  have N6 := Fr.snoc X6 N5 g_o0
  obtain ⟨T7, h7, X7, e7, W7, st7⟩ := putF X6 hx hZ hown (host := "") (Or.inl (own_W hw 96 rfl)) Via.refl e6 ((F_to_o0.other W5 (Or.inr (slot_ne (Or.inl (own_W hw 97 rfl)) (Or.inl (own_W hw 93 rfl)) (by decide) (t := .int) (t' := (.object "java/lang/String")) (by decide) (by decide)))).other W6 (Or.inr (slot_ne (Or.inl (own_W hw 97 rfl)) (Or.inl (own_W hw 95 rfl)) (by decide) (t := .int) (t' := .int) (by decide) (by decide)))) ((E_o0.wr W5).wr W6) (Or.inl (own_W hw 97 rfl)) (own_W hw 55 rfl) (ty := .int) (by decide) rfl rfl (g := (mkF m 166 #[.val (.ref o0), .val (.ref o1), .val (.int i2), .val (.int i3), s4, .val (.int i5), .val (.long j6), .second, .val (.int i8), .val (.int i9), s10, s11] [(.int i3), (.ref o0)])) rfl rfl (hb hby d15_166)
  have Fw7 := ((F_to_o0.other W5 (Or.inr (slot_ne (Or.inl (own_W hw 97 rfl)) (Or.inl (own_W hw 93 rfl)) (by decide) (t := .int) (t' := (.object "java/lang/String")) (by decide) (by decide)))).other W6 (Or.inr (slot_ne (Or.inl (own_W hw 97 rfl)) (Or.inl (own_W hw 95 rfl)) (by decide) (t := .int) (t' := .int) (by decide) (by decide)))).same W7
  have K7 : Keep h0 h7 [o0] := K6.wr W7 (Or.inl (List.mem_of_getElem? (i := 0) rfl))
  have N7 := Fr.snoc X7 N6 g_o0
  obtain ⟨T8, h8, X8, e8, W8, st8⟩ := putF X7 hx hZ hown (host := "") (Or.inl (own_W hw 98 rfl)) Via.refl e7 (((F_unscaled_o0.other W5 (Or.inr (slot_ne (Or.inl (own_W hw 99 rfl)) (Or.inl (own_W hw 93 rfl)) (by decide) (t := .long) (t' := (.object "java/lang/String")) (by decide) (by decide)))).other W6 (Or.inr (slot_ne (Or.inl (own_W hw 99 rfl)) (Or.inl (own_W hw 95 rfl)) (by decide) (t := .long) (t' := .int) (by decide) (by decide)))).other W7 (Or.inr (slot_ne (Or.inl (own_W hw 99 rfl)) (Or.inl (own_W hw 97 rfl)) (by decide) (t := .long) (t' := .int) (by decide) (by decide)))) (((E_o0.wr W5).wr W6).wr W7) (Or.inl (own_W hw 99 rfl)) (own_W hw 55 rfl) (ty := .long) (by decide) rfl rfl (g := (mkF m 183 #[.val (.ref o0), .val (.ref o1), .val (.int i2), .val (.int i3), s4, .val (.int i5), .val (.long j6), .second, .val (.int i8), .val (.int i9), s10, s11] [(.long j6), (.ref o0)])) rfl rfl (hb hby d15_183)
  have Fw8 := (((F_unscaled_o0.other W5 (Or.inr (slot_ne (Or.inl (own_W hw 99 rfl)) (Or.inl (own_W hw 93 rfl)) (by decide) (t := .long) (t' := (.object "java/lang/String")) (by decide) (by decide)))).other W6 (Or.inr (slot_ne (Or.inl (own_W hw 99 rfl)) (Or.inl (own_W hw 95 rfl)) (by decide) (t := .long) (t' := .int) (by decide) (by decide)))).other W7 (Or.inr (slot_ne (Or.inl (own_W hw 99 rfl)) (Or.inl (own_W hw 97 rfl)) (by decide) (t := .long) (t' := .int) (by decide) (by decide)))).same W8
  have K8 : Keep h0 h8 [o0] := K7.wr W8 (Or.inl (List.mem_of_getElem? (i := 0) rfl))
  have N8 := Fr.snoc X8 N7 g_o0
  obtain ⟨T9, h9, X9, e9, W9, st9⟩ := putF X8 hx hZ hown (host := "") (Or.inl (own_W hw 100 rfl)) Via.refl e8 ((((F_scale_o0.other W5 (Or.inr (slot_ne (Or.inl (own_W hw 101 rfl)) (Or.inl (own_W hw 93 rfl)) (by decide) (t := .int) (t' := (.object "java/lang/String")) (by decide) (by decide)))).other W6 (Or.inr (slot_ne (Or.inl (own_W hw 101 rfl)) (Or.inl (own_W hw 95 rfl)) (by decide) (t := .int) (t' := .int) (by decide) (by decide)))).other W7 (Or.inr (slot_ne (Or.inl (own_W hw 101 rfl)) (Or.inl (own_W hw 97 rfl)) (by decide) (t := .int) (t' := .int) (by decide) (by decide)))).other W8 (Or.inr (slot_ne (Or.inl (own_W hw 101 rfl)) (Or.inl (own_W hw 99 rfl)) (by decide) (t := .int) (t' := .long) (by decide) (by decide)))) ((((E_o0.wr W5).wr W6).wr W7).wr W8) (Or.inl (own_W hw 101 rfl)) (own_W hw 55 rfl) (ty := .int) (by decide) rfl rfl (g := (mkF m 189 #[.val (.ref o0), .val (.ref o1), .val (.int i2), .val (.int i3), s4, .val (.int i5), .val (.long j6), .second, .val (.int i8), .val (.int i9), s10, s11] [(.int i9), (.ref o0)])) rfl rfl (hb hby d15_189)
  have Fw9 := ((((F_scale_o0.other W5 (Or.inr (slot_ne (Or.inl (own_W hw 101 rfl)) (Or.inl (own_W hw 93 rfl)) (by decide) (t := .int) (t' := (.object "java/lang/String")) (by decide) (by decide)))).other W6 (Or.inr (slot_ne (Or.inl (own_W hw 101 rfl)) (Or.inl (own_W hw 95 rfl)) (by decide) (t := .int) (t' := .int) (by decide) (by decide)))).other W7 (Or.inr (slot_ne (Or.inl (own_W hw 101 rfl)) (Or.inl (own_W hw 97 rfl)) (by decide) (t := .int) (t' := .int) (by decide) (by decide)))).other W8 (Or.inr (slot_ne (Or.inl (own_W hw 101 rfl)) (Or.inl (own_W hw 99 rfl)) (by decide) (t := .int) (t' := .long) (by decide) (by decide)))).same W9
  have K9 : Keep h0 h9 [o0] := K8.wr W9 (Or.inl (List.mem_of_getElem? (i := 0) rfl))
  have N9 := Fr.snoc X9 N8 g_o0
  obtain ⟨T10, h10, X10, e10, W10, st10⟩ := putF X9 hx hZ hown (host := "") (Or.inl (own_W hw 102 rfl)) Via.refl e9 (((((F_digits_o0.other W5 (Or.inr (slot_ne (Or.inl (own_W hw 103 rfl)) (Or.inl (own_W hw 93 rfl)) (by decide) (t := .int) (t' := (.object "java/lang/String")) (by decide) (by decide)))).other W6 (Or.inr (slot_ne (Or.inl (own_W hw 103 rfl)) (Or.inl (own_W hw 95 rfl)) (by decide) (t := .int) (t' := .int) (by decide) (by decide)))).other W7 (Or.inr (slot_ne (Or.inl (own_W hw 103 rfl)) (Or.inl (own_W hw 97 rfl)) (by decide) (t := .int) (t' := .int) (by decide) (by decide)))).other W8 (Or.inr (slot_ne (Or.inl (own_W hw 103 rfl)) (Or.inl (own_W hw 99 rfl)) (by decide) (t := .int) (t' := .long) (by decide) (by decide)))).other W9 (Or.inr (slot_ne (Or.inl (own_W hw 103 rfl)) (Or.inl (own_W hw 101 rfl)) (by decide) (t := .int) (t' := .int) (by decide) (by decide)))) (((((E_o0.wr W5).wr W6).wr W7).wr W8).wr W9) (Or.inl (own_W hw 103 rfl)) (own_W hw 55 rfl) (ty := .int) (by decide) rfl rfl (g := (mkF m 195 #[.val (.ref o0), .val (.ref o1), .val (.int i2), .val (.int i3), s4, .val (.int i5), .val (.long j6), .second, .val (.int i8), .val (.int i9), s10, s11] [(.int i8), (.ref o0)])) rfl rfl (hb hby d15_195)
  have Fw10 := (((((F_digits_o0.other W5 (Or.inr (slot_ne (Or.inl (own_W hw 103 rfl)) (Or.inl (own_W hw 93 rfl)) (by decide) (t := .int) (t' := (.object "java/lang/String")) (by decide) (by decide)))).other W6 (Or.inr (slot_ne (Or.inl (own_W hw 103 rfl)) (Or.inl (own_W hw 95 rfl)) (by decide) (t := .int) (t' := .int) (by decide) (by decide)))).other W7 (Or.inr (slot_ne (Or.inl (own_W hw 103 rfl)) (Or.inl (own_W hw 97 rfl)) (by decide) (t := .int) (t' := .int) (by decide) (by decide)))).other W8 (Or.inr (slot_ne (Or.inl (own_W hw 103 rfl)) (Or.inl (own_W hw 99 rfl)) (by decide) (t := .int) (t' := .long) (by decide) (by decide)))).other W9 (Or.inr (slot_ne (Or.inl (own_W hw 103 rfl)) (Or.inl (own_W hw 101 rfl)) (by decide) (t := .int) (t' := .int) (by decide) (by decide)))).same W10
  have K10 : Keep h0 h10 [o0] := K9.wr W10 (Or.inl (List.mem_of_getElem? (i := 0) rfl))
  have N10 := Fr.snoc X10 N9 g_o0
  refine ⟨T10, _, X10, N10, by rw [e10]; exact K10, by rw [e10]; exact ⟨((((((E_o0.wr W5).wr W6).wr W7).wr W8).wr W9).wr W10), ⟨_, (((((Fw5.other W6 (Or.inr (slot_ne (Or.inl (own_W hw 93 rfl)) (Or.inl (own_W hw 95 rfl)) (by decide) (t := (.object "java/lang/String")) (t' := .int) (by decide) (by decide)))).other W7 (Or.inr (slot_ne (Or.inl (own_W hw 93 rfl)) (Or.inl (own_W hw 97 rfl)) (by decide) (t := (.object "java/lang/String")) (t' := .int) (by decide) (by decide)))).other W8 (Or.inr (slot_ne (Or.inl (own_W hw 93 rfl)) (Or.inl (own_W hw 99 rfl)) (by decide) (t := (.object "java/lang/String")) (t' := .long) (by decide) (by decide)))).other W9 (Or.inr (slot_ne (Or.inl (own_W hw 93 rfl)) (Or.inl (own_W hw 101 rfl)) (by decide) (t := (.object "java/lang/String")) (t' := .int) (by decide) (by decide)))).other W10 (Or.inr (slot_ne (Or.inl (own_W hw 93 rfl)) (Or.inl (own_W hw 103 rfl)) (by decide) (t := (.object "java/lang/String")) (t' := .int) (by decide) (by decide))))⟩, ⟨_, ((((Fw6.other W7 (Or.inr (slot_ne (Or.inl (own_W hw 95 rfl)) (Or.inl (own_W hw 97 rfl)) (by decide) (t := .int) (t' := .int) (by decide) (by decide)))).other W8 (Or.inr (slot_ne (Or.inl (own_W hw 95 rfl)) (Or.inl (own_W hw 99 rfl)) (by decide) (t := .int) (t' := .long) (by decide) (by decide)))).other W9 (Or.inr (slot_ne (Or.inl (own_W hw 95 rfl)) (Or.inl (own_W hw 101 rfl)) (by decide) (t := .int) (t' := .int) (by decide) (by decide)))).other W10 (Or.inr (slot_ne (Or.inl (own_W hw 95 rfl)) (Or.inl (own_W hw 103 rfl)) (by decide) (t := .int) (t' := .int) (by decide) (by decide))))⟩, ⟨_, (((Fw7.other W8 (Or.inr (slot_ne (Or.inl (own_W hw 97 rfl)) (Or.inl (own_W hw 99 rfl)) (by decide) (t := .int) (t' := .long) (by decide) (by decide)))).other W9 (Or.inr (slot_ne (Or.inl (own_W hw 97 rfl)) (Or.inl (own_W hw 101 rfl)) (by decide) (t := .int) (t' := .int) (by decide) (by decide)))).other W10 (Or.inr (slot_ne (Or.inl (own_W hw 97 rfl)) (Or.inl (own_W hw 103 rfl)) (by decide) (t := .int) (t' := .int) (by decide) (by decide))))⟩, ((Fw8.other W9 (Or.inr (slot_ne (Or.inl (own_W hw 99 rfl)) (Or.inl (own_W hw 101 rfl)) (by decide) (t := .long) (t' := .int) (by decide) (by decide)))).other W10 (Or.inr (slot_ne (Or.inl (own_W hw 99 rfl)) (Or.inl (own_W hw 103 rfl)) (by decide) (t := .long) (t' := .int) (by decide) (by decide)))), (Fw9.other W10 (Or.inr (slot_ne (Or.inl (own_W hw 101 rfl)) (Or.inl (own_W hw 103 rfl)) (by decide) (t := .int) (t' := .int) (by decide) (by decide)))), Fw10⟩, fun target kt => ?_⟩
  refine XS.aloadN X0.here hx rfl (hb hby d15_154) rfl rfl ?_
  refine XS.aloadN X0.here hx rfl (hb hby d15_155) rfl rfl ?_
  refine st5 _ ?_
  refine XS.aloadN X5.here hx rfl (hb hby d15_159) rfl rfl ?_
  refine XS.iloadN X5.here hx rfl (hb hby d15_160) rfl ?_
  refine st6 _ ?_
  refine XS.aloadN X6.here hx rfl (hb hby d15_164) rfl rfl ?_
  refine XS.iloadN X6.here hx rfl (hb hby d15_165) rfl ?_
  refine st7 _ ?_
  refine XS.aloadN X7.here hx rfl (hb hby d15_169) rfl rfl ?_
  refine XS.iload X7.here hx rfl (hb hby d15_170) rfl ?_
  refine XS.ifYes X7.here hx rfl (pc0 := 172) (pc' := 181) rfl (hb hby d15_172) rfl ((if0 _ _).trans (teq hc172).1) (by decide) (by decide) ?_
  refine XS.lload X7.here hx rfl (hb hby d15_181) rfl ?_
  refine st8 _ ?_
  refine XS.aloadN X8.here hx rfl (hb hby d15_186) rfl rfl ?_
  refine XS.iload X8.here hx rfl (hb hby d15_187) rfl ?_
  refine st9 _ ?_
  refine XS.aloadN X9.here hx rfl (hb hby d15_192) rfl rfl ?_
  refine XS.iload X9.here hx rfl (hb hby d15_193) rfl ?_
  refine st10 _ ?_
  exact kt
theorem d15_175 : decode prog_8_method_2_code 175 = .ok (.lload 6, 2) := by decide +kernel
theorem d15_177 : decode prog_8_method_2_code 177 = .ok (.lneg, 1) := by decide +kernel
theorem d15_178 : decode prog_8_method_2_code 178 = .ok (.goto 5, 3) := by decide +kernel
set_option maxRecDepth 65536 in
set_option maxHeartbeats 40000000 in
theorem e2 {p : Program} {l : Launch} {e : Env} {s : State} {m : MethodId} {args : Array Value} {below : List Frame} {meth : Method} {c : Code} {T0 : State} {locs : List Loc} {cells slots : Nat} {Z : State} {a0 : Array Value} {h0 : Heap} (o0 : Addr) (o1 : Addr) (i2 : Int32) (i3 : Int32) (s4 : Slot) (i5 : Int32) (j6 : Int64) (i8 : Int32) (i9 : Int32) (s10 : Slot) (s11 : Slot) (u_text_o0 : Value) (u_from_o0 : Value) (u_to_o0 : Value) (u_unscaled_o0 : Value) (u_scale_o0 : Value) (u_digits_o0 : Value) (n0 : Nat)
    (X0 : Stand p l e own_R15 s m args below meth c T0 locs cells slots) (hx : p.tables.exec = Jvm.exec) (hZ : Z.Warmed39 s.vm) (hw : ∀ d ∈ tables_1, d.before a0 Z = true) (hby : c.code = prog_8_method_2_code) (hml : c.maxLocals = 12) (hown : s.vm.findClass "com/example/bandmark/bandmark/PlainDecimal" = some m.cls) (e0 : T0.heap = h0) (Z0 : n0 ≤ h0.size) (N0 : Fr n0 locs) (hcl : cells ≤ own_R15.cells) (hsl : slots ≤ own_R15.slots) (E_o0 : Exa Z h0 o0 "com/example/bandmark/bandmark/PlainDecimal") (F_text_o0 : Fld Z h0 o0 "com/example/bandmark/bandmark/PlainDecimal" "text" "Ljava/lang/String;" u_text_o0) (g_o0 : n0 ≤ o0) (F_from_o0 : Fld Z h0 o0 "com/example/bandmark/bandmark/PlainDecimal" "from" "I" u_from_o0) (F_to_o0 : Fld Z h0 o0 "com/example/bandmark/bandmark/PlainDecimal" "to" "I" u_to_o0) (F_unscaled_o0 : Fld Z h0 o0 "com/example/bandmark/bandmark/PlainDecimal" "unscaled" "J" u_unscaled_o0) (F_scale_o0 : Fld Z h0 o0 "com/example/bandmark/bandmark/PlainDecimal" "scale" "I" u_scale_o0) (F_digits_o0 : Fld Z h0 o0 "com/example/bandmark/bandmark/PlainDecimal" "digits" "I" u_digits_o0) (hc172 : ¬ (i5 = (0 : Int32))) :
    ∃ (T' : State) (locs' : List Loc), Stand p l e own_R15 s m args below meth c T' locs' cells slots ∧ Fr n0 locs' ∧ Keep h0 T'.heap [o0] ∧ own_PD Z T'.heap o0 (-j6) i9 i8 ∧
      ∀ target, Steps p.tables e below (T'.setTop (mkF m 198 #[.val (.ref o0), .val (.ref o1), .val (.int i2), .val (.int i3), s4, .val (.int i5), .val (.long j6), .second, .val (.int i8), .val (.int i9), s10, s11] [])) target → Steps p.tables e below (T0.setTop (mkF m 154 #[.val (.ref o0), .val (.ref o1), .val (.int i2), .val (.int i3), s4, .val (.int i5), .val (.long j6), .second, .val (.int i8), .val (.int i9), s10, s11] [])) target := by
  obtain ⟨T5, h5, X5, e5, W5, st5⟩ := putF X0 hx hZ hown (host := "") (Or.inl (own_W hw 92 rfl)) Via.refl e0 F_text_o0 E_o0 (Or.inl (own_W hw 93 rfl)) (own_W hw 55 rfl) (ty := (.object "java/lang/String")) (by decide) rfl rfl (g := (mkF m 156 #[.val (.ref o0), .val (.ref o1), .val (.int i2), .val (.int i3), s4, .val (.int i5), .val (.long j6), .second, .val (.int i8), .val (.int i9), s10, s11] [(.ref o1), (.ref o0)])) rfl rfl (hb hby d15_156)
  have Fw5 := F_text_o0.same W5
  have K5 : Keep h0 h5 [o0] := (Keep.refl h0 [o0]).wr W5 (Or.inl (List.mem_of_getElem? (i := 0) rfl))
  have N5 := Fr.snoc X5 N0 g_o0
  obtain ⟨T6, h6, X6, e6, W6, st6⟩ := putF X5 hx hZ hown (host := "") (Or.inl (own_W hw 94 rfl)) Via.refl e5 (F_from_o0.other W5 (Or.inr (slot_ne (Or.inl (own_W hw 95 rfl)) (Or.inl (own_W hw 93 rfl)) (by decide) (t := .int) (t' := (.object "java/lang/String")) (by decide) (by decide)))) (E_o0.wr W5) (Or.inl (own_W hw 95 rfl)) (own_W hw 55 rfl) (ty := .int) (by decide) rfl rfl (g := (mkF m 161 #[.val (.ref o0), .val (.ref o1), .val (.int i2), .val (.int i3), s4, .val (.int i5), .val (.long j6), .second, .val (.int i8), .val (.int i9), s10, s11] [(.int i2), (.ref o0)])) rfl rfl (hb hby d15_161)
  have Fw6 := (F_from_o0.other W5 (Or.inr (slot_ne (Or.inl (own_W hw 95 rfl)) (Or.inl (own_W hw 93 rfl)) (by decide) (t := .int) (t' := (.object "java/lang/String")) (by decide) (by decide)))).same W6
  have K6 : Keep h0 h6 [o0] := K5.wr W6 (Or.inl (List.mem_of_getElem? (i := 0) rfl))
  have N6 := Fr.snoc X6 N5 g_o0
  obtain ⟨T7, h7, X7, e7, W7, st7⟩ := putF X6 hx hZ hown (host := "") (Or.inl (own_W hw 96 rfl)) Via.refl e6 ((F_to_o0.other W5 (Or.inr (slot_ne (Or.inl (own_W hw 97 rfl)) (Or.inl (own_W hw 93 rfl)) (by decide) (t := .int) (t' := (.object "java/lang/String")) (by decide) (by decide)))).other W6 (Or.inr (slot_ne (Or.inl (own_W hw 97 rfl)) (Or.inl (own_W hw 95 rfl)) (by decide) (t := .int) (t' := .int) (by decide) (by decide)))) ((E_o0.wr W5).wr W6) (Or.inl (own_W hw 97 rfl)) (own_W hw 55 rfl) (ty := .int) (by decide) rfl rfl (g := (mkF m 166 #[.val (.ref o0), .val (.ref o1), .val (.int i2), .val (.int i3), s4, .val (.int i5), .val (.long j6), .second, .val (.int i8), .val (.int i9), s10, s11] [(.int i3), (.ref o0)])) rfl rfl (hb hby d15_166)
  have Fw7 := ((F_to_o0.other W5 (Or.inr (slot_ne (Or.inl (own_W hw 97 rfl)) (Or.inl (own_W hw 93 rfl)) (by decide) (t := .int) (t' := (.object "java/lang/String")) (by decide) (by decide)))).other W6 (Or.inr (slot_ne (Or.inl (own_W hw 97 rfl)) (Or.inl (own_W hw 95 rfl)) (by decide) (t := .int) (t' := .int) (by decide) (by decide)))).same W7
  have K7 : Keep h0 h7 [o0] := K6.wr W7 (Or.inl (List.mem_of_getElem? (i := 0) rfl))
  have N7 := Fr.snoc X7 N6 g_o0
  obtain ⟨T8, h8, X8, e8, W8, st8⟩ := putF X7 hx hZ hown (host := "") (Or.inl (own_W hw 98 rfl)) Via.refl e7 (((F_unscaled_o0.other W5 (Or.inr (slot_ne (Or.inl (own_W hw 99 rfl)) (Or.inl (own_W hw 93 rfl)) (by decide) (t := .long) (t' := (.object "java/lang/String")) (by decide) (by decide)))).other W6 (Or.inr (slot_ne (Or.inl (own_W hw 99 rfl)) (Or.inl (own_W hw 95 rfl)) (by decide) (t := .long) (t' := .int) (by decide) (by decide)))).other W7 (Or.inr (slot_ne (Or.inl (own_W hw 99 rfl)) (Or.inl (own_W hw 97 rfl)) (by decide) (t := .long) (t' := .int) (by decide) (by decide)))) (((E_o0.wr W5).wr W6).wr W7) (Or.inl (own_W hw 99 rfl)) (own_W hw 55 rfl) (ty := .long) (by decide) rfl rfl (g := (mkF m 183 #[.val (.ref o0), .val (.ref o1), .val (.int i2), .val (.int i3), s4, .val (.int i5), .val (.long j6), .second, .val (.int i8), .val (.int i9), s10, s11] [(.long (-j6)), (.ref o0)])) rfl rfl (hb hby d15_183)
  have Fw8 := (((F_unscaled_o0.other W5 (Or.inr (slot_ne (Or.inl (own_W hw 99 rfl)) (Or.inl (own_W hw 93 rfl)) (by decide) (t := .long) (t' := (.object "java/lang/String")) (by decide) (by decide)))).other W6 (Or.inr (slot_ne (Or.inl (own_W hw 99 rfl)) (Or.inl (own_W hw 95 rfl)) (by decide) (t := .long) (t' := .int) (by decide) (by decide)))).other W7 (Or.inr (slot_ne (Or.inl (own_W hw 99 rfl)) (Or.inl (own_W hw 97 rfl)) (by decide) (t := .long) (t' := .int) (by decide) (by decide)))).same W8
  have K8 : Keep h0 h8 [o0] := K7.wr W8 (Or.inl (List.mem_of_getElem? (i := 0) rfl))
  have N8 := Fr.snoc X8 N7 g_o0
  obtain ⟨T9, h9, X9, e9, W9, st9⟩ := putF X8 hx hZ hown (host := "") (Or.inl (own_W hw 100 rfl)) Via.refl e8 ((((F_scale_o0.other W5 (Or.inr (slot_ne (Or.inl (own_W hw 101 rfl)) (Or.inl (own_W hw 93 rfl)) (by decide) (t := .int) (t' := (.object "java/lang/String")) (by decide) (by decide)))).other W6 (Or.inr (slot_ne (Or.inl (own_W hw 101 rfl)) (Or.inl (own_W hw 95 rfl)) (by decide) (t := .int) (t' := .int) (by decide) (by decide)))).other W7 (Or.inr (slot_ne (Or.inl (own_W hw 101 rfl)) (Or.inl (own_W hw 97 rfl)) (by decide) (t := .int) (t' := .int) (by decide) (by decide)))).other W8 (Or.inr (slot_ne (Or.inl (own_W hw 101 rfl)) (Or.inl (own_W hw 99 rfl)) (by decide) (t := .int) (t' := .long) (by decide) (by decide)))) ((((E_o0.wr W5).wr W6).wr W7).wr W8) (Or.inl (own_W hw 101 rfl)) (own_W hw 55 rfl) (ty := .int) (by decide) rfl rfl (g := (mkF m 189 #[.val (.ref o0), .val (.ref o1), .val (.int i2), .val (.int i3), s4, .val (.int i5), .val (.long j6), .second, .val (.int i8), .val (.int i9), s10, s11] [(.int i9), (.ref o0)])) rfl rfl (hb hby d15_189)
  have Fw9 := ((((F_scale_o0.other W5 (Or.inr (slot_ne (Or.inl (own_W hw 101 rfl)) (Or.inl (own_W hw 93 rfl)) (by decide) (t := .int) (t' := (.object "java/lang/String")) (by decide) (by decide)))).other W6 (Or.inr (slot_ne (Or.inl (own_W hw 101 rfl)) (Or.inl (own_W hw 95 rfl)) (by decide) (t := .int) (t' := .int) (by decide) (by decide)))).other W7 (Or.inr (slot_ne (Or.inl (own_W hw 101 rfl)) (Or.inl (own_W hw 97 rfl)) (by decide) (t := .int) (t' := .int) (by decide) (by decide)))).other W8 (Or.inr (slot_ne (Or.inl (own_W hw 101 rfl)) (Or.inl (own_W hw 99 rfl)) (by decide) (t := .int) (t' := .long) (by decide) (by decide)))).same W9
  have K9 : Keep h0 h9 [o0] := K8.wr W9 (Or.inl (List.mem_of_getElem? (i := 0) rfl))
  have N9 := Fr.snoc X9 N8 g_o0
  obtain ⟨T10, h10, X10, e10, W10, st10⟩ := putF X9 hx hZ hown (host := "") (Or.inl (own_W hw 102 rfl)) Via.refl e9 (((((F_digits_o0.other W5 (Or.inr (slot_ne (Or.inl (own_W hw 103 rfl)) (Or.inl (own_W hw 93 rfl)) (by decide) (t := .int) (t' := (.object "java/lang/String")) (by decide) (by decide)))).other W6 (Or.inr (slot_ne (Or.inl (own_W hw 103 rfl)) (Or.inl (own_W hw 95 rfl)) (by decide) (t := .int) (t' := .int) (by decide) (by decide)))).other W7 (Or.inr (slot_ne (Or.inl (own_W hw 103 rfl)) (Or.inl (own_W hw 97 rfl)) (by decide) (t := .int) (t' := .int) (by decide) (by decide)))).other W8 (Or.inr (slot_ne (Or.inl (own_W hw 103 rfl)) (Or.inl (own_W hw 99 rfl)) (by decide) (t := .int) (t' := .long) (by decide) (by decide)))).other W9 (Or.inr (slot_ne (Or.inl (own_W hw 103 rfl)) (Or.inl (own_W hw 101 rfl)) (by decide) (t := .int) (t' := .int) (by decide) (by decide)))) (((((E_o0.wr W5).wr W6).wr W7).wr W8).wr W9) (Or.inl (own_W hw 103 rfl)) (own_W hw 55 rfl) (ty := .int) (by decide) rfl rfl (g := (mkF m 195 #[.val (.ref o0), .val (.ref o1), .val (.int i2), .val (.int i3), s4, .val (.int i5), .val (.long j6), .second, .val (.int i8), .val (.int i9), s10, s11] [(.int i8), (.ref o0)])) rfl rfl (hb hby d15_195)
  have Fw10 := (((((F_digits_o0.other W5 (Or.inr (slot_ne (Or.inl (own_W hw 103 rfl)) (Or.inl (own_W hw 93 rfl)) (by decide) (t := .int) (t' := (.object "java/lang/String")) (by decide) (by decide)))).other W6 (Or.inr (slot_ne (Or.inl (own_W hw 103 rfl)) (Or.inl (own_W hw 95 rfl)) (by decide) (t := .int) (t' := .int) (by decide) (by decide)))).other W7 (Or.inr (slot_ne (Or.inl (own_W hw 103 rfl)) (Or.inl (own_W hw 97 rfl)) (by decide) (t := .int) (t' := .int) (by decide) (by decide)))).other W8 (Or.inr (slot_ne (Or.inl (own_W hw 103 rfl)) (Or.inl (own_W hw 99 rfl)) (by decide) (t := .int) (t' := .long) (by decide) (by decide)))).other W9 (Or.inr (slot_ne (Or.inl (own_W hw 103 rfl)) (Or.inl (own_W hw 101 rfl)) (by decide) (t := .int) (t' := .int) (by decide) (by decide)))).same W10
  have K10 : Keep h0 h10 [o0] := K9.wr W10 (Or.inl (List.mem_of_getElem? (i := 0) rfl))
  have N10 := Fr.snoc X10 N9 g_o0
  refine ⟨T10, _, X10, N10, by rw [e10]; exact K10, by rw [e10]; exact ⟨((((((E_o0.wr W5).wr W6).wr W7).wr W8).wr W9).wr W10), ⟨_, (((((Fw5.other W6 (Or.inr (slot_ne (Or.inl (own_W hw 93 rfl)) (Or.inl (own_W hw 95 rfl)) (by decide) (t := (.object "java/lang/String")) (t' := .int) (by decide) (by decide)))).other W7 (Or.inr (slot_ne (Or.inl (own_W hw 93 rfl)) (Or.inl (own_W hw 97 rfl)) (by decide) (t := (.object "java/lang/String")) (t' := .int) (by decide) (by decide)))).other W8 (Or.inr (slot_ne (Or.inl (own_W hw 93 rfl)) (Or.inl (own_W hw 99 rfl)) (by decide) (t := (.object "java/lang/String")) (t' := .long) (by decide) (by decide)))).other W9 (Or.inr (slot_ne (Or.inl (own_W hw 93 rfl)) (Or.inl (own_W hw 101 rfl)) (by decide) (t := (.object "java/lang/String")) (t' := .int) (by decide) (by decide)))).other W10 (Or.inr (slot_ne (Or.inl (own_W hw 93 rfl)) (Or.inl (own_W hw 103 rfl)) (by decide) (t := (.object "java/lang/String")) (t' := .int) (by decide) (by decide))))⟩, ⟨_, ((((Fw6.other W7 (Or.inr (slot_ne (Or.inl (own_W hw 95 rfl)) (Or.inl (own_W hw 97 rfl)) (by decide) (t := .int) (t' := .int) (by decide) (by decide)))).other W8 (Or.inr (slot_ne (Or.inl (own_W hw 95 rfl)) (Or.inl (own_W hw 99 rfl)) (by decide) (t := .int) (t' := .long) (by decide) (by decide)))).other W9 (Or.inr (slot_ne (Or.inl (own_W hw 95 rfl)) (Or.inl (own_W hw 101 rfl)) (by decide) (t := .int) (t' := .int) (by decide) (by decide)))).other W10 (Or.inr (slot_ne (Or.inl (own_W hw 95 rfl)) (Or.inl (own_W hw 103 rfl)) (by decide) (t := .int) (t' := .int) (by decide) (by decide))))⟩, ⟨_, (((Fw7.other W8 (Or.inr (slot_ne (Or.inl (own_W hw 97 rfl)) (Or.inl (own_W hw 99 rfl)) (by decide) (t := .int) (t' := .long) (by decide) (by decide)))).other W9 (Or.inr (slot_ne (Or.inl (own_W hw 97 rfl)) (Or.inl (own_W hw 101 rfl)) (by decide) (t := .int) (t' := .int) (by decide) (by decide)))).other W10 (Or.inr (slot_ne (Or.inl (own_W hw 97 rfl)) (Or.inl (own_W hw 103 rfl)) (by decide) (t := .int) (t' := .int) (by decide) (by decide))))⟩, ((Fw8.other W9 (Or.inr (slot_ne (Or.inl (own_W hw 99 rfl)) (Or.inl (own_W hw 101 rfl)) (by decide) (t := .long) (t' := .int) (by decide) (by decide)))).other W10 (Or.inr (slot_ne (Or.inl (own_W hw 99 rfl)) (Or.inl (own_W hw 103 rfl)) (by decide) (t := .long) (t' := .int) (by decide) (by decide)))), (Fw9.other W10 (Or.inr (slot_ne (Or.inl (own_W hw 101 rfl)) (Or.inl (own_W hw 103 rfl)) (by decide) (t := .int) (t' := .int) (by decide) (by decide)))), Fw10⟩, fun target kt => ?_⟩
  refine XS.aloadN X0.here hx rfl (hb hby d15_154) rfl rfl ?_
  refine XS.aloadN X0.here hx rfl (hb hby d15_155) rfl rfl ?_
  refine st5 _ ?_
  refine XS.aloadN X5.here hx rfl (hb hby d15_159) rfl rfl ?_
  refine XS.iloadN X5.here hx rfl (hb hby d15_160) rfl ?_
  refine st6 _ ?_
  refine XS.aloadN X6.here hx rfl (hb hby d15_164) rfl rfl ?_
  refine XS.iloadN X6.here hx rfl (hb hby d15_165) rfl ?_
  refine st7 _ ?_
  refine XS.aloadN X7.here hx rfl (hb hby d15_169) rfl rfl ?_
  refine XS.iload X7.here hx rfl (hb hby d15_170) rfl ?_
  refine XS.ifNo X7.here hx rfl (hb hby d15_172) rfl ((if0 _ _).trans (feq hc172).1) ?_
  refine XS.lload X7.here hx rfl (hb hby d15_175) rfl ?_
  refine XS.lneg X7.here hx rfl (hb hby d15_177) rfl ?_
  refine XS.goto X7.here hx rfl (pc0 := 178) (pc' := 183) rfl (hb hby d15_178) (by decide) (by decide) ?_
  refine st8 _ ?_
  refine XS.aloadN X8.here hx rfl (hb hby d15_186) rfl rfl ?_
  refine XS.iload X8.here hx rfl (hb hby d15_187) rfl ?_
  refine st9 _ ?_
  refine XS.aloadN X9.here hx rfl (hb hby d15_192) rfl rfl ?_
  refine XS.iload X9.here hx rfl (hb hby d15_193) rfl ?_
  refine st10 _ ?_
  exact kt
theorem d15_147 : decode prog_8_method_2_code 147 = .ok (.iload 8, 2) := by decide +kernel
theorem d15_149 : decode prog_8_method_2_code 149 = .ok (.ifCond .ne 5, 3) := by decide +kernel
theorem d15_152 : decode prog_8_method_2_code 152 = .ok (.iconst 0, 1) := by decide +kernel
theorem d15_153 : decode prog_8_method_2_code 153 = .ok (.ireturn, 1) := by decide +kernel
theorem pn_15 : plainName "com/example/bandmark/bandmark/PlainDecimal" = true := by first | (simp [plainName, overriddenIn]; done) | decide +kernel
theorem ef_15 (m : MethodId) (x0 : Addr) (x1 : Addr) (x2 : Int32) (x3 : Int32) : entryFrame m #[(.ref x0), (.ref x1), (.int x2), (.int x3)] 12 = mkF m 0 #[.val (.ref x0), .val (.ref x1), .val (.int x2), .val (.int x3), .unset, .unset, .unset, .unset, .unset, .unset, .unset, .unset] [] := by first | (simp [entryFrame, mkF, argsToLocals, Value.category]; done) | rfl
theorem d15_139 : decode prog_8_method_2_code 139 = .ok (.iconst 0, 1) := by decide +kernel
theorem d15_140 : decode prog_8_method_2_code 140 = .ok (.ireturn, 1) := by decide +kernel
theorem d15_198 : decode prog_8_method_2_code 198 = .ok (.iconst 1, 1) := by decide +kernel
theorem d15_199 : decode prog_8_method_2_code 199 = .ok (.ireturn, 1) := by decide +kernel
def own_r (R : Option (Nat × Nat × Nat)) : Int32 := match R with | none => 0 | some _ => 1
def own_nu (R : Option (Nat × Nat × Nat)) (ng : Bool) (u : Int64) : Int64 := match R with | none => u | some (_, v, _) => if ng then -(Int64.ofNat v) else Int64.ofNat v
def own_nq (R : Option (Nat × Nat × Nat)) (q : Int32) : Int32 := match R with | none => q | some (_, _, v) => Int32.ofNat v
def own_nd (R : Option (Nat × Nat × Nat)) (d : Int32) : Int32 := match R with | none => d | some (v, _, _) => Int32.ofNat v
def Q15 (Z : State) (a1 : Addr) (R : Option (Nat × Nat × Nat)) (ng : Bool) (u : Int64) (q d : Int32) (h0 : Heap) (n0 : Nat) (v : Option Value) (h : Heap) (L : List Loc) : Prop := v = some (.int (own_r R)) ∧ Fr n0 L ∧ Keep h0 h [a1] ∧ own_PD Z h a1 (own_nu R ng u) (own_nq R q) (own_nd R d)
set_option maxRecDepth 65536 in
set_option maxHeartbeats 40000000 in
theorem r15 (l : Launch) (Z : State) (a0 : Array Value) (hw : ∀ d ∈ tables_1, d.before a0 Z = true) (ws : List Jvm.Cond) (a1 : Addr) (a2 : Addr) (p3 : Int32) (p4 : Int32) (cs : List Int32) (a b : Nat) (u : Int64) (q d : Int32) (h0 : Heap) (n0 : Nat) (Z0 : n0 ≤ h0.size) (h3 : p3 = Int32.ofNat a) (h4 : p4 = Int32.ofNat b) (hab : a ≤ b) (hbc : b ≤ cs.length) (TX : own_Tx Z h0 a2 cs) (HP : own_PD Z h0 a1 u q d) (g_a1 : n0 ≤ a1) :
    MetFree l (⟨"com/example/bandmark/bandmark/PlainDecimal", "read", "(Ljava/lang/String;II)Z"⟩ : MethodName) (head1 (Jvm.Cond.code (⟨"com/example/bandmark/bandmark/PlainDecimal", "read", "(Ljava/lang/String;II)Z"⟩ : MethodName) prog_8_method_2_code 12 (some .boolean) :: ws) own_R15) (fun a U => a = #[(.ref a1), (.ref a2), (.int p3), (.int p4)] ∧ Z.Warmed39 U.vm ∧ U.heap = h0) (fun _ _ _ _ _ => True) (fun _ U o U' => ∃ v L, o = .returned v ∧ Q15 Z a1 (own_read (fun j => cs.getD j 0) a b) (own_neg (fun j => cs.getD j 0) a b) u q d h0 n0 v U'.heap L ∧ FrameEnd U o U' L own_R15.cells own_R15.slots) := by
  refine MetFree.of_bodySF (plainFor_of_name pn_15) hisR ?_
  intro p e s m args below meth c s₁ Bd hml0 hP hK
  obtain ⟨rfl, hZ, hh⟩ := hP
  subst h3 h4
  have h22 : cs.length ≤ 22 := by obtain ⟨⟨t, kb, -, -, l2, -⟩, -⟩ := TX; exact l2
  obtain ⟨E_a1, ⟨u1, F1⟩, ⟨u2, F2⟩, ⟨u3, F3⟩, F4, F5, F6⟩ := id HP
  have hx := Bd.exec
  have hby := Bd.bytes
  have hml : c.maxLocals = 12 := hml0
  have hown : s.vm.findClass "com/example/bandmark/bandmark/PlainDecimal" = some m.cls := findClass_of_methodNamed Bd.named
  have hnm := (name_of_methodNamed Bd.named Bd.method).1
  have X0 : Stand p l e own_R15 s m #[(.ref a1), (.ref a2), (.int (Int32.ofNat a)), (.int (Int32.ofNat b))] below meth c s₁ [] 0 0 := Stand.of_body Bd
  have e0 : s₁.heap = h0 := by rw [← hh, Bd.state]; rfl
  have N0 := Fr.nil n0
  have pre0 : ∀ t, Steps p.tables e below (s₁.setTop (mkF m 0 #[.val (.ref a1), .val (.ref a2), .val (.int (Int32.ofNat a)), .val (.int (Int32.ofNat b)), .unset, .unset, .unset, .unset, .unset, .unset, .unset, .unset] [])) t → Steps p.tables e below (s₁.setTop (entryFrame m #[(.ref a1), (.ref a2), (.int (Int32.ofNat a)), (.int (Int32.ofNat b))] 12)) t := fun t k => castTop (ef_15 m a1 a2 (Int32.ofNat a) (Int32.ofNat b)) k
  obtain ⟨TB, LB, XB, NB, eB, stB⟩ := own_begin (.val (.ref a1)) a2 cs a b n0 hab hbc h22 hx hZ hw hby hml hown TX Z0 (Nat.le_refl _) (Nat.le_refl _) X0 e0 N0
  have hst : (own_start (fun j => cs.getD j 0) a b) ≤ b := by unfold own_start; split <;> omega
  obtain ⟨TL, LL, XL, NL, eL, hL⟩ := own_loop (.val (.ref a1)) a2 (.val (.int (Int32.ofNat a))) (.val (.int (own_b (own_neg (fun j => cs.getD j 0) a b)))) cs b n0 hbc h22 hx hZ hw hby hml hown TX Z0 (Nat.le_refl _) (Nat.le_refl _) (b - (own_start (fun j => cs.getD j 0) a b)) (own_start (fun j => cs.getD j 0) a b) 0 false 0 0 .unset TB LB (by omega) (Nat.zero_le _) (Nat.zero_le _) One.u XB eB NB
  rcases hL with ⟨hn, La, stL⟩ | ⟨r, uu, qq, sa, sb, sc, hn, hr, stL⟩
  · have R0 : own_read (fun j => cs.getD j 0) a b = none := by unfold own_read; rw [hn]
    rw [R0]
    obtain ⟨fs, hr, hrun, hended, hW, hsame⟩ := XL.leave (v := some (.int 0)) (fun h => by rw [Bd.returns] at h; cases h)
    refine ⟨_, _, pre0 _ ?_, hrun, hended, _, _, rfl, ?_, ⟨_, rfl⟩, hW, hsame.mono (by decide) (by decide)⟩
    · refine stB _ (stL _ ?_)
      refine XS.iconst XL.here hx rfl (hb hby d15_139) ?_
      exact retN XL hx (t := .boolean) Bd.returns (by simp) (hb hby d15_140) hr
    · show Q15 Z a1 none (own_neg (fun j => cs.getD j 0) a b) u q d h0 n0 _ TL.heap _
      rw [eL]
      exact ⟨rfl, NL, Keep.refl _ _, HP⟩
  · by_cases h0r : r = 0
    · subst h0r
      have R0 : own_read (fun j => cs.getD j 0) a b = none := by unfold own_read; rw [hn]; rfl
      rw [R0]
      obtain ⟨fs, hr, hrun, hended, hW, hsame⟩ := XL.leave (v := some (.int 0)) (fun h => by rw [Bd.returns] at h; cases h)
      refine ⟨_, _, pre0 _ ?_, hrun, hended, _, _, rfl, ?_, ⟨_, rfl⟩, hW, hsame.mono (by decide) (by decide)⟩
      · refine stB _ (stL _ ?_)
        refine XS.iload XL.here hx rfl (hb hby d15_147) rfl ?_
        refine XS.ifNo XL.here hx rfl (hb hby d15_149) rfl ((if0 _ _).trans (teq (rfl : Int32.ofNat 0 = (0 : Int32))).2) ?_
        refine XS.iconst XL.here hx rfl (hb hby d15_152) ?_
        exact retN XL hx (t := .boolean) Bd.returns (by simp) (hb hby d15_153) hr
      · show Q15 Z a1 none (own_neg (fun j => cs.getD j 0) a b) u q d h0 n0 _ TL.heap _
        rw [eL]
        exact ⟨rfl, NL, Keep.refl _ _, HP⟩
    · have z0 : ¬ Int32.ofNat r = (0 : Int32) := fun q => h0r ((own_zero r (by omega)).mp q)
      have R1 : own_read (fun j => cs.getD j 0) a b = some (r, uu, qq) := by
        unfold own_read
        rw [hn]
        cases r with
        | zero => exact absurd rfl h0r
        | succ n => rfl
      rw [R1]
      have hE : ∃ (T' : State) (locs' : List Loc), Stand p l e own_R15 s m #[(.ref a1), (.ref a2), (.int (Int32.ofNat a)), (.int (Int32.ofNat b))] below meth c T' locs' 0 0 ∧ Fr n0 locs' ∧ Keep h0 T'.heap [a1] ∧ own_PD Z T'.heap a1 (if own_neg (fun j => cs.getD j 0) a b then -(Int64.ofNat uu) else Int64.ofNat uu) (Int32.ofNat qq) (Int32.ofNat r) ∧ ∀ target, Steps p.tables e below (T'.setTop (mkF m 198 #[.val (.ref a1), .val (.ref a2), .val (.int (Int32.ofNat a)), .val (.int (Int32.ofNat b)), sa, .val (.int (own_b (own_neg (fun j => cs.getD j 0) a b))), .val (.long (Int64.ofNat uu)), .second, .val (.int (Int32.ofNat r)), .val (.int (Int32.ofNat qq)), sb, sc] [])) target → Steps p.tables e below (TL.setTop (mkF m 154 #[.val (.ref a1), .val (.ref a2), .val (.int (Int32.ofNat a)), .val (.int (Int32.ofNat b)), sa, .val (.int (own_b (own_neg (fun j => cs.getD j 0) a b))), .val (.long (Int64.ofNat uu)), .second, .val (.int (Int32.ofNat r)), .val (.int (Int32.ofNat qq)), sb, sc] [])) target := by
        cases hng : own_neg (fun j => cs.getD j 0) a b with
        | false => exact e1 a1 a2 (Int32.ofNat a) (Int32.ofNat b) sa (own_b false) (Int64.ofNat uu) (Int32.ofNat r) (Int32.ofNat qq) sb sc u1 u2 u3 _ _ _ n0 XL hx hZ hw hby hml hown eL Z0 NL (Nat.le_refl _) (Nat.le_refl _) E_a1 F1 g_a1 F2 F3 F4 F5 F6 rfl
        | true => exact e2 a1 a2 (Int32.ofNat a) (Int32.ofNat b) sa (own_b true) (Int64.ofNat uu) (Int32.ofNat r) (Int32.ofNat qq) sb sc u1 u2 u3 _ _ _ n0 XL hx hZ hw hby hml hown eL Z0 NL (Nat.le_refl _) (Nat.le_refl _) E_a1 F1 g_a1 F2 F3 F4 F5 F6 (by decide)
      obtain ⟨TE, LE, XE, NE, KE, PE, stE⟩ := hE
      obtain ⟨fs, hr, hrun, hended, hW, hsame⟩ := XE.leave (v := some (.int 1)) (fun h => by rw [Bd.returns] at h; cases h)
      refine ⟨_, _, pre0 _ ?_, hrun, hended, _, _, rfl, ?_, ⟨_, rfl⟩, hW, hsame.mono (by decide) (by decide)⟩
      · refine stB _ (stL _ ?_)
        refine XS.iload XL.here hx rfl (hb hby d15_147) rfl ?_
        refine XS.ifYes XL.here hx rfl (pc0 := 149) (pc' := 154) rfl (hb hby d15_149) rfl ((if0 _ _).trans (feq z0).2) (by decide) (by decide) ?_
        refine stE _ ?_
        refine XS.iconst XE.here hx rfl (hb hby d15_198) ?_
        exact retN XE hx (t := .boolean) Bd.returns (by simp) (hb hby d15_199) hr
      · exact ⟨rfl, NE, KE, PE⟩
theorem d1_0 : decode method_2_code 0 = .ok (.iload_n 0, 1) := by decide +kernel
theorem d1_1 : decode method_2_code 1 = .ok (.bipush 15, 2) := by decide +kernel
theorem d1_3 : decode method_2_code 3 = .ok (.iand, 1) := by decide +kernel
theorem d1_4 : decode method_2_code 4 = .ok (.istore_n 1, 1) := by decide +kernel
theorem d1_5 : decode method_2_code 5 = .ok (.iload_n 1, 1) := by decide +kernel
theorem d1_6 : decode method_2_code 6 = .ok (.bipush 10, 2) := by decide +kernel
theorem d1_8 : decode method_2_code 8 = .ok (.if_icmp .ge 9, 3) := by decide +kernel
theorem d1_11 : decode method_2_code 11 = .ok (.bipush 48, 2) := by decide +kernel
theorem d1_13 : decode method_2_code 13 = .ok (.iload_n 1, 1) := by decide +kernel
theorem d1_14 : decode method_2_code 14 = .ok (.iadd, 1) := by decide +kernel
theorem d1_15 : decode method_2_code 15 = .ok (.i2c, 1) := by decide +kernel
theorem d1_16 : decode method_2_code 16 = .ok (.ireturn, 1) := by decide +kernel
theorem pn_1 : plainName "com/example/bandmark/bandmark/PlainDecimalReadPinLaw" = true := by first | (simp [plainName, overriddenIn]; done) | decide +kernel
theorem ef_1 (m : MethodId) (x0 : Int32) : entryFrame m #[(.int x0)] 2 = mkF m 0 #[.val (.int x0), .unset] [] := by first | (simp [entryFrame, mkF, argsToLocals, Value.category]; done) | rfl
set_option maxRecDepth 65536 in
set_option maxHeartbeats 40000000 in
theorem r1a (l : Launch) (Z : State) (a0 : Array Value) (hw : ∀ d ∈ tables_1, d.before a0 Z = true) (ws : List Jvm.Cond) (p1 : Int32) (h0 : Heap) (n0 : Nat) (Z0 : n0 ≤ h0.size) (hc8 : (p1 &&& (15 : Int32)) < (10 : Int32)) :
    MetFree l (⟨"com/example/bandmark/bandmark/PlainDecimalReadPinLaw", "ch", "(I)C"⟩ : MethodName) (head1 (Jvm.Cond.code (⟨"com/example/bandmark/bandmark/PlainDecimalReadPinLaw", "ch", "(I)C"⟩ : MethodName) method_2_code 2 (some .char) :: ws) ({ frames := 0, cells := 0, slots := 0, locals := 0 } : Room)) (fun a U => a = #[(.int p1)] ∧ Z.Warmed39 U.vm ∧ U.heap = h0) (fun _ _ _ _ _ => True) (fun _ U o U' => ∃ v L, o = .returned v ∧ QR (some (.int (nar .char (((48 : Int32) + (p1 &&& (15 : Int32))).toUInt32.toUInt16.toUInt32.toInt32)))) h0 n0 v U'.heap L ∧ FrameEnd U o U' L ({ frames := 0, cells := 0, slots := 0, locals := 0 } : Room).cells ({ frames := 0, cells := 0, slots := 0, locals := 0 } : Room).slots) := by
  refine MetFree.of_bodySF (plainFor_of_name pn_1) hisR ?_
  intro p e s m args below meth c s₁ Bd hml0 hP hK
  obtain ⟨rfl, hZ, hh⟩ := hP
  have hx := Bd.exec
  have hby := Bd.bytes
  have hml : c.maxLocals = 2 := hml0
  have hown : s.vm.findClass "com/example/bandmark/bandmark/PlainDecimalReadPinLaw" = some m.cls := findClass_of_methodNamed Bd.named
  have hnm := (name_of_methodNamed Bd.named Bd.method).1
  have X0 : Stand p l e ({ frames := 0, cells := 0, slots := 0, locals := 0 } : Room) s m #[(.int p1)] below meth c s₁ [] 0 0 := Stand.of_body Bd
  have e0 : s₁.heap = h0 := by rw [← hh, Bd.state]; rfl
  have N0 := Fr.nil n0
  have pre0 : ∀ t, Steps p.tables e below (s₁.setTop (mkF m 0 #[.val (.int p1), .unset] [])) t → Steps p.tables e below (s₁.setTop (entryFrame m #[(.int p1)] 2)) t := fun t k => castTop (ef_1 m p1) k
  obtain ⟨fs, hr, hrun, hended, hW, hsame⟩ := X0.leave (v := some (.int (nar .char (((48 : Int32) + (p1 &&& (15 : Int32))).toUInt32.toUInt16.toUInt32.toInt32)))) (fun h => by rw [Bd.returns] at h; cases h)
  refine ⟨_, _, pre0 _ ?_, hrun, hended, _, _, rfl, ?_, ⟨_, rfl⟩, hW, hsame.mono (by decide) (by decide)⟩
  · refine XS.iloadN X0.here hx rfl (hb hby d1_0) rfl ?_
    refine XS.bipush X0.here hx rfl (hb hby d1_1) ?_
    refine XS.iand X0.here hx rfl (hb hby d1_3) rfl ?_
    refine XS.istoreN X0.here hx rfl (hb hby d1_4) rfl (l' := #[.val (.int p1), .val (.int (p1 &&& (15 : Int32)))]) rfl ?_
    refine XS.iloadN X0.here hx rfl (hb hby d1_5) rfl ?_
    refine XS.bipush X0.here hx rfl (hb hby d1_6) ?_
    refine XS.icmpNo X0.here hx rfl (hb hby d1_8) rfl (tlt hc8).2.1 ?_
    refine XS.bipush X0.here hx rfl (hb hby d1_11) ?_
    refine XS.iloadN X0.here hx rfl (hb hby d1_13) rfl ?_
    refine XS.iadd X0.here hx rfl (hb hby d1_14) rfl ?_
    refine XS.i2c X0.here hx rfl (hb hby d1_15) rfl ?_
    exact retN X0 hx (t := .char) Bd.returns (by simp) (hb hby d1_16) hr
  · show QR (some (.int (nar .char (((48 : Int32) + (p1 &&& (15 : Int32))).toUInt32.toUInt16.toUInt32.toInt32)))) h0 n0 _ s₁.heap _
    rw [e0]
    exact ⟨rfl, N0, rfl⟩
theorem d1_17 : decode method_2_code 17 = .ok (.iload_n 1, 1) := by decide +kernel
theorem d1_18 : decode method_2_code 18 = .ok (.bipush 10, 2) := by decide +kernel
theorem d1_20 : decode method_2_code 20 = .ok (.if_icmp .ne 6, 3) := by decide +kernel
theorem d1_23 : decode method_2_code 23 = .ok (.bipush 46, 2) := by decide +kernel
theorem d1_25 : decode method_2_code 25 = .ok (.ireturn, 1) := by decide +kernel
set_option maxRecDepth 65536 in
set_option maxHeartbeats 40000000 in
theorem r1b (l : Launch) (Z : State) (a0 : Array Value) (hw : ∀ d ∈ tables_1, d.before a0 Z = true) (ws : List Jvm.Cond) (p1 : Int32) (h0 : Heap) (n0 : Nat) (Z0 : n0 ≤ h0.size) (hc8 : ¬ ((p1 &&& (15 : Int32)) < (10 : Int32))) (hc20 : (p1 &&& (15 : Int32)) = (10 : Int32)) :
    MetFree l (⟨"com/example/bandmark/bandmark/PlainDecimalReadPinLaw", "ch", "(I)C"⟩ : MethodName) (head1 (Jvm.Cond.code (⟨"com/example/bandmark/bandmark/PlainDecimalReadPinLaw", "ch", "(I)C"⟩ : MethodName) method_2_code 2 (some .char) :: ws) ({ frames := 0, cells := 0, slots := 0, locals := 0 } : Room)) (fun a U => a = #[(.int p1)] ∧ Z.Warmed39 U.vm ∧ U.heap = h0) (fun _ _ _ _ _ => True) (fun _ U o U' => ∃ v L, o = .returned v ∧ QR (some (.int 46)) h0 n0 v U'.heap L ∧ FrameEnd U o U' L ({ frames := 0, cells := 0, slots := 0, locals := 0 } : Room).cells ({ frames := 0, cells := 0, slots := 0, locals := 0 } : Room).slots) := by
  refine MetFree.of_bodySF (plainFor_of_name pn_1) hisR ?_
  intro p e s m args below meth c s₁ Bd hml0 hP hK
  obtain ⟨rfl, hZ, hh⟩ := hP
  have hx := Bd.exec
  have hby := Bd.bytes
  have hml : c.maxLocals = 2 := hml0
  have hown : s.vm.findClass "com/example/bandmark/bandmark/PlainDecimalReadPinLaw" = some m.cls := findClass_of_methodNamed Bd.named
  have hnm := (name_of_methodNamed Bd.named Bd.method).1
  have X0 : Stand p l e ({ frames := 0, cells := 0, slots := 0, locals := 0 } : Room) s m #[(.int p1)] below meth c s₁ [] 0 0 := Stand.of_body Bd
  have e0 : s₁.heap = h0 := by rw [← hh, Bd.state]; rfl
  have N0 := Fr.nil n0
  have pre0 : ∀ t, Steps p.tables e below (s₁.setTop (mkF m 0 #[.val (.int p1), .unset] [])) t → Steps p.tables e below (s₁.setTop (entryFrame m #[(.int p1)] 2)) t := fun t k => castTop (ef_1 m p1) k
  obtain ⟨fs, hr, hrun, hended, hW, hsame⟩ := X0.leave (v := some (.int 46)) (fun h => by rw [Bd.returns] at h; cases h)
  refine ⟨_, _, pre0 _ ?_, hrun, hended, _, _, rfl, ?_, ⟨_, rfl⟩, hW, hsame.mono (by decide) (by decide)⟩
  · refine XS.iloadN X0.here hx rfl (hb hby d1_0) rfl ?_
    refine XS.bipush X0.here hx rfl (hb hby d1_1) ?_
    refine XS.iand X0.here hx rfl (hb hby d1_3) rfl ?_
    refine XS.istoreN X0.here hx rfl (hb hby d1_4) rfl (l' := #[.val (.int p1), .val (.int (p1 &&& (15 : Int32)))]) rfl ?_
    refine XS.iloadN X0.here hx rfl (hb hby d1_5) rfl ?_
    refine XS.bipush X0.here hx rfl (hb hby d1_6) ?_
    refine XS.icmpYes X0.here hx rfl (pc0 := 8) (pc' := 17) rfl (hb hby d1_8) rfl (flt hc8).2.1 (by decide) (by decide) ?_
    refine XS.iloadN X0.here hx rfl (hb hby d1_17) rfl ?_
    refine XS.bipush X0.here hx rfl (hb hby d1_18) ?_
    refine XS.icmpNo X0.here hx rfl (hb hby d1_20) rfl (teq hc20).2 ?_
    refine XS.bipush X0.here hx rfl (hb hby d1_23) ?_
    exact retN X0 hx (t := .char) Bd.returns (by simp) (hb hby d1_25) hr
  · show QR (some (.int 46)) h0 n0 _ s₁.heap _
    rw [e0]
    exact ⟨rfl, N0, rfl⟩
theorem d1_26 : decode method_2_code 26 = .ok (.iload_n 1, 1) := by decide +kernel
theorem d1_27 : decode method_2_code 27 = .ok (.bipush 11, 2) := by decide +kernel
theorem d1_29 : decode method_2_code 29 = .ok (.if_icmp .ne 6, 3) := by decide +kernel
theorem d1_32 : decode method_2_code 32 = .ok (.bipush 45, 2) := by decide +kernel
theorem d1_34 : decode method_2_code 34 = .ok (.ireturn, 1) := by decide +kernel
set_option maxRecDepth 65536 in
set_option maxHeartbeats 40000000 in
theorem r1c (l : Launch) (Z : State) (a0 : Array Value) (hw : ∀ d ∈ tables_1, d.before a0 Z = true) (ws : List Jvm.Cond) (p1 : Int32) (h0 : Heap) (n0 : Nat) (Z0 : n0 ≤ h0.size) (hc8 : ¬ ((p1 &&& (15 : Int32)) < (10 : Int32))) (hc20 : ¬ ((p1 &&& (15 : Int32)) = (10 : Int32))) (hc29 : (p1 &&& (15 : Int32)) = (11 : Int32)) :
    MetFree l (⟨"com/example/bandmark/bandmark/PlainDecimalReadPinLaw", "ch", "(I)C"⟩ : MethodName) (head1 (Jvm.Cond.code (⟨"com/example/bandmark/bandmark/PlainDecimalReadPinLaw", "ch", "(I)C"⟩ : MethodName) method_2_code 2 (some .char) :: ws) ({ frames := 0, cells := 0, slots := 0, locals := 0 } : Room)) (fun a U => a = #[(.int p1)] ∧ Z.Warmed39 U.vm ∧ U.heap = h0) (fun _ _ _ _ _ => True) (fun _ U o U' => ∃ v L, o = .returned v ∧ QR (some (.int 45)) h0 n0 v U'.heap L ∧ FrameEnd U o U' L ({ frames := 0, cells := 0, slots := 0, locals := 0 } : Room).cells ({ frames := 0, cells := 0, slots := 0, locals := 0 } : Room).slots) := by
  refine MetFree.of_bodySF (plainFor_of_name pn_1) hisR ?_
  intro p e s m args below meth c s₁ Bd hml0 hP hK
  obtain ⟨rfl, hZ, hh⟩ := hP
  have hx := Bd.exec
  have hby := Bd.bytes
  have hml : c.maxLocals = 2 := hml0
  have hown : s.vm.findClass "com/example/bandmark/bandmark/PlainDecimalReadPinLaw" = some m.cls := findClass_of_methodNamed Bd.named
  have hnm := (name_of_methodNamed Bd.named Bd.method).1
  have X0 : Stand p l e ({ frames := 0, cells := 0, slots := 0, locals := 0 } : Room) s m #[(.int p1)] below meth c s₁ [] 0 0 := Stand.of_body Bd
  have e0 : s₁.heap = h0 := by rw [← hh, Bd.state]; rfl
  have N0 := Fr.nil n0
  have pre0 : ∀ t, Steps p.tables e below (s₁.setTop (mkF m 0 #[.val (.int p1), .unset] [])) t → Steps p.tables e below (s₁.setTop (entryFrame m #[(.int p1)] 2)) t := fun t k => castTop (ef_1 m p1) k
  obtain ⟨fs, hr, hrun, hended, hW, hsame⟩ := X0.leave (v := some (.int 45)) (fun h => by rw [Bd.returns] at h; cases h)
  refine ⟨_, _, pre0 _ ?_, hrun, hended, _, _, rfl, ?_, ⟨_, rfl⟩, hW, hsame.mono (by decide) (by decide)⟩
  · refine XS.iloadN X0.here hx rfl (hb hby d1_0) rfl ?_
    refine XS.bipush X0.here hx rfl (hb hby d1_1) ?_
    refine XS.iand X0.here hx rfl (hb hby d1_3) rfl ?_
    refine XS.istoreN X0.here hx rfl (hb hby d1_4) rfl (l' := #[.val (.int p1), .val (.int (p1 &&& (15 : Int32)))]) rfl ?_
    refine XS.iloadN X0.here hx rfl (hb hby d1_5) rfl ?_
    refine XS.bipush X0.here hx rfl (hb hby d1_6) ?_
    refine XS.icmpYes X0.here hx rfl (pc0 := 8) (pc' := 17) rfl (hb hby d1_8) rfl (flt hc8).2.1 (by decide) (by decide) ?_
    refine XS.iloadN X0.here hx rfl (hb hby d1_17) rfl ?_
    refine XS.bipush X0.here hx rfl (hb hby d1_18) ?_
    refine XS.icmpYes X0.here hx rfl (pc0 := 20) (pc' := 26) rfl (hb hby d1_20) rfl (feq hc20).2 (by decide) (by decide) ?_
    refine XS.iloadN X0.here hx rfl (hb hby d1_26) rfl ?_
    refine XS.bipush X0.here hx rfl (hb hby d1_27) ?_
    refine XS.icmpNo X0.here hx rfl (hb hby d1_29) rfl (teq hc29).2 ?_
    refine XS.bipush X0.here hx rfl (hb hby d1_32) ?_
    exact retN X0 hx (t := .char) Bd.returns (by simp) (hb hby d1_34) hr
  · show QR (some (.int 45)) h0 n0 _ s₁.heap _
    rw [e0]
    exact ⟨rfl, N0, rfl⟩
theorem d1_35 : decode method_2_code 35 = .ok (.iload_n 1, 1) := by decide +kernel
theorem d1_36 : decode method_2_code 36 = .ok (.bipush 12, 2) := by decide +kernel
theorem d1_38 : decode method_2_code 38 = .ok (.if_icmp .ne 6, 3) := by decide +kernel
theorem d1_41 : decode method_2_code 41 = .ok (.bipush 43, 2) := by decide +kernel
theorem d1_43 : decode method_2_code 43 = .ok (.ireturn, 1) := by decide +kernel
set_option maxRecDepth 65536 in
set_option maxHeartbeats 40000000 in
theorem r1d (l : Launch) (Z : State) (a0 : Array Value) (hw : ∀ d ∈ tables_1, d.before a0 Z = true) (ws : List Jvm.Cond) (p1 : Int32) (h0 : Heap) (n0 : Nat) (Z0 : n0 ≤ h0.size) (hc8 : ¬ ((p1 &&& (15 : Int32)) < (10 : Int32))) (hc20 : ¬ ((p1 &&& (15 : Int32)) = (10 : Int32))) (hc29 : ¬ ((p1 &&& (15 : Int32)) = (11 : Int32))) (hc38 : (p1 &&& (15 : Int32)) = (12 : Int32)) :
    MetFree l (⟨"com/example/bandmark/bandmark/PlainDecimalReadPinLaw", "ch", "(I)C"⟩ : MethodName) (head1 (Jvm.Cond.code (⟨"com/example/bandmark/bandmark/PlainDecimalReadPinLaw", "ch", "(I)C"⟩ : MethodName) method_2_code 2 (some .char) :: ws) ({ frames := 0, cells := 0, slots := 0, locals := 0 } : Room)) (fun a U => a = #[(.int p1)] ∧ Z.Warmed39 U.vm ∧ U.heap = h0) (fun _ _ _ _ _ => True) (fun _ U o U' => ∃ v L, o = .returned v ∧ QR (some (.int 43)) h0 n0 v U'.heap L ∧ FrameEnd U o U' L ({ frames := 0, cells := 0, slots := 0, locals := 0 } : Room).cells ({ frames := 0, cells := 0, slots := 0, locals := 0 } : Room).slots) := by
  refine MetFree.of_bodySF (plainFor_of_name pn_1) hisR ?_
  intro p e s m args below meth c s₁ Bd hml0 hP hK
  obtain ⟨rfl, hZ, hh⟩ := hP
  have hx := Bd.exec
  have hby := Bd.bytes
  have hml : c.maxLocals = 2 := hml0
  have hown : s.vm.findClass "com/example/bandmark/bandmark/PlainDecimalReadPinLaw" = some m.cls := findClass_of_methodNamed Bd.named
  have hnm := (name_of_methodNamed Bd.named Bd.method).1
  have X0 : Stand p l e ({ frames := 0, cells := 0, slots := 0, locals := 0 } : Room) s m #[(.int p1)] below meth c s₁ [] 0 0 := Stand.of_body Bd
  have e0 : s₁.heap = h0 := by rw [← hh, Bd.state]; rfl
  have N0 := Fr.nil n0
  have pre0 : ∀ t, Steps p.tables e below (s₁.setTop (mkF m 0 #[.val (.int p1), .unset] [])) t → Steps p.tables e below (s₁.setTop (entryFrame m #[(.int p1)] 2)) t := fun t k => castTop (ef_1 m p1) k
  obtain ⟨fs, hr, hrun, hended, hW, hsame⟩ := X0.leave (v := some (.int 43)) (fun h => by rw [Bd.returns] at h; cases h)
  refine ⟨_, _, pre0 _ ?_, hrun, hended, _, _, rfl, ?_, ⟨_, rfl⟩, hW, hsame.mono (by decide) (by decide)⟩
  · refine XS.iloadN X0.here hx rfl (hb hby d1_0) rfl ?_
    refine XS.bipush X0.here hx rfl (hb hby d1_1) ?_
    refine XS.iand X0.here hx rfl (hb hby d1_3) rfl ?_
    refine XS.istoreN X0.here hx rfl (hb hby d1_4) rfl (l' := #[.val (.int p1), .val (.int (p1 &&& (15 : Int32)))]) rfl ?_
    refine XS.iloadN X0.here hx rfl (hb hby d1_5) rfl ?_
    refine XS.bipush X0.here hx rfl (hb hby d1_6) ?_
    refine XS.icmpYes X0.here hx rfl (pc0 := 8) (pc' := 17) rfl (hb hby d1_8) rfl (flt hc8).2.1 (by decide) (by decide) ?_
    refine XS.iloadN X0.here hx rfl (hb hby d1_17) rfl ?_
    refine XS.bipush X0.here hx rfl (hb hby d1_18) ?_
    refine XS.icmpYes X0.here hx rfl (pc0 := 20) (pc' := 26) rfl (hb hby d1_20) rfl (feq hc20).2 (by decide) (by decide) ?_
    refine XS.iloadN X0.here hx rfl (hb hby d1_26) rfl ?_
    refine XS.bipush X0.here hx rfl (hb hby d1_27) ?_
    refine XS.icmpYes X0.here hx rfl (pc0 := 29) (pc' := 35) rfl (hb hby d1_29) rfl (feq hc29).2 (by decide) (by decide) ?_
    refine XS.iloadN X0.here hx rfl (hb hby d1_35) rfl ?_
    refine XS.bipush X0.here hx rfl (hb hby d1_36) ?_
    refine XS.icmpNo X0.here hx rfl (hb hby d1_38) rfl (teq hc38).2 ?_
    refine XS.bipush X0.here hx rfl (hb hby d1_41) ?_
    exact retN X0 hx (t := .char) Bd.returns (by simp) (hb hby d1_43) hr
  · show QR (some (.int 43)) h0 n0 _ s₁.heap _
    rw [e0]
    exact ⟨rfl, N0, rfl⟩
theorem d1_44 : decode method_2_code 44 = .ok (.iload_n 0, 1) := by decide +kernel
theorem d1_45 : decode method_2_code 45 = .ok (.iconst 4, 1) := by decide +kernel
theorem d1_46 : decode method_2_code 46 = .ok (.iushr, 1) := by decide +kernel
theorem d1_47 : decode method_2_code 47 = .ok (.ldc 7, 2) := by decide +kernel
theorem d1_49 : decode method_2_code 49 = .ok (.iand, 1) := by decide +kernel
theorem d1_50 : decode method_2_code 50 = .ok (.i2c, 1) := by decide +kernel
theorem d1_51 : decode method_2_code 51 = .ok (.ireturn, 1) := by decide +kernel
set_option maxRecDepth 65536 in
set_option maxHeartbeats 40000000 in
theorem r1e (l : Launch) (Z : State) (a0 : Array Value) (hw : ∀ d ∈ tables_1, d.before a0 Z = true) (ws : List Jvm.Cond) (p1 : Int32) (h0 : Heap) (n0 : Nat) (Z0 : n0 ≤ h0.size) (hc8 : ¬ ((p1 &&& (15 : Int32)) < (10 : Int32))) (hc20 : ¬ ((p1 &&& (15 : Int32)) = (10 : Int32))) (hc29 : ¬ ((p1 &&& (15 : Int32)) = (11 : Int32))) (hc38 : ¬ ((p1 &&& (15 : Int32)) = (12 : Int32))) :
    MetFree l (⟨"com/example/bandmark/bandmark/PlainDecimalReadPinLaw", "ch", "(I)C"⟩ : MethodName) (head1 (Jvm.Cond.code (⟨"com/example/bandmark/bandmark/PlainDecimalReadPinLaw", "ch", "(I)C"⟩ : MethodName) method_2_code 2 (some .char) :: ws) ({ frames := 0, cells := 0, slots := 0, locals := 0 } : Room)) (fun a U => a = #[(.int p1)] ∧ Z.Warmed39 U.vm ∧ U.heap = h0) (fun _ _ _ _ _ => True) (fun _ U o U' => ∃ v L, o = .returned v ∧ QR (some (.int (nar .char ((((p1.toUInt32 >>> ((4 : Int32) &&& 31).toUInt32).toInt32) &&& (65535 : Int32)).toUInt32.toUInt16.toUInt32.toInt32)))) h0 n0 v U'.heap L ∧ FrameEnd U o U' L ({ frames := 0, cells := 0, slots := 0, locals := 0 } : Room).cells ({ frames := 0, cells := 0, slots := 0, locals := 0 } : Room).slots) := by
  refine MetFree.of_bodySF (plainFor_of_name pn_1) hisR ?_
  intro p e s m args below meth c s₁ Bd hml0 hP hK
  obtain ⟨rfl, hZ, hh⟩ := hP
  have hx := Bd.exec
  have hby := Bd.bytes
  have hml : c.maxLocals = 2 := hml0
  have hown : s.vm.findClass "com/example/bandmark/bandmark/PlainDecimalReadPinLaw" = some m.cls := findClass_of_methodNamed Bd.named
  have hnm := (name_of_methodNamed Bd.named Bd.method).1
  have X0 : Stand p l e ({ frames := 0, cells := 0, slots := 0, locals := 0 } : Room) s m #[(.int p1)] below meth c s₁ [] 0 0 := Stand.of_body Bd
  have e0 : s₁.heap = h0 := by rw [← hh, Bd.state]; rfl
  have N0 := Fr.nil n0
  have pre0 : ∀ t, Steps p.tables e below (s₁.setTop (mkF m 0 #[.val (.int p1), .unset] [])) t → Steps p.tables e below (s₁.setTop (entryFrame m #[(.int p1)] 2)) t := fun t k => castTop (ef_1 m p1) k
  obtain ⟨fs, hr, hrun, hended, hW, hsame⟩ := X0.leave (v := some (.int (nar .char ((((p1.toUInt32 >>> ((4 : Int32) &&& 31).toUInt32).toInt32) &&& (65535 : Int32)).toUInt32.toUInt16.toUInt32.toInt32)))) (fun h => by rw [Bd.returns] at h; cases h)
  refine ⟨_, _, pre0 _ ?_, hrun, hended, _, _, rfl, ?_, ⟨_, rfl⟩, hW, hsame.mono (by decide) (by decide)⟩
  · refine XS.iloadN X0.here hx rfl (hb hby d1_0) rfl ?_
    refine XS.bipush X0.here hx rfl (hb hby d1_1) ?_
    refine XS.iand X0.here hx rfl (hb hby d1_3) rfl ?_
    refine XS.istoreN X0.here hx rfl (hb hby d1_4) rfl (l' := #[.val (.int p1), .val (.int (p1 &&& (15 : Int32)))]) rfl ?_
    refine XS.iloadN X0.here hx rfl (hb hby d1_5) rfl ?_
    refine XS.bipush X0.here hx rfl (hb hby d1_6) ?_
    refine XS.icmpYes X0.here hx rfl (pc0 := 8) (pc' := 17) rfl (hb hby d1_8) rfl (flt hc8).2.1 (by decide) (by decide) ?_
    refine XS.iloadN X0.here hx rfl (hb hby d1_17) rfl ?_
    refine XS.bipush X0.here hx rfl (hb hby d1_18) ?_
    refine XS.icmpYes X0.here hx rfl (pc0 := 20) (pc' := 26) rfl (hb hby d1_20) rfl (feq hc20).2 (by decide) (by decide) ?_
    refine XS.iloadN X0.here hx rfl (hb hby d1_26) rfl ?_
    refine XS.bipush X0.here hx rfl (hb hby d1_27) ?_
    refine XS.icmpYes X0.here hx rfl (pc0 := 29) (pc' := 35) rfl (hb hby d1_29) rfl (feq hc29).2 (by decide) (by decide) ?_
    refine XS.iloadN X0.here hx rfl (hb hby d1_35) rfl ?_
    refine XS.bipush X0.here hx rfl (hb hby d1_36) ?_
    refine XS.icmpYes X0.here hx rfl (pc0 := 38) (pc' := 44) rfl (hb hby d1_38) rfl (feq hc38).2 (by decide) (by decide) ?_
    refine XS.iloadN X0.here hx rfl (hb hby d1_44) rfl ?_
    refine XS.iconst X0.here hx rfl (hb hby d1_45) ?_
    refine XS.iushr X0.here hx rfl (hb hby d1_46) rfl ?_
    refine X0.ldcInt hx hown (mvT hZ (own_W hw 126 rfl)) (g := (mkF m 47 #[.val (.int p1), .val (.int (p1 &&& (15 : Int32)))] [(.int ((p1.toUInt32 >>> ((4 : Int32) &&& 31).toUInt32).toInt32))])) rfl (hb hby d1_47) _ ?_
    refine XS.iand X0.here hx rfl (hb hby d1_49) rfl ?_
    refine XS.i2c X0.here hx rfl (hb hby d1_50) rfl ?_
    exact retN X0 hx (t := .char) Bd.returns (by simp) (hb hby d1_51) hr
  · show QR (some (.int (nar .char ((((p1.toUInt32 >>> ((4 : Int32) &&& 31).toUInt32).toInt32) &&& (65535 : Int32)).toUInt32.toUInt16.toUInt32.toInt32)))) h0 n0 _ s₁.heap _
    rw [e0]
    exact ⟨rfl, N0, rfl⟩
def own_c (p1 : Int32) : Int32 := if (p1 &&& (15 : Int32)) < (10 : Int32) then nar .char (((48 : Int32) + (p1 &&& (15 : Int32))).toUInt32.toUInt16.toUInt32.toInt32) else if (p1 &&& (15 : Int32)) = (10 : Int32) then 46 else if (p1 &&& (15 : Int32)) = (11 : Int32) then 45 else if (p1 &&& (15 : Int32)) = (12 : Int32) then 43 else nar .char ((((p1.toUInt32 >>> ((4 : Int32) &&& 31).toUInt32).toInt32) &&& (65535 : Int32)).toUInt32.toUInt16.toUInt32.toInt32)
theorem r1 (l : Launch) (Z : State) (a0 : Array Value) (hw : ∀ d ∈ tables_1, d.before a0 Z = true) (ws : List Jvm.Cond) (p1 : Int32) (h0 : Heap) (n0 : Nat) (Z0 : n0 ≤ h0.size) :
    MetFree l (⟨"com/example/bandmark/bandmark/PlainDecimalReadPinLaw", "ch", "(I)C"⟩ : MethodName) (head1 (Jvm.Cond.code (⟨"com/example/bandmark/bandmark/PlainDecimalReadPinLaw", "ch", "(I)C"⟩ : MethodName) method_2_code 2 (some .char) :: ws) ({ frames := 0, cells := 0, slots := 0, locals := 0 } : Room)) (fun a U => a = #[(.int p1)] ∧ Z.Warmed39 U.vm ∧ U.heap = h0) (fun _ _ _ _ _ => True) (fun _ U o U' => ∃ v L, o = .returned v ∧ QR (some (.int (own_c p1))) h0 n0 v U'.heap L ∧ FrameEnd U o U' L ({ frames := 0, cells := 0, slots := 0, locals := 0 } : Room).cells ({ frames := 0, cells := 0, slots := 0, locals := 0 } : Room).slots) := by
  by_cases h1 : (p1 &&& (15 : Int32)) < (10 : Int32)
  · rw [show own_c p1 = _ from if_pos h1]; exact r1a l Z a0 hw ws p1 h0 n0 Z0 h1
  by_cases h2 : (p1 &&& (15 : Int32)) = (10 : Int32)
  · rw [show own_c p1 = _ from (if_neg h1).trans (if_pos h2)]; exact r1b l Z a0 hw ws p1 h0 n0 Z0 h1 h2
  by_cases h3 : (p1 &&& (15 : Int32)) = (11 : Int32)
  · rw [show own_c p1 = _ from (if_neg h1).trans ((if_neg h2).trans (if_pos h3))]; exact r1c l Z a0 hw ws p1 h0 n0 Z0 h1 h2 h3
  by_cases h4 : (p1 &&& (15 : Int32)) = (12 : Int32)
  · rw [show own_c p1 = _ from (if_neg h1).trans ((if_neg h2).trans ((if_neg h3).trans (if_pos h4)))]; exact r1d l Z a0 hw ws p1 h0 n0 Z0 h1 h2 h3 h4
  · rw [show own_c p1 = _ from (if_neg h1).trans ((if_neg h2).trans ((if_neg h3).trans (if_neg h4)))]; exact r1e l Z a0 hw ws p1 h0 n0 Z0 h1 h2 h3 h4
theorem own_crng (x : Int32) : ¬ nar .char x < 0 ∧ ¬ (65535 : Int32) < nar .char x := by
  have e : (nar .char x).toInt = (x.toUInt32.toUInt16.toNat : Int) := by
    show (x.toUInt32.toUInt16.toUInt32.toInt32).toInt = _
    have h := x.toUInt32.toUInt16.toNat_lt
    rw [Int32.toInt, UInt32.toBitVec_toInt32, BitVec.toInt_eq_toNat_of_lt (by show 2 * x.toUInt32.toUInt16.toUInt32.toNat < 2 ^ 32; rw [UInt16.toNat_toUInt32]; omega)]
    show ((x.toUInt32.toUInt16.toUInt32.toNat : Nat) : Int) = _
    rw [UInt16.toNat_toUInt32]
  have h := x.toUInt32.toUInt16.toNat_lt
  rw [Int32.lt_iff_toInt_lt, Int32.lt_iff_toInt_lt, e]
  have z1 : (0 : Int32).toInt = 0 := by decide
  have z2 : (65535 : Int32).toInt = 65535 := by decide
  omega
theorem d9_0 : decode method_3_code 0 = .ok (.iload_n 1, 1) := by decide +kernel
theorem d9_1 : decode method_3_code 1 = .ok (.iload_n 0, 1) := by decide +kernel
theorem d9_2 : decode method_3_code 2 = .ok (.if_icmp .gt 12, 3) := by decide +kernel
theorem d9_14 : decode method_3_code 14 = .ok (.iconst 0, 1) := by decide +kernel
theorem d9_15 : decode method_3_code 15 = .ok (.ireturn, 1) := by decide +kernel
theorem pn_9 : plainName "com/example/bandmark/bandmark/PlainDecimalReadPinLaw" = true := by first | (simp [plainName, overriddenIn]; done) | decide +kernel
theorem ef_9 (m : MethodId) (x0 : Int32) (x1 : Int32) (x2 : Int32) : entryFrame m #[(.int x0), (.int x1), (.int x2)] 3 = mkF m 0 #[.val (.int x0), .val (.int x1), .val (.int x2)] [] := by first | (simp [entryFrame, mkF, argsToLocals, Value.category]; done) | rfl
set_option maxRecDepth 65536 in
set_option maxHeartbeats 40000000 in
theorem r9a (l : Launch) (Z : State) (a0 : Array Value) (hw : ∀ d ∈ tables_1, d.before a0 Z = true) (ws : List Jvm.Cond) (p1 : Int32) (p2 : Int32) (p3 : Int32) (h0 : Heap) (n0 : Nat) (Z0 : n0 ≤ h0.size) (hc2 : p1 < p2) :
    MetFree l (⟨"com/example/bandmark/bandmark/PlainDecimalReadPinLaw", "in", "(III)Z"⟩ : MethodName) (head1 (Jvm.Cond.code (⟨"com/example/bandmark/bandmark/PlainDecimalReadPinLaw", "in", "(III)Z"⟩ : MethodName) method_3_code 3 (some .boolean) :: ws) ({ frames := 0, cells := 0, slots := 0, locals := 0 } : Room)) (fun a U => a = #[(.int p1), (.int p2), (.int p3)] ∧ Z.Warmed39 U.vm ∧ U.heap = h0) (fun _ _ _ _ _ => True) (fun _ U o U' => ∃ v L, o = .returned v ∧ QR (some (.int 0)) h0 n0 v U'.heap L ∧ FrameEnd U o U' L ({ frames := 0, cells := 0, slots := 0, locals := 0 } : Room).cells ({ frames := 0, cells := 0, slots := 0, locals := 0 } : Room).slots) := by
  refine MetFree.of_bodySF (plainFor_of_name pn_9) hisR ?_
  intro p e s m args below meth c s₁ Bd hml0 hP hK
  obtain ⟨rfl, hZ, hh⟩ := hP
  have hx := Bd.exec
  have hby := Bd.bytes
  have hml : c.maxLocals = 3 := hml0
  have hown : s.vm.findClass "com/example/bandmark/bandmark/PlainDecimalReadPinLaw" = some m.cls := findClass_of_methodNamed Bd.named
  have hnm := (name_of_methodNamed Bd.named Bd.method).1
  have X0 : Stand p l e ({ frames := 0, cells := 0, slots := 0, locals := 0 } : Room) s m #[(.int p1), (.int p2), (.int p3)] below meth c s₁ [] 0 0 := Stand.of_body Bd
  have e0 : s₁.heap = h0 := by rw [← hh, Bd.state]; rfl
  have N0 := Fr.nil n0
  have pre0 : ∀ t, Steps p.tables e below (s₁.setTop (mkF m 0 #[.val (.int p1), .val (.int p2), .val (.int p3)] [])) t → Steps p.tables e below (s₁.setTop (entryFrame m #[(.int p1), (.int p2), (.int p3)] 3)) t := fun t k => castTop (ef_9 m p1 p2 p3) k
  obtain ⟨fs, hr, hrun, hended, hW, hsame⟩ := X0.leave (v := some (.int 0)) (fun h => by rw [Bd.returns] at h; cases h)
  refine ⟨_, _, pre0 _ ?_, hrun, hended, _, _, rfl, ?_, ⟨_, rfl⟩, hW, hsame.mono (by decide) (by decide)⟩
  · refine XS.iloadN X0.here hx rfl (hb hby d9_0) rfl ?_
    refine XS.iloadN X0.here hx rfl (hb hby d9_1) rfl ?_
    refine XS.icmpYes X0.here hx rfl (pc0 := 2) (pc' := 14) rfl (hb hby d9_2) rfl (tlt hc2).2.2.1 (by decide) (by decide) ?_
    refine XS.iconst X0.here hx rfl (hb hby d9_14) ?_
    exact retN X0 hx (t := .boolean) Bd.returns (by simp) (hb hby d9_15) hr
  · show QR (some (.int 0)) h0 n0 _ s₁.heap _
    rw [e0]
    exact ⟨rfl, N0, rfl⟩
theorem d9_5 : decode method_3_code 5 = .ok (.iload_n 0, 1) := by decide +kernel
theorem d9_6 : decode method_3_code 6 = .ok (.iload_n 2, 1) := by decide +kernel
theorem d9_7 : decode method_3_code 7 = .ok (.if_icmp .ge 7, 3) := by decide +kernel
set_option maxRecDepth 65536 in
set_option maxHeartbeats 40000000 in
theorem r9b (l : Launch) (Z : State) (a0 : Array Value) (hw : ∀ d ∈ tables_1, d.before a0 Z = true) (ws : List Jvm.Cond) (p1 : Int32) (p2 : Int32) (p3 : Int32) (h0 : Heap) (n0 : Nat) (Z0 : n0 ≤ h0.size) (hc2 : ¬ (p1 < p2)) (hc7 : ¬ (p1 < p3)) :
    MetFree l (⟨"com/example/bandmark/bandmark/PlainDecimalReadPinLaw", "in", "(III)Z"⟩ : MethodName) (head1 (Jvm.Cond.code (⟨"com/example/bandmark/bandmark/PlainDecimalReadPinLaw", "in", "(III)Z"⟩ : MethodName) method_3_code 3 (some .boolean) :: ws) ({ frames := 0, cells := 0, slots := 0, locals := 0 } : Room)) (fun a U => a = #[(.int p1), (.int p2), (.int p3)] ∧ Z.Warmed39 U.vm ∧ U.heap = h0) (fun _ _ _ _ _ => True) (fun _ U o U' => ∃ v L, o = .returned v ∧ QR (some (.int 0)) h0 n0 v U'.heap L ∧ FrameEnd U o U' L ({ frames := 0, cells := 0, slots := 0, locals := 0 } : Room).cells ({ frames := 0, cells := 0, slots := 0, locals := 0 } : Room).slots) := by
  refine MetFree.of_bodySF (plainFor_of_name pn_9) hisR ?_
  intro p e s m args below meth c s₁ Bd hml0 hP hK
  obtain ⟨rfl, hZ, hh⟩ := hP
  have hx := Bd.exec
  have hby := Bd.bytes
  have hml : c.maxLocals = 3 := hml0
  have hown : s.vm.findClass "com/example/bandmark/bandmark/PlainDecimalReadPinLaw" = some m.cls := findClass_of_methodNamed Bd.named
  have hnm := (name_of_methodNamed Bd.named Bd.method).1
  have X0 : Stand p l e ({ frames := 0, cells := 0, slots := 0, locals := 0 } : Room) s m #[(.int p1), (.int p2), (.int p3)] below meth c s₁ [] 0 0 := Stand.of_body Bd
  have e0 : s₁.heap = h0 := by rw [← hh, Bd.state]; rfl
  have N0 := Fr.nil n0
  have pre0 : ∀ t, Steps p.tables e below (s₁.setTop (mkF m 0 #[.val (.int p1), .val (.int p2), .val (.int p3)] [])) t → Steps p.tables e below (s₁.setTop (entryFrame m #[(.int p1), (.int p2), (.int p3)] 3)) t := fun t k => castTop (ef_9 m p1 p2 p3) k
  obtain ⟨fs, hr, hrun, hended, hW, hsame⟩ := X0.leave (v := some (.int 0)) (fun h => by rw [Bd.returns] at h; cases h)
  refine ⟨_, _, pre0 _ ?_, hrun, hended, _, _, rfl, ?_, ⟨_, rfl⟩, hW, hsame.mono (by decide) (by decide)⟩
  · refine XS.iloadN X0.here hx rfl (hb hby d9_0) rfl ?_
    refine XS.iloadN X0.here hx rfl (hb hby d9_1) rfl ?_
    refine XS.icmpNo X0.here hx rfl (hb hby d9_2) rfl (flt hc2).2.2.1 ?_
    refine XS.iloadN X0.here hx rfl (hb hby d9_5) rfl ?_
    refine XS.iloadN X0.here hx rfl (hb hby d9_6) rfl ?_
    refine XS.icmpYes X0.here hx rfl (pc0 := 7) (pc' := 14) rfl (hb hby d9_7) rfl (flt hc7).2.1 (by decide) (by decide) ?_
    refine XS.iconst X0.here hx rfl (hb hby d9_14) ?_
    exact retN X0 hx (t := .boolean) Bd.returns (by simp) (hb hby d9_15) hr
  · show QR (some (.int 0)) h0 n0 _ s₁.heap _
    rw [e0]
    exact ⟨rfl, N0, rfl⟩
theorem d9_10 : decode method_3_code 10 = .ok (.iconst 1, 1) := by decide +kernel
theorem d9_11 : decode method_3_code 11 = .ok (.goto 4, 3) := by decide +kernel
set_option maxRecDepth 65536 in
set_option maxHeartbeats 40000000 in
theorem r9c (l : Launch) (Z : State) (a0 : Array Value) (hw : ∀ d ∈ tables_1, d.before a0 Z = true) (ws : List Jvm.Cond) (p1 : Int32) (p2 : Int32) (p3 : Int32) (h0 : Heap) (n0 : Nat) (Z0 : n0 ≤ h0.size) (hc2 : ¬ (p1 < p2)) (hc7 : p1 < p3) :
    MetFree l (⟨"com/example/bandmark/bandmark/PlainDecimalReadPinLaw", "in", "(III)Z"⟩ : MethodName) (head1 (Jvm.Cond.code (⟨"com/example/bandmark/bandmark/PlainDecimalReadPinLaw", "in", "(III)Z"⟩ : MethodName) method_3_code 3 (some .boolean) :: ws) ({ frames := 0, cells := 0, slots := 0, locals := 0 } : Room)) (fun a U => a = #[(.int p1), (.int p2), (.int p3)] ∧ Z.Warmed39 U.vm ∧ U.heap = h0) (fun _ _ _ _ _ => True) (fun _ U o U' => ∃ v L, o = .returned v ∧ QR (some (.int 1)) h0 n0 v U'.heap L ∧ FrameEnd U o U' L ({ frames := 0, cells := 0, slots := 0, locals := 0 } : Room).cells ({ frames := 0, cells := 0, slots := 0, locals := 0 } : Room).slots) := by
  refine MetFree.of_bodySF (plainFor_of_name pn_9) hisR ?_
  intro p e s m args below meth c s₁ Bd hml0 hP hK
  obtain ⟨rfl, hZ, hh⟩ := hP
  have hx := Bd.exec
  have hby := Bd.bytes
  have hml : c.maxLocals = 3 := hml0
  have hown : s.vm.findClass "com/example/bandmark/bandmark/PlainDecimalReadPinLaw" = some m.cls := findClass_of_methodNamed Bd.named
  have hnm := (name_of_methodNamed Bd.named Bd.method).1
  have X0 : Stand p l e ({ frames := 0, cells := 0, slots := 0, locals := 0 } : Room) s m #[(.int p1), (.int p2), (.int p3)] below meth c s₁ [] 0 0 := Stand.of_body Bd
  have e0 : s₁.heap = h0 := by rw [← hh, Bd.state]; rfl
  have N0 := Fr.nil n0
  have pre0 : ∀ t, Steps p.tables e below (s₁.setTop (mkF m 0 #[.val (.int p1), .val (.int p2), .val (.int p3)] [])) t → Steps p.tables e below (s₁.setTop (entryFrame m #[(.int p1), (.int p2), (.int p3)] 3)) t := fun t k => castTop (ef_9 m p1 p2 p3) k
  obtain ⟨fs, hr, hrun, hended, hW, hsame⟩ := X0.leave (v := some (.int 1)) (fun h => by rw [Bd.returns] at h; cases h)
  refine ⟨_, _, pre0 _ ?_, hrun, hended, _, _, rfl, ?_, ⟨_, rfl⟩, hW, hsame.mono (by decide) (by decide)⟩
  · refine XS.iloadN X0.here hx rfl (hb hby d9_0) rfl ?_
    refine XS.iloadN X0.here hx rfl (hb hby d9_1) rfl ?_
    refine XS.icmpNo X0.here hx rfl (hb hby d9_2) rfl (flt hc2).2.2.1 ?_
    refine XS.iloadN X0.here hx rfl (hb hby d9_5) rfl ?_
    refine XS.iloadN X0.here hx rfl (hb hby d9_6) rfl ?_
    refine XS.icmpNo X0.here hx rfl (hb hby d9_7) rfl (tlt hc7).2.1 ?_
    refine XS.iconst X0.here hx rfl (hb hby d9_10) ?_
    refine XS.goto X0.here hx rfl (pc0 := 11) (pc' := 15) rfl (hb hby d9_11) (by decide) (by decide) ?_
    exact retN X0 hx (t := .boolean) Bd.returns (by simp) (hb hby d9_15) hr
  · show QR (some (.int 1)) h0 n0 _ s₁.heap _
    rw [e0]
    exact ⟨rfl, N0, rfl⟩
theorem r9n (l : Launch) (Z : State) (a0 : Array Value) (hw : ∀ d ∈ tables_1, d.before a0 Z = true) (ws : List Jvm.Cond) (j st b : Nat) (h0 : Heap) (n0 : Nat) (Z0 : n0 ≤ h0.size) (hj : j < 32) (hs : st < 32) (hb3 : b < 32) (h : ¬ (st ≤ j ∧ j < b)) :
    MetFree l (⟨"com/example/bandmark/bandmark/PlainDecimalReadPinLaw", "in", "(III)Z"⟩ : MethodName) (head1 (Jvm.Cond.code (⟨"com/example/bandmark/bandmark/PlainDecimalReadPinLaw", "in", "(III)Z"⟩ : MethodName) method_3_code 3 (some .boolean) :: ws) ({ frames := 0, cells := 0, slots := 0, locals := 0 } : Room)) (fun a U => a = #[(.int (Int32.ofNat j)), (.int (Int32.ofNat st)), (.int (Int32.ofNat b))] ∧ Z.Warmed39 U.vm ∧ U.heap = h0) (fun _ _ _ _ _ => True) (fun _ U o U' => ∃ v L, o = .returned v ∧ QR (some (.int 0)) h0 n0 v U'.heap L ∧ FrameEnd U o U' L ({ frames := 0, cells := 0, slots := 0, locals := 0 } : Room).cells ({ frames := 0, cells := 0, slots := 0, locals := 0 } : Room).slots) := by
  by_cases h1 : j < st
  · exact r9a l Z a0 hw ws _ _ _ h0 n0 Z0 ((own_lt j st hj hs).mpr h1)
  · exact r9b l Z a0 hw ws _ _ _ h0 n0 Z0 (fun q => h1 ((own_lt j st hj hs).mp q)) (fun q => h ⟨by omega, (own_lt j b hj hb3).mp q⟩)
theorem r9y (l : Launch) (Z : State) (a0 : Array Value) (hw : ∀ d ∈ tables_1, d.before a0 Z = true) (ws : List Jvm.Cond) (j st b : Nat) (h0 : Heap) (n0 : Nat) (Z0 : n0 ≤ h0.size) (hj : j < 32) (hs : st < 32) (hb3 : b < 32) (h : st ≤ j ∧ j < b) :
    MetFree l (⟨"com/example/bandmark/bandmark/PlainDecimalReadPinLaw", "in", "(III)Z"⟩ : MethodName) (head1 (Jvm.Cond.code (⟨"com/example/bandmark/bandmark/PlainDecimalReadPinLaw", "in", "(III)Z"⟩ : MethodName) method_3_code 3 (some .boolean) :: ws) ({ frames := 0, cells := 0, slots := 0, locals := 0 } : Room)) (fun a U => a = #[(.int (Int32.ofNat j)), (.int (Int32.ofNat st)), (.int (Int32.ofNat b))] ∧ Z.Warmed39 U.vm ∧ U.heap = h0) (fun _ _ _ _ _ => True) (fun _ U o U' => ∃ v L, o = .returned v ∧ QR (some (.int 1)) h0 n0 v U'.heap L ∧ FrameEnd U o U' L ({ frames := 0, cells := 0, slots := 0, locals := 0 } : Room).cells ({ frames := 0, cells := 0, slots := 0, locals := 0 } : Room).slots) :=
  r9c l Z a0 hw ws _ _ _ h0 n0 Z0 (fun q => by have := (own_lt j st hj hs).mp q; omega) ((own_lt j b hj hb3).mpr h.2)
theorem d8_0 : decode method_4_code 0 = .ok (.iload_n 1, 1) := by decide +kernel
theorem d8_1 : decode method_4_code 1 = .ok (.iload_n 2, 1) := by decide +kernel
theorem d8_2 : decode method_4_code 2 = .ok (.iload_n 3, 1) := by decide +kernel
theorem d8_3 : decode method_4_code 3 = .ok (.invokestatic 8, 3) := by decide +kernel
theorem d8_6 : decode method_4_code 6 = .ok (.ifCond .eq 23, 3) := by decide +kernel
theorem d8_29 : decode method_4_code 29 = .ok (.iconst 0, 1) := by decide +kernel
theorem d8_30 : decode method_4_code 30 = .ok (.ireturn, 1) := by decide +kernel
theorem pn_8 : plainName "com/example/bandmark/bandmark/PlainDecimalReadPinLaw" = true := by first | (simp [plainName, overriddenIn]; done) | decide +kernel
theorem pd_8_8 : parseMethodDescriptor "(III)Z" = some ⟨[.int, .int, .int], some .boolean⟩ := by decide +kernel
theorem ef_8 (m : MethodId) (x0 : Addr) (x1 : Int32) (x2 : Int32) (x3 : Int32) : entryFrame m #[(.ref x0), (.int x1), (.int x2), (.int x3)] 4 = mkF m 0 #[.val (.ref x0), .val (.int x1), .val (.int x2), .val (.int x3)] [] := by first | (simp [entryFrame, mkF, argsToLocals, Value.category]; done) | rfl
set_option maxRecDepth 65536 in
set_option maxHeartbeats 40000000 in
theorem r8n (l : Launch) (Z : State) (a0 : Array Value) (hw : ∀ d ∈ tables_1, d.before a0 Z = true) (ws : List Jvm.Cond) (a1 : Addr) (j st b : Nat) (h0 : Heap) (n0 : Nat) (Z0 : n0 ≤ h0.size) (hj : j < 32) (hs : st < 32) (hb3 : b < 32) (hin : ¬ (st ≤ j ∧ j < b)) :
    MetFree l (⟨"com/example/bandmark/bandmark/PlainDecimalReadPinLaw", "dig", "([CIII)I"⟩ : MethodName) (head1 (Jvm.Cond.code (⟨"com/example/bandmark/bandmark/PlainDecimalReadPinLaw", "dig", "([CIII)I"⟩ : MethodName) method_4_code 4 (some .int) :: ws) ({ frames := 1, cells := 0, slots := 0, locals := 14 } : Room)) (fun a U => a = #[(.ref a1), (.int (Int32.ofNat j)), (.int (Int32.ofNat st)), (.int (Int32.ofNat b))] ∧ Z.Warmed39 U.vm ∧ U.heap = h0) (fun _ _ _ _ _ => True) (fun _ U o U' => ∃ v L, o = .returned v ∧ QR (some (.int 0)) h0 n0 v U'.heap L ∧ FrameEnd U o U' L ({ frames := 1, cells := 0, slots := 0, locals := 14 } : Room).cells ({ frames := 1, cells := 0, slots := 0, locals := 14 } : Room).slots) := by
  refine MetFree.of_bodySF (plainFor_of_name pn_8) hisR ?_
  intro p e s m args below meth c s₁ Bd hml0 hP hK
  obtain ⟨rfl, hZ, hh⟩ := hP
  have hx := Bd.exec
  have hby := Bd.bytes
  have hml : c.maxLocals = 4 := hml0
  have hown : s.vm.findClass "com/example/bandmark/bandmark/PlainDecimalReadPinLaw" = some m.cls := findClass_of_methodNamed Bd.named
  have hnm := (name_of_methodNamed Bd.named Bd.method).1
  have X0 : Stand p l e ({ frames := 1, cells := 0, slots := 0, locals := 14 } : Room) s m #[(.ref a1), (.int (Int32.ofNat j)), (.int (Int32.ofNat st)), (.int (Int32.ofNat b))] below meth c s₁ [] 0 0 := Stand.of_body Bd
  have e0 : s₁.heap = h0 := by rw [← hh, Bd.state]; rfl
  have N0 := Fr.nil n0
  have pre0 : ∀ t, Steps p.tables e below (s₁.setTop (mkF m 0 #[.val (.ref a1), .val (.int (Int32.ofNat j)), .val (.int (Int32.ofNat st)), .val (.int (Int32.ofNat b))] [])) t → Steps p.tables e below (s₁.setTop (entryFrame m #[(.ref a1), (.int (Int32.ofNat j)), (.int (Int32.ofNat st)), (.int (Int32.ofNat b))] 4)) t := fun t k => castTop (ef_8 m a1 (Int32.ofNat j) (Int32.ofNat st) (Int32.ofNat b)) k
  obtain ⟨_, _, ⟨T5, L5, k5, n5⟩, -, X5, ⟨Lc5, hQ5, l5, y5, z5⟩, st5⟩ := Jvm.LawKit.callS X0 hx (y := (⟨"com/example/bandmark/bandmark/PlainDecimalReadPinLaw", "in", "(III)Z"⟩ : MethodName)) hown (mvT hZ (own_W hw 39 rfl)) (mvT hZ (own_W hw 40 rfl)) (mvT hZ (own_W hw 3 rfl)) (mvT hZ (own_W hw 41 rfl)) (by decide) (backOf (W := 0) (r9n l Z a0 hw [] j st b  h0 n0 Z0 hj hs hb3 hin) hZ (own_W hw 41 rfl) (own_W hw 3 rfl) (by decide) (by decide)) (g := (mkF m 3 #[.val (.ref a1), .val (.int (Int32.ofNat j)), .val (.int (Int32.ofNat st)), .val (.int (Int32.ofNat b))] [(.int (Int32.ofNat b)), (.int (Int32.ofNat st)), (.int (Int32.ofNat j))])) rfl (by rw [hml]; rfl) (argsL := [(.int (Int32.ofNat j)), (.int (Int32.ofNat st)), (.int (Int32.ofNat b))]) (rest := []) (lenOf pd_8_8 rfl) rfl (by show 2 * 0 + _ ≤ _; exact Nat.le_of_eq rfl) (hb hby d8_3) (fun _ _ => ⟨rfl, e0, (by decide : 0 + 0 ≤ _), (by decide : 0 + 0 ≤ _)⟩)
  dsimp only [Pt.U, Pt.locs, Pt.cells, Pt.slots] at X5 l5 y5 z5 st5 hQ5
  subst l5 y5 z5
  obtain ⟨rfl, N5q, e5⟩ := hQ5
  have N5 := Fr.app N0 N5q
  obtain ⟨fs, hr, hrun, hended, hW, hsame⟩ := X5.leave (v := some (.int 0)) (fun h => by rw [Bd.returns] at h; cases h)
  refine ⟨_, _, pre0 _ ?_, hrun, hended, _, _, rfl, ?_, ⟨_, rfl⟩, hW, hsame.mono (by decide) (by decide)⟩
  · refine XS.iloadN X0.here hx rfl (hb hby d8_0) rfl ?_
    refine XS.iloadN X0.here hx rfl (hb hby d8_1) rfl ?_
    refine XS.iloadN X0.here hx rfl (hb hby d8_2) rfl ?_
    refine st5 _ ?_
    refine XS.ifYes X5.here hx rfl (pc0 := 6) (pc' := 29) rfl (hb hby d8_6) rfl ((if0 _ _).trans (teq (rfl : (0 : Int32) = (0 : Int32))).1) (by decide) (by decide) ?_
    refine XS.iconst X5.here hx rfl (hb hby d8_29) ?_
    exact retI X5 hx Bd.returns (hb hby d8_30) hr
  · show QR (some (.int 0)) h0 n0 _ T5.heap _
    rw [e5]
    exact ⟨rfl, N5, rfl⟩
theorem d8_9 : decode method_4_code 9 = .ok (.aload_n 0, 1) := by decide +kernel
theorem d8_10 : decode method_4_code 10 = .ok (.iload_n 1, 1) := by decide +kernel
theorem d8_11 : decode method_4_code 11 = .ok (.caload, 1) := by decide +kernel
theorem d8_12 : decode method_4_code 12 = .ok (.bipush 48, 2) := by decide +kernel
theorem d8_14 : decode method_4_code 14 = .ok (.if_icmp .lt 15, 3) := by decide +kernel
set_option maxRecDepth 65536 in
set_option maxHeartbeats 40000000 in
theorem r8a (l : Launch) (Z : State) (a0 : Array Value) (hw : ∀ d ∈ tables_1, d.before a0 Z = true) (ws : List Jvm.Cond) (a1 : Addr) (w6 : Int32) (cl_a1 : Cell) (j st b : Nat) (h0 : Heap) (n0 : Nat) (Z0 : n0 ≤ h0.size) (Ar_a1 : Arr Z h0 a1 cl_a1 .char) (hin11 : ¬ ((Int32.ofNat j) < 0 ∨ cl_a1.slots.size ≤ ((Int32.ofNat j)).toNatClampNeg)) (hat11 : cl_a1.slots[((Int32.ofNat j)).toNatClampNeg]? = some (.int w6)) (hc14 : w6 < (48 : Int32)) (hj : j < 32) (hs : st < 32) (hb3 : b < 32) (hin : (st ≤ j ∧ j < b)) :
    MetFree l (⟨"com/example/bandmark/bandmark/PlainDecimalReadPinLaw", "dig", "([CIII)I"⟩ : MethodName) (head1 (Jvm.Cond.code (⟨"com/example/bandmark/bandmark/PlainDecimalReadPinLaw", "dig", "([CIII)I"⟩ : MethodName) method_4_code 4 (some .int) :: ws) ({ frames := 1, cells := 0, slots := 0, locals := 14 } : Room)) (fun a U => a = #[(.ref a1), (.int (Int32.ofNat j)), (.int (Int32.ofNat st)), (.int (Int32.ofNat b))] ∧ Z.Warmed39 U.vm ∧ U.heap = h0) (fun _ _ _ _ _ => True) (fun _ U o U' => ∃ v L, o = .returned v ∧ QR (some (.int 0)) h0 n0 v U'.heap L ∧ FrameEnd U o U' L ({ frames := 1, cells := 0, slots := 0, locals := 14 } : Room).cells ({ frames := 1, cells := 0, slots := 0, locals := 14 } : Room).slots) := by
  refine MetFree.of_bodySF (plainFor_of_name pn_8) hisR ?_
  intro p e s m args below meth c s₁ Bd hml0 hP hK
  obtain ⟨rfl, hZ, hh⟩ := hP
  have hx := Bd.exec
  have hby := Bd.bytes
  have hml : c.maxLocals = 4 := hml0
  have hown : s.vm.findClass "com/example/bandmark/bandmark/PlainDecimalReadPinLaw" = some m.cls := findClass_of_methodNamed Bd.named
  have hnm := (name_of_methodNamed Bd.named Bd.method).1
  have X0 : Stand p l e ({ frames := 1, cells := 0, slots := 0, locals := 14 } : Room) s m #[(.ref a1), (.int (Int32.ofNat j)), (.int (Int32.ofNat st)), (.int (Int32.ofNat b))] below meth c s₁ [] 0 0 := Stand.of_body Bd
  have e0 : s₁.heap = h0 := by rw [← hh, Bd.state]; rfl
  have N0 := Fr.nil n0
  have pre0 : ∀ t, Steps p.tables e below (s₁.setTop (mkF m 0 #[.val (.ref a1), .val (.int (Int32.ofNat j)), .val (.int (Int32.ofNat st)), .val (.int (Int32.ofNat b))] [])) t → Steps p.tables e below (s₁.setTop (entryFrame m #[(.ref a1), (.int (Int32.ofNat j)), (.int (Int32.ofNat st)), (.int (Int32.ofNat b))] 4)) t := fun t k => castTop (ef_8 m a1 (Int32.ofNat j) (Int32.ofNat st) (Int32.ofNat b)) k
  obtain ⟨_, _, ⟨T5, L5, k5, n5⟩, -, X5, ⟨Lc5, hQ5, l5, y5, z5⟩, st5⟩ := Jvm.LawKit.callS X0 hx (y := (⟨"com/example/bandmark/bandmark/PlainDecimalReadPinLaw", "in", "(III)Z"⟩ : MethodName)) hown (mvT hZ (own_W hw 39 rfl)) (mvT hZ (own_W hw 40 rfl)) (mvT hZ (own_W hw 3 rfl)) (mvT hZ (own_W hw 41 rfl)) (by decide) (backOf (W := 0) (r9y l Z a0 hw [] j st b  h0 n0 Z0 hj hs hb3 hin) hZ (own_W hw 41 rfl) (own_W hw 3 rfl) (by decide) (by decide)) (g := (mkF m 3 #[.val (.ref a1), .val (.int (Int32.ofNat j)), .val (.int (Int32.ofNat st)), .val (.int (Int32.ofNat b))] [(.int (Int32.ofNat b)), (.int (Int32.ofNat st)), (.int (Int32.ofNat j))])) rfl (by rw [hml]; rfl) (argsL := [(.int (Int32.ofNat j)), (.int (Int32.ofNat st)), (.int (Int32.ofNat b))]) (rest := []) (lenOf pd_8_8 rfl) rfl (by show 2 * 0 + _ ≤ _; exact Nat.le_of_eq rfl) (hb hby d8_3) (fun _ _ => ⟨rfl, e0, (by decide : 0 + 0 ≤ _), (by decide : 0 + 0 ≤ _)⟩)
  dsimp only [Pt.U, Pt.locs, Pt.cells, Pt.slots] at X5 l5 y5 z5 st5 hQ5
  subst l5 y5 z5
  obtain ⟨rfl, N5q, e5⟩ := hQ5
  have N5 := Fr.app N0 N5q
  obtain ⟨fs, hr, hrun, hended, hW, hsame⟩ := X5.leave (v := some (.int 0)) (fun h => by rw [Bd.returns] at h; cases h)
  refine ⟨_, _, pre0 _ ?_, hrun, hended, _, _, rfl, ?_, ⟨_, rfl⟩, hW, hsame.mono (by decide) (by decide)⟩
  · refine XS.iloadN X0.here hx rfl (hb hby d8_0) rfl ?_
    refine XS.iloadN X0.here hx rfl (hb hby d8_1) rfl ?_
    refine XS.iloadN X0.here hx rfl (hb hby d8_2) rfl ?_
    refine st5 _ ?_
    refine XS.ifNo X5.here hx rfl (hb hby d8_6) rfl ((if0 _ _).trans (feq (by decide : ¬ ((1 : Int32) = (0 : Int32)))).1) ?_
    refine XS.aloadN X5.here hx rfl (hb hby d8_9) rfl rfl ?_
    refine XS.iloadN X5.here hx rfl (hb hby d8_10) rfl ?_
    refine X5.caload hx (j := (Int32.ofNat j)) (v := (.int w6)) (by rw [e5]; exact Ar_a1.1) (State.isArrayOf_alike hZ.alike Ar_a1.2.1) Ar_a1.2.2 hin11 hat11 (g := (mkF m 11 #[.val (.ref a1), .val (.int (Int32.ofNat j)), .val (.int (Int32.ofNat st)), .val (.int (Int32.ofNat b))] [(.int (Int32.ofNat j)), (.ref a1)])) rfl rfl (hb hby d8_11) _ ?_
    refine XS.bipush X5.here hx rfl (hb hby d8_12) ?_
    refine XS.icmpYes X5.here hx rfl (pc0 := 14) (pc' := 29) rfl (hb hby d8_14) rfl (tlt hc14).1 (by decide) (by decide) ?_
    refine XS.iconst X5.here hx rfl (hb hby d8_29) ?_
    exact retI X5 hx Bd.returns (hb hby d8_30) hr
  · show QR (some (.int 0)) h0 n0 _ T5.heap _
    rw [e5]
    exact ⟨rfl, N5, rfl⟩
theorem d8_17 : decode method_4_code 17 = .ok (.aload_n 0, 1) := by decide +kernel
theorem d8_18 : decode method_4_code 18 = .ok (.iload_n 1, 1) := by decide +kernel
theorem d8_19 : decode method_4_code 19 = .ok (.caload, 1) := by decide +kernel
theorem d8_20 : decode method_4_code 20 = .ok (.bipush 57, 2) := by decide +kernel
theorem d8_22 : decode method_4_code 22 = .ok (.if_icmp .gt 7, 3) := by decide +kernel
set_option maxRecDepth 65536 in
set_option maxHeartbeats 40000000 in
theorem r8b (l : Launch) (Z : State) (a0 : Array Value) (hw : ∀ d ∈ tables_1, d.before a0 Z = true) (ws : List Jvm.Cond) (a1 : Addr) (w6 : Int32) (cl_a1 : Cell) (w7 : Int32) (j st b : Nat) (h0 : Heap) (n0 : Nat) (Z0 : n0 ≤ h0.size) (Ar_a1 : Arr Z h0 a1 cl_a1 .char) (hin11 : ¬ ((Int32.ofNat j) < 0 ∨ cl_a1.slots.size ≤ ((Int32.ofNat j)).toNatClampNeg)) (hat11 : cl_a1.slots[((Int32.ofNat j)).toNatClampNeg]? = some (.int w6)) (hin19 : ¬ ((Int32.ofNat j) < 0 ∨ cl_a1.slots.size ≤ ((Int32.ofNat j)).toNatClampNeg)) (hat19 : cl_a1.slots[((Int32.ofNat j)).toNatClampNeg]? = some (.int w7)) (hc14 : ¬ (w6 < (48 : Int32))) (hc22 : (57 : Int32) < w7) (hj : j < 32) (hs : st < 32) (hb3 : b < 32) (hin : (st ≤ j ∧ j < b)) :
    MetFree l (⟨"com/example/bandmark/bandmark/PlainDecimalReadPinLaw", "dig", "([CIII)I"⟩ : MethodName) (head1 (Jvm.Cond.code (⟨"com/example/bandmark/bandmark/PlainDecimalReadPinLaw", "dig", "([CIII)I"⟩ : MethodName) method_4_code 4 (some .int) :: ws) ({ frames := 1, cells := 0, slots := 0, locals := 14 } : Room)) (fun a U => a = #[(.ref a1), (.int (Int32.ofNat j)), (.int (Int32.ofNat st)), (.int (Int32.ofNat b))] ∧ Z.Warmed39 U.vm ∧ U.heap = h0) (fun _ _ _ _ _ => True) (fun _ U o U' => ∃ v L, o = .returned v ∧ QR (some (.int 0)) h0 n0 v U'.heap L ∧ FrameEnd U o U' L ({ frames := 1, cells := 0, slots := 0, locals := 14 } : Room).cells ({ frames := 1, cells := 0, slots := 0, locals := 14 } : Room).slots) := by
  refine MetFree.of_bodySF (plainFor_of_name pn_8) hisR ?_
  intro p e s m args below meth c s₁ Bd hml0 hP hK
  obtain ⟨rfl, hZ, hh⟩ := hP
  have hx := Bd.exec
  have hby := Bd.bytes
  have hml : c.maxLocals = 4 := hml0
  have hown : s.vm.findClass "com/example/bandmark/bandmark/PlainDecimalReadPinLaw" = some m.cls := findClass_of_methodNamed Bd.named
  have hnm := (name_of_methodNamed Bd.named Bd.method).1
  have X0 : Stand p l e ({ frames := 1, cells := 0, slots := 0, locals := 14 } : Room) s m #[(.ref a1), (.int (Int32.ofNat j)), (.int (Int32.ofNat st)), (.int (Int32.ofNat b))] below meth c s₁ [] 0 0 := Stand.of_body Bd
  have e0 : s₁.heap = h0 := by rw [← hh, Bd.state]; rfl
  have N0 := Fr.nil n0
  have pre0 : ∀ t, Steps p.tables e below (s₁.setTop (mkF m 0 #[.val (.ref a1), .val (.int (Int32.ofNat j)), .val (.int (Int32.ofNat st)), .val (.int (Int32.ofNat b))] [])) t → Steps p.tables e below (s₁.setTop (entryFrame m #[(.ref a1), (.int (Int32.ofNat j)), (.int (Int32.ofNat st)), (.int (Int32.ofNat b))] 4)) t := fun t k => castTop (ef_8 m a1 (Int32.ofNat j) (Int32.ofNat st) (Int32.ofNat b)) k
  obtain ⟨_, _, ⟨T5, L5, k5, n5⟩, -, X5, ⟨Lc5, hQ5, l5, y5, z5⟩, st5⟩ := Jvm.LawKit.callS X0 hx (y := (⟨"com/example/bandmark/bandmark/PlainDecimalReadPinLaw", "in", "(III)Z"⟩ : MethodName)) hown (mvT hZ (own_W hw 39 rfl)) (mvT hZ (own_W hw 40 rfl)) (mvT hZ (own_W hw 3 rfl)) (mvT hZ (own_W hw 41 rfl)) (by decide) (backOf (W := 0) (r9y l Z a0 hw [] j st b  h0 n0 Z0 hj hs hb3 hin) hZ (own_W hw 41 rfl) (own_W hw 3 rfl) (by decide) (by decide)) (g := (mkF m 3 #[.val (.ref a1), .val (.int (Int32.ofNat j)), .val (.int (Int32.ofNat st)), .val (.int (Int32.ofNat b))] [(.int (Int32.ofNat b)), (.int (Int32.ofNat st)), (.int (Int32.ofNat j))])) rfl (by rw [hml]; rfl) (argsL := [(.int (Int32.ofNat j)), (.int (Int32.ofNat st)), (.int (Int32.ofNat b))]) (rest := []) (lenOf pd_8_8 rfl) rfl (by show 2 * 0 + _ ≤ _; exact Nat.le_of_eq rfl) (hb hby d8_3) (fun _ _ => ⟨rfl, e0, (by decide : 0 + 0 ≤ _), (by decide : 0 + 0 ≤ _)⟩)
  dsimp only [Pt.U, Pt.locs, Pt.cells, Pt.slots] at X5 l5 y5 z5 st5 hQ5
  subst l5 y5 z5
  obtain ⟨rfl, N5q, e5⟩ := hQ5
  have N5 := Fr.app N0 N5q
  obtain ⟨fs, hr, hrun, hended, hW, hsame⟩ := X5.leave (v := some (.int 0)) (fun h => by rw [Bd.returns] at h; cases h)
  refine ⟨_, _, pre0 _ ?_, hrun, hended, _, _, rfl, ?_, ⟨_, rfl⟩, hW, hsame.mono (by decide) (by decide)⟩
  · refine XS.iloadN X0.here hx rfl (hb hby d8_0) rfl ?_
    refine XS.iloadN X0.here hx rfl (hb hby d8_1) rfl ?_
    refine XS.iloadN X0.here hx rfl (hb hby d8_2) rfl ?_
    refine st5 _ ?_
    refine XS.ifNo X5.here hx rfl (hb hby d8_6) rfl ((if0 _ _).trans (feq (by decide : ¬ ((1 : Int32) = (0 : Int32)))).1) ?_
    refine XS.aloadN X5.here hx rfl (hb hby d8_9) rfl rfl ?_
    refine XS.iloadN X5.here hx rfl (hb hby d8_10) rfl ?_
    refine X5.caload hx (j := (Int32.ofNat j)) (v := (.int w6)) (by rw [e5]; exact Ar_a1.1) (State.isArrayOf_alike hZ.alike Ar_a1.2.1) Ar_a1.2.2 hin11 hat11 (g := (mkF m 11 #[.val (.ref a1), .val (.int (Int32.ofNat j)), .val (.int (Int32.ofNat st)), .val (.int (Int32.ofNat b))] [(.int (Int32.ofNat j)), (.ref a1)])) rfl rfl (hb hby d8_11) _ ?_
    refine XS.bipush X5.here hx rfl (hb hby d8_12) ?_
    refine XS.icmpNo X5.here hx rfl (hb hby d8_14) rfl (flt hc14).1 ?_
    refine XS.aloadN X5.here hx rfl (hb hby d8_17) rfl rfl ?_
    refine XS.iloadN X5.here hx rfl (hb hby d8_18) rfl ?_
    refine X5.caload hx (j := (Int32.ofNat j)) (v := (.int w7)) (by rw [e5]; exact Ar_a1.1) (State.isArrayOf_alike hZ.alike Ar_a1.2.1) Ar_a1.2.2 hin19 hat19 (g := (mkF m 19 #[.val (.ref a1), .val (.int (Int32.ofNat j)), .val (.int (Int32.ofNat st)), .val (.int (Int32.ofNat b))] [(.int (Int32.ofNat j)), (.ref a1)])) rfl rfl (hb hby d8_19) _ ?_
    refine XS.bipush X5.here hx rfl (hb hby d8_20) ?_
    refine XS.icmpYes X5.here hx rfl (pc0 := 22) (pc' := 29) rfl (hb hby d8_22) rfl (tlt hc22).2.2.1 (by decide) (by decide) ?_
    refine XS.iconst X5.here hx rfl (hb hby d8_29) ?_
    exact retI X5 hx Bd.returns (hb hby d8_30) hr
  · show QR (some (.int 0)) h0 n0 _ T5.heap _
    rw [e5]
    exact ⟨rfl, N5, rfl⟩
theorem d8_25 : decode method_4_code 25 = .ok (.iconst 1, 1) := by decide +kernel
theorem d8_26 : decode method_4_code 26 = .ok (.goto 4, 3) := by decide +kernel
set_option maxRecDepth 65536 in
set_option maxHeartbeats 40000000 in
theorem r8c (l : Launch) (Z : State) (a0 : Array Value) (hw : ∀ d ∈ tables_1, d.before a0 Z = true) (ws : List Jvm.Cond) (a1 : Addr) (w6 : Int32) (cl_a1 : Cell) (w7 : Int32) (j st b : Nat) (h0 : Heap) (n0 : Nat) (Z0 : n0 ≤ h0.size) (Ar_a1 : Arr Z h0 a1 cl_a1 .char) (hin11 : ¬ ((Int32.ofNat j) < 0 ∨ cl_a1.slots.size ≤ ((Int32.ofNat j)).toNatClampNeg)) (hat11 : cl_a1.slots[((Int32.ofNat j)).toNatClampNeg]? = some (.int w6)) (hin19 : ¬ ((Int32.ofNat j) < 0 ∨ cl_a1.slots.size ≤ ((Int32.ofNat j)).toNatClampNeg)) (hat19 : cl_a1.slots[((Int32.ofNat j)).toNatClampNeg]? = some (.int w7)) (hc14 : ¬ (w6 < (48 : Int32))) (hc22 : ¬ ((57 : Int32) < w7)) (hj : j < 32) (hs : st < 32) (hb3 : b < 32) (hin : (st ≤ j ∧ j < b)) :
    MetFree l (⟨"com/example/bandmark/bandmark/PlainDecimalReadPinLaw", "dig", "([CIII)I"⟩ : MethodName) (head1 (Jvm.Cond.code (⟨"com/example/bandmark/bandmark/PlainDecimalReadPinLaw", "dig", "([CIII)I"⟩ : MethodName) method_4_code 4 (some .int) :: ws) ({ frames := 1, cells := 0, slots := 0, locals := 14 } : Room)) (fun a U => a = #[(.ref a1), (.int (Int32.ofNat j)), (.int (Int32.ofNat st)), (.int (Int32.ofNat b))] ∧ Z.Warmed39 U.vm ∧ U.heap = h0) (fun _ _ _ _ _ => True) (fun _ U o U' => ∃ v L, o = .returned v ∧ QR (some (.int 1)) h0 n0 v U'.heap L ∧ FrameEnd U o U' L ({ frames := 1, cells := 0, slots := 0, locals := 14 } : Room).cells ({ frames := 1, cells := 0, slots := 0, locals := 14 } : Room).slots) := by
  refine MetFree.of_bodySF (plainFor_of_name pn_8) hisR ?_
  intro p e s m args below meth c s₁ Bd hml0 hP hK
  obtain ⟨rfl, hZ, hh⟩ := hP
  have hx := Bd.exec
  have hby := Bd.bytes
  have hml : c.maxLocals = 4 := hml0
  have hown : s.vm.findClass "com/example/bandmark/bandmark/PlainDecimalReadPinLaw" = some m.cls := findClass_of_methodNamed Bd.named
  have hnm := (name_of_methodNamed Bd.named Bd.method).1
  have X0 : Stand p l e ({ frames := 1, cells := 0, slots := 0, locals := 14 } : Room) s m #[(.ref a1), (.int (Int32.ofNat j)), (.int (Int32.ofNat st)), (.int (Int32.ofNat b))] below meth c s₁ [] 0 0 := Stand.of_body Bd
  have e0 : s₁.heap = h0 := by rw [← hh, Bd.state]; rfl
  have N0 := Fr.nil n0
  have pre0 : ∀ t, Steps p.tables e below (s₁.setTop (mkF m 0 #[.val (.ref a1), .val (.int (Int32.ofNat j)), .val (.int (Int32.ofNat st)), .val (.int (Int32.ofNat b))] [])) t → Steps p.tables e below (s₁.setTop (entryFrame m #[(.ref a1), (.int (Int32.ofNat j)), (.int (Int32.ofNat st)), (.int (Int32.ofNat b))] 4)) t := fun t k => castTop (ef_8 m a1 (Int32.ofNat j) (Int32.ofNat st) (Int32.ofNat b)) k
  obtain ⟨_, _, ⟨T5, L5, k5, n5⟩, -, X5, ⟨Lc5, hQ5, l5, y5, z5⟩, st5⟩ := Jvm.LawKit.callS X0 hx (y := (⟨"com/example/bandmark/bandmark/PlainDecimalReadPinLaw", "in", "(III)Z"⟩ : MethodName)) hown (mvT hZ (own_W hw 39 rfl)) (mvT hZ (own_W hw 40 rfl)) (mvT hZ (own_W hw 3 rfl)) (mvT hZ (own_W hw 41 rfl)) (by decide) (backOf (W := 0) (r9y l Z a0 hw [] j st b  h0 n0 Z0 hj hs hb3 hin) hZ (own_W hw 41 rfl) (own_W hw 3 rfl) (by decide) (by decide)) (g := (mkF m 3 #[.val (.ref a1), .val (.int (Int32.ofNat j)), .val (.int (Int32.ofNat st)), .val (.int (Int32.ofNat b))] [(.int (Int32.ofNat b)), (.int (Int32.ofNat st)), (.int (Int32.ofNat j))])) rfl (by rw [hml]; rfl) (argsL := [(.int (Int32.ofNat j)), (.int (Int32.ofNat st)), (.int (Int32.ofNat b))]) (rest := []) (lenOf pd_8_8 rfl) rfl (by show 2 * 0 + _ ≤ _; exact Nat.le_of_eq rfl) (hb hby d8_3) (fun _ _ => ⟨rfl, e0, (by decide : 0 + 0 ≤ _), (by decide : 0 + 0 ≤ _)⟩)
  dsimp only [Pt.U, Pt.locs, Pt.cells, Pt.slots] at X5 l5 y5 z5 st5 hQ5
  subst l5 y5 z5
  obtain ⟨rfl, N5q, e5⟩ := hQ5
  have N5 := Fr.app N0 N5q
  obtain ⟨fs, hr, hrun, hended, hW, hsame⟩ := X5.leave (v := some (.int 1)) (fun h => by rw [Bd.returns] at h; cases h)
  refine ⟨_, _, pre0 _ ?_, hrun, hended, _, _, rfl, ?_, ⟨_, rfl⟩, hW, hsame.mono (by decide) (by decide)⟩
  · refine XS.iloadN X0.here hx rfl (hb hby d8_0) rfl ?_
    refine XS.iloadN X0.here hx rfl (hb hby d8_1) rfl ?_
    refine XS.iloadN X0.here hx rfl (hb hby d8_2) rfl ?_
    refine st5 _ ?_
    refine XS.ifNo X5.here hx rfl (hb hby d8_6) rfl ((if0 _ _).trans (feq (by decide : ¬ ((1 : Int32) = (0 : Int32)))).1) ?_
    refine XS.aloadN X5.here hx rfl (hb hby d8_9) rfl rfl ?_
    refine XS.iloadN X5.here hx rfl (hb hby d8_10) rfl ?_
    refine X5.caload hx (j := (Int32.ofNat j)) (v := (.int w6)) (by rw [e5]; exact Ar_a1.1) (State.isArrayOf_alike hZ.alike Ar_a1.2.1) Ar_a1.2.2 hin11 hat11 (g := (mkF m 11 #[.val (.ref a1), .val (.int (Int32.ofNat j)), .val (.int (Int32.ofNat st)), .val (.int (Int32.ofNat b))] [(.int (Int32.ofNat j)), (.ref a1)])) rfl rfl (hb hby d8_11) _ ?_
    refine XS.bipush X5.here hx rfl (hb hby d8_12) ?_
    refine XS.icmpNo X5.here hx rfl (hb hby d8_14) rfl (flt hc14).1 ?_
    refine XS.aloadN X5.here hx rfl (hb hby d8_17) rfl rfl ?_
    refine XS.iloadN X5.here hx rfl (hb hby d8_18) rfl ?_
    refine X5.caload hx (j := (Int32.ofNat j)) (v := (.int w7)) (by rw [e5]; exact Ar_a1.1) (State.isArrayOf_alike hZ.alike Ar_a1.2.1) Ar_a1.2.2 hin19 hat19 (g := (mkF m 19 #[.val (.ref a1), .val (.int (Int32.ofNat j)), .val (.int (Int32.ofNat st)), .val (.int (Int32.ofNat b))] [(.int (Int32.ofNat j)), (.ref a1)])) rfl rfl (hb hby d8_19) _ ?_
    refine XS.bipush X5.here hx rfl (hb hby d8_20) ?_
    refine XS.icmpNo X5.here hx rfl (hb hby d8_22) rfl (flt hc22).2.2.1 ?_
    refine XS.iconst X5.here hx rfl (hb hby d8_25) ?_
    refine XS.goto X5.here hx rfl (pc0 := 26) (pc' := 30) rfl (hb hby d8_26) (by decide) (by decide) ?_
    exact retI X5 hx Bd.returns (hb hby d8_30) hr
  · show QR (some (.int 1)) h0 n0 _ T5.heap _
    rw [e5]
    exact ⟨rfl, N5, rfl⟩
theorem d10_0 : decode method_5_code 0 = .ok (.iload_n 1, 1) := by decide +kernel
theorem d10_1 : decode method_5_code 1 = .ok (.iload_n 2, 1) := by decide +kernel
theorem d10_2 : decode method_5_code 2 = .ok (.iload_n 3, 1) := by decide +kernel
theorem d10_3 : decode method_5_code 3 = .ok (.invokestatic 8, 3) := by decide +kernel
theorem d10_6 : decode method_5_code 6 = .ok (.ifCond .eq 15, 3) := by decide +kernel
theorem d10_21 : decode method_5_code 21 = .ok (.iconst 0, 1) := by decide +kernel
theorem d10_22 : decode method_5_code 22 = .ok (.ireturn, 1) := by decide +kernel
theorem pn_10 : plainName "com/example/bandmark/bandmark/PlainDecimalReadPinLaw" = true := by first | (simp [plainName, overriddenIn]; done) | decide +kernel
theorem pd_10_8 : parseMethodDescriptor "(III)Z" = some ⟨[.int, .int, .int], some .boolean⟩ := by decide +kernel
theorem ef_10 (m : MethodId) (x0 : Addr) (x1 : Int32) (x2 : Int32) (x3 : Int32) : entryFrame m #[(.ref x0), (.int x1), (.int x2), (.int x3)] 4 = mkF m 0 #[.val (.ref x0), .val (.int x1), .val (.int x2), .val (.int x3)] [] := by first | (simp [entryFrame, mkF, argsToLocals, Value.category]; done) | rfl
set_option maxRecDepth 65536 in
set_option maxHeartbeats 40000000 in
theorem r10n (l : Launch) (Z : State) (a0 : Array Value) (hw : ∀ d ∈ tables_1, d.before a0 Z = true) (ws : List Jvm.Cond) (a1 : Addr) (j st b : Nat) (h0 : Heap) (n0 : Nat) (Z0 : n0 ≤ h0.size) (hj : j < 32) (hs : st < 32) (hb3 : b < 32) (hin : ¬ (st ≤ j ∧ j < b)) :
    MetFree l (⟨"com/example/bandmark/bandmark/PlainDecimalReadPinLaw", "pt", "([CIII)I"⟩ : MethodName) (head1 (Jvm.Cond.code (⟨"com/example/bandmark/bandmark/PlainDecimalReadPinLaw", "pt", "([CIII)I"⟩ : MethodName) method_5_code 4 (some .int) :: ws) ({ frames := 1, cells := 0, slots := 0, locals := 14 } : Room)) (fun a U => a = #[(.ref a1), (.int (Int32.ofNat j)), (.int (Int32.ofNat st)), (.int (Int32.ofNat b))] ∧ Z.Warmed39 U.vm ∧ U.heap = h0) (fun _ _ _ _ _ => True) (fun _ U o U' => ∃ v L, o = .returned v ∧ QR (some (.int 0)) h0 n0 v U'.heap L ∧ FrameEnd U o U' L ({ frames := 1, cells := 0, slots := 0, locals := 14 } : Room).cells ({ frames := 1, cells := 0, slots := 0, locals := 14 } : Room).slots) := by
  refine MetFree.of_bodySF (plainFor_of_name pn_10) hisR ?_
  intro p e s m args below meth c s₁ Bd hml0 hP hK
  obtain ⟨rfl, hZ, hh⟩ := hP
  have hx := Bd.exec
  have hby := Bd.bytes
  have hml : c.maxLocals = 4 := hml0
  have hown : s.vm.findClass "com/example/bandmark/bandmark/PlainDecimalReadPinLaw" = some m.cls := findClass_of_methodNamed Bd.named
  have hnm := (name_of_methodNamed Bd.named Bd.method).1
  have X0 : Stand p l e ({ frames := 1, cells := 0, slots := 0, locals := 14 } : Room) s m #[(.ref a1), (.int (Int32.ofNat j)), (.int (Int32.ofNat st)), (.int (Int32.ofNat b))] below meth c s₁ [] 0 0 := Stand.of_body Bd
  have e0 : s₁.heap = h0 := by rw [← hh, Bd.state]; rfl
  have N0 := Fr.nil n0
  have pre0 : ∀ t, Steps p.tables e below (s₁.setTop (mkF m 0 #[.val (.ref a1), .val (.int (Int32.ofNat j)), .val (.int (Int32.ofNat st)), .val (.int (Int32.ofNat b))] [])) t → Steps p.tables e below (s₁.setTop (entryFrame m #[(.ref a1), (.int (Int32.ofNat j)), (.int (Int32.ofNat st)), (.int (Int32.ofNat b))] 4)) t := fun t k => castTop (ef_10 m a1 (Int32.ofNat j) (Int32.ofNat st) (Int32.ofNat b)) k
  obtain ⟨_, _, ⟨T5, L5, k5, n5⟩, -, X5, ⟨Lc5, hQ5, l5, y5, z5⟩, st5⟩ := Jvm.LawKit.callS X0 hx (y := (⟨"com/example/bandmark/bandmark/PlainDecimalReadPinLaw", "in", "(III)Z"⟩ : MethodName)) hown (mvT hZ (own_W hw 39 rfl)) (mvT hZ (own_W hw 40 rfl)) (mvT hZ (own_W hw 3 rfl)) (mvT hZ (own_W hw 41 rfl)) (by decide) (backOf (W := 0) (r9n l Z a0 hw [] j st b  h0 n0 Z0 hj hs hb3 hin) hZ (own_W hw 41 rfl) (own_W hw 3 rfl) (by decide) (by decide)) (g := (mkF m 3 #[.val (.ref a1), .val (.int (Int32.ofNat j)), .val (.int (Int32.ofNat st)), .val (.int (Int32.ofNat b))] [(.int (Int32.ofNat b)), (.int (Int32.ofNat st)), (.int (Int32.ofNat j))])) rfl (by rw [hml]; rfl) (argsL := [(.int (Int32.ofNat j)), (.int (Int32.ofNat st)), (.int (Int32.ofNat b))]) (rest := []) (lenOf pd_10_8 rfl) rfl (by show 2 * 0 + _ ≤ _; exact Nat.le_of_eq rfl) (hb hby d10_3) (fun _ _ => ⟨rfl, e0, (by decide : 0 + 0 ≤ _), (by decide : 0 + 0 ≤ _)⟩)
  dsimp only [Pt.U, Pt.locs, Pt.cells, Pt.slots] at X5 l5 y5 z5 st5 hQ5
  subst l5 y5 z5
  obtain ⟨rfl, N5q, e5⟩ := hQ5
  have N5 := Fr.app N0 N5q
  obtain ⟨fs, hr, hrun, hended, hW, hsame⟩ := X5.leave (v := some (.int 0)) (fun h => by rw [Bd.returns] at h; cases h)
  refine ⟨_, _, pre0 _ ?_, hrun, hended, _, _, rfl, ?_, ⟨_, rfl⟩, hW, hsame.mono (by decide) (by decide)⟩
  · refine XS.iloadN X0.here hx rfl (hb hby d10_0) rfl ?_
    refine XS.iloadN X0.here hx rfl (hb hby d10_1) rfl ?_
    refine XS.iloadN X0.here hx rfl (hb hby d10_2) rfl ?_
    refine st5 _ ?_
    refine XS.ifYes X5.here hx rfl (pc0 := 6) (pc' := 21) rfl (hb hby d10_6) rfl ((if0 _ _).trans (teq (rfl : (0 : Int32) = (0 : Int32))).1) (by decide) (by decide) ?_
    refine XS.iconst X5.here hx rfl (hb hby d10_21) ?_
    exact retI X5 hx Bd.returns (hb hby d10_22) hr
  · show QR (some (.int 0)) h0 n0 _ T5.heap _
    rw [e5]
    exact ⟨rfl, N5, rfl⟩
theorem d10_9 : decode method_5_code 9 = .ok (.aload_n 0, 1) := by decide +kernel
theorem d10_10 : decode method_5_code 10 = .ok (.iload_n 1, 1) := by decide +kernel
theorem d10_11 : decode method_5_code 11 = .ok (.caload, 1) := by decide +kernel
theorem d10_12 : decode method_5_code 12 = .ok (.bipush 46, 2) := by decide +kernel
theorem d10_14 : decode method_5_code 14 = .ok (.if_icmp .ne 7, 3) := by decide +kernel
set_option maxRecDepth 65536 in
set_option maxHeartbeats 40000000 in
theorem r10a (l : Launch) (Z : State) (a0 : Array Value) (hw : ∀ d ∈ tables_1, d.before a0 Z = true) (ws : List Jvm.Cond) (a1 : Addr) (w6 : Int32) (cl_a1 : Cell) (j st b : Nat) (h0 : Heap) (n0 : Nat) (Z0 : n0 ≤ h0.size) (Ar_a1 : Arr Z h0 a1 cl_a1 .char) (hin11 : ¬ ((Int32.ofNat j) < 0 ∨ cl_a1.slots.size ≤ ((Int32.ofNat j)).toNatClampNeg)) (hat11 : cl_a1.slots[((Int32.ofNat j)).toNatClampNeg]? = some (.int w6)) (hc14 : ¬ (w6 = (46 : Int32))) (hj : j < 32) (hs : st < 32) (hb3 : b < 32) (hin : (st ≤ j ∧ j < b)) :
    MetFree l (⟨"com/example/bandmark/bandmark/PlainDecimalReadPinLaw", "pt", "([CIII)I"⟩ : MethodName) (head1 (Jvm.Cond.code (⟨"com/example/bandmark/bandmark/PlainDecimalReadPinLaw", "pt", "([CIII)I"⟩ : MethodName) method_5_code 4 (some .int) :: ws) ({ frames := 1, cells := 0, slots := 0, locals := 14 } : Room)) (fun a U => a = #[(.ref a1), (.int (Int32.ofNat j)), (.int (Int32.ofNat st)), (.int (Int32.ofNat b))] ∧ Z.Warmed39 U.vm ∧ U.heap = h0) (fun _ _ _ _ _ => True) (fun _ U o U' => ∃ v L, o = .returned v ∧ QR (some (.int 0)) h0 n0 v U'.heap L ∧ FrameEnd U o U' L ({ frames := 1, cells := 0, slots := 0, locals := 14 } : Room).cells ({ frames := 1, cells := 0, slots := 0, locals := 14 } : Room).slots) := by
  refine MetFree.of_bodySF (plainFor_of_name pn_10) hisR ?_
  intro p e s m args below meth c s₁ Bd hml0 hP hK
  obtain ⟨rfl, hZ, hh⟩ := hP
  have hx := Bd.exec
  have hby := Bd.bytes
  have hml : c.maxLocals = 4 := hml0
  have hown : s.vm.findClass "com/example/bandmark/bandmark/PlainDecimalReadPinLaw" = some m.cls := findClass_of_methodNamed Bd.named
  have hnm := (name_of_methodNamed Bd.named Bd.method).1
  have X0 : Stand p l e ({ frames := 1, cells := 0, slots := 0, locals := 14 } : Room) s m #[(.ref a1), (.int (Int32.ofNat j)), (.int (Int32.ofNat st)), (.int (Int32.ofNat b))] below meth c s₁ [] 0 0 := Stand.of_body Bd
  have e0 : s₁.heap = h0 := by rw [← hh, Bd.state]; rfl
  have N0 := Fr.nil n0
  have pre0 : ∀ t, Steps p.tables e below (s₁.setTop (mkF m 0 #[.val (.ref a1), .val (.int (Int32.ofNat j)), .val (.int (Int32.ofNat st)), .val (.int (Int32.ofNat b))] [])) t → Steps p.tables e below (s₁.setTop (entryFrame m #[(.ref a1), (.int (Int32.ofNat j)), (.int (Int32.ofNat st)), (.int (Int32.ofNat b))] 4)) t := fun t k => castTop (ef_10 m a1 (Int32.ofNat j) (Int32.ofNat st) (Int32.ofNat b)) k
  obtain ⟨_, _, ⟨T5, L5, k5, n5⟩, -, X5, ⟨Lc5, hQ5, l5, y5, z5⟩, st5⟩ := Jvm.LawKit.callS X0 hx (y := (⟨"com/example/bandmark/bandmark/PlainDecimalReadPinLaw", "in", "(III)Z"⟩ : MethodName)) hown (mvT hZ (own_W hw 39 rfl)) (mvT hZ (own_W hw 40 rfl)) (mvT hZ (own_W hw 3 rfl)) (mvT hZ (own_W hw 41 rfl)) (by decide) (backOf (W := 0) (r9y l Z a0 hw [] j st b  h0 n0 Z0 hj hs hb3 hin) hZ (own_W hw 41 rfl) (own_W hw 3 rfl) (by decide) (by decide)) (g := (mkF m 3 #[.val (.ref a1), .val (.int (Int32.ofNat j)), .val (.int (Int32.ofNat st)), .val (.int (Int32.ofNat b))] [(.int (Int32.ofNat b)), (.int (Int32.ofNat st)), (.int (Int32.ofNat j))])) rfl (by rw [hml]; rfl) (argsL := [(.int (Int32.ofNat j)), (.int (Int32.ofNat st)), (.int (Int32.ofNat b))]) (rest := []) (lenOf pd_10_8 rfl) rfl (by show 2 * 0 + _ ≤ _; exact Nat.le_of_eq rfl) (hb hby d10_3) (fun _ _ => ⟨rfl, e0, (by decide : 0 + 0 ≤ _), (by decide : 0 + 0 ≤ _)⟩)
  dsimp only [Pt.U, Pt.locs, Pt.cells, Pt.slots] at X5 l5 y5 z5 st5 hQ5
  subst l5 y5 z5
  obtain ⟨rfl, N5q, e5⟩ := hQ5
  have N5 := Fr.app N0 N5q
  obtain ⟨fs, hr, hrun, hended, hW, hsame⟩ := X5.leave (v := some (.int 0)) (fun h => by rw [Bd.returns] at h; cases h)
  refine ⟨_, _, pre0 _ ?_, hrun, hended, _, _, rfl, ?_, ⟨_, rfl⟩, hW, hsame.mono (by decide) (by decide)⟩
  · refine XS.iloadN X0.here hx rfl (hb hby d10_0) rfl ?_
    refine XS.iloadN X0.here hx rfl (hb hby d10_1) rfl ?_
    refine XS.iloadN X0.here hx rfl (hb hby d10_2) rfl ?_
    refine st5 _ ?_
    refine XS.ifNo X5.here hx rfl (hb hby d10_6) rfl ((if0 _ _).trans (feq (by decide : ¬ ((1 : Int32) = (0 : Int32)))).1) ?_
    refine XS.aloadN X5.here hx rfl (hb hby d10_9) rfl rfl ?_
    refine XS.iloadN X5.here hx rfl (hb hby d10_10) rfl ?_
    refine X5.caload hx (j := (Int32.ofNat j)) (v := (.int w6)) (by rw [e5]; exact Ar_a1.1) (State.isArrayOf_alike hZ.alike Ar_a1.2.1) Ar_a1.2.2 hin11 hat11 (g := (mkF m 11 #[.val (.ref a1), .val (.int (Int32.ofNat j)), .val (.int (Int32.ofNat st)), .val (.int (Int32.ofNat b))] [(.int (Int32.ofNat j)), (.ref a1)])) rfl rfl (hb hby d10_11) _ ?_
    refine XS.bipush X5.here hx rfl (hb hby d10_12) ?_
    refine XS.icmpYes X5.here hx rfl (pc0 := 14) (pc' := 21) rfl (hb hby d10_14) rfl (feq hc14).2 (by decide) (by decide) ?_
    refine XS.iconst X5.here hx rfl (hb hby d10_21) ?_
    exact retI X5 hx Bd.returns (hb hby d10_22) hr
  · show QR (some (.int 0)) h0 n0 _ T5.heap _
    rw [e5]
    exact ⟨rfl, N5, rfl⟩
theorem d10_17 : decode method_5_code 17 = .ok (.iconst 1, 1) := by decide +kernel
theorem d10_18 : decode method_5_code 18 = .ok (.goto 4, 3) := by decide +kernel
set_option maxRecDepth 65536 in
set_option maxHeartbeats 40000000 in
theorem r10c (l : Launch) (Z : State) (a0 : Array Value) (hw : ∀ d ∈ tables_1, d.before a0 Z = true) (ws : List Jvm.Cond) (a1 : Addr) (w6 : Int32) (cl_a1 : Cell) (j st b : Nat) (h0 : Heap) (n0 : Nat) (Z0 : n0 ≤ h0.size) (Ar_a1 : Arr Z h0 a1 cl_a1 .char) (hin11 : ¬ ((Int32.ofNat j) < 0 ∨ cl_a1.slots.size ≤ ((Int32.ofNat j)).toNatClampNeg)) (hat11 : cl_a1.slots[((Int32.ofNat j)).toNatClampNeg]? = some (.int w6)) (hc14 : w6 = (46 : Int32)) (hj : j < 32) (hs : st < 32) (hb3 : b < 32) (hin : (st ≤ j ∧ j < b)) :
    MetFree l (⟨"com/example/bandmark/bandmark/PlainDecimalReadPinLaw", "pt", "([CIII)I"⟩ : MethodName) (head1 (Jvm.Cond.code (⟨"com/example/bandmark/bandmark/PlainDecimalReadPinLaw", "pt", "([CIII)I"⟩ : MethodName) method_5_code 4 (some .int) :: ws) ({ frames := 1, cells := 0, slots := 0, locals := 14 } : Room)) (fun a U => a = #[(.ref a1), (.int (Int32.ofNat j)), (.int (Int32.ofNat st)), (.int (Int32.ofNat b))] ∧ Z.Warmed39 U.vm ∧ U.heap = h0) (fun _ _ _ _ _ => True) (fun _ U o U' => ∃ v L, o = .returned v ∧ QR (some (.int 1)) h0 n0 v U'.heap L ∧ FrameEnd U o U' L ({ frames := 1, cells := 0, slots := 0, locals := 14 } : Room).cells ({ frames := 1, cells := 0, slots := 0, locals := 14 } : Room).slots) := by
  refine MetFree.of_bodySF (plainFor_of_name pn_10) hisR ?_
  intro p e s m args below meth c s₁ Bd hml0 hP hK
  obtain ⟨rfl, hZ, hh⟩ := hP
  have hx := Bd.exec
  have hby := Bd.bytes
  have hml : c.maxLocals = 4 := hml0
  have hown : s.vm.findClass "com/example/bandmark/bandmark/PlainDecimalReadPinLaw" = some m.cls := findClass_of_methodNamed Bd.named
  have hnm := (name_of_methodNamed Bd.named Bd.method).1
  have X0 : Stand p l e ({ frames := 1, cells := 0, slots := 0, locals := 14 } : Room) s m #[(.ref a1), (.int (Int32.ofNat j)), (.int (Int32.ofNat st)), (.int (Int32.ofNat b))] below meth c s₁ [] 0 0 := Stand.of_body Bd
  have e0 : s₁.heap = h0 := by rw [← hh, Bd.state]; rfl
  have N0 := Fr.nil n0
  have pre0 : ∀ t, Steps p.tables e below (s₁.setTop (mkF m 0 #[.val (.ref a1), .val (.int (Int32.ofNat j)), .val (.int (Int32.ofNat st)), .val (.int (Int32.ofNat b))] [])) t → Steps p.tables e below (s₁.setTop (entryFrame m #[(.ref a1), (.int (Int32.ofNat j)), (.int (Int32.ofNat st)), (.int (Int32.ofNat b))] 4)) t := fun t k => castTop (ef_10 m a1 (Int32.ofNat j) (Int32.ofNat st) (Int32.ofNat b)) k
  obtain ⟨_, _, ⟨T5, L5, k5, n5⟩, -, X5, ⟨Lc5, hQ5, l5, y5, z5⟩, st5⟩ := Jvm.LawKit.callS X0 hx (y := (⟨"com/example/bandmark/bandmark/PlainDecimalReadPinLaw", "in", "(III)Z"⟩ : MethodName)) hown (mvT hZ (own_W hw 39 rfl)) (mvT hZ (own_W hw 40 rfl)) (mvT hZ (own_W hw 3 rfl)) (mvT hZ (own_W hw 41 rfl)) (by decide) (backOf (W := 0) (r9y l Z a0 hw [] j st b  h0 n0 Z0 hj hs hb3 hin) hZ (own_W hw 41 rfl) (own_W hw 3 rfl) (by decide) (by decide)) (g := (mkF m 3 #[.val (.ref a1), .val (.int (Int32.ofNat j)), .val (.int (Int32.ofNat st)), .val (.int (Int32.ofNat b))] [(.int (Int32.ofNat b)), (.int (Int32.ofNat st)), (.int (Int32.ofNat j))])) rfl (by rw [hml]; rfl) (argsL := [(.int (Int32.ofNat j)), (.int (Int32.ofNat st)), (.int (Int32.ofNat b))]) (rest := []) (lenOf pd_10_8 rfl) rfl (by show 2 * 0 + _ ≤ _; exact Nat.le_of_eq rfl) (hb hby d10_3) (fun _ _ => ⟨rfl, e0, (by decide : 0 + 0 ≤ _), (by decide : 0 + 0 ≤ _)⟩)
  dsimp only [Pt.U, Pt.locs, Pt.cells, Pt.slots] at X5 l5 y5 z5 st5 hQ5
  subst l5 y5 z5
  obtain ⟨rfl, N5q, e5⟩ := hQ5
  have N5 := Fr.app N0 N5q
  obtain ⟨fs, hr, hrun, hended, hW, hsame⟩ := X5.leave (v := some (.int 1)) (fun h => by rw [Bd.returns] at h; cases h)
  refine ⟨_, _, pre0 _ ?_, hrun, hended, _, _, rfl, ?_, ⟨_, rfl⟩, hW, hsame.mono (by decide) (by decide)⟩
  · refine XS.iloadN X0.here hx rfl (hb hby d10_0) rfl ?_
    refine XS.iloadN X0.here hx rfl (hb hby d10_1) rfl ?_
    refine XS.iloadN X0.here hx rfl (hb hby d10_2) rfl ?_
    refine st5 _ ?_
    refine XS.ifNo X5.here hx rfl (hb hby d10_6) rfl ((if0 _ _).trans (feq (by decide : ¬ ((1 : Int32) = (0 : Int32)))).1) ?_
    refine XS.aloadN X5.here hx rfl (hb hby d10_9) rfl rfl ?_
    refine XS.iloadN X5.here hx rfl (hb hby d10_10) rfl ?_
    refine X5.caload hx (j := (Int32.ofNat j)) (v := (.int w6)) (by rw [e5]; exact Ar_a1.1) (State.isArrayOf_alike hZ.alike Ar_a1.2.1) Ar_a1.2.2 hin11 hat11 (g := (mkF m 11 #[.val (.ref a1), .val (.int (Int32.ofNat j)), .val (.int (Int32.ofNat st)), .val (.int (Int32.ofNat b))] [(.int (Int32.ofNat j)), (.ref a1)])) rfl rfl (hb hby d10_11) _ ?_
    refine XS.bipush X5.here hx rfl (hb hby d10_12) ?_
    refine XS.icmpNo X5.here hx rfl (hb hby d10_14) rfl (teq hc14).2 ?_
    refine XS.iconst X5.here hx rfl (hb hby d10_17) ?_
    refine XS.goto X5.here hx rfl (pc0 := 18) (pc' := 22) rfl (hb hby d10_18) (by decide) (by decide) ?_
    exact retI X5 hx Bd.returns (hb hby d10_22) hr
  · show QR (some (.int 1)) h0 n0 _ T5.heap _
    rw [e5]
    exact ⟨rfl, N5, rfl⟩
theorem d11_0 : decode method_6_code 0 = .ok (.iload_n 1, 1) := by decide +kernel
theorem d11_1 : decode method_6_code 1 = .ok (.iload_n 2, 1) := by decide +kernel
theorem d11_2 : decode method_6_code 2 = .ok (.iload_n 3, 1) := by decide +kernel
theorem d11_3 : decode method_6_code 3 = .ok (.invokestatic 8, 3) := by decide +kernel
theorem d11_6 : decode method_6_code 6 = .ok (.ifCond .eq 31, 3) := by decide +kernel
theorem d11_37 : decode method_6_code 37 = .ok (.iconst 0, 1) := by decide +kernel
theorem d11_38 : decode method_6_code 38 = .ok (.ireturn, 1) := by decide +kernel
theorem pn_11 : plainName "com/example/bandmark/bandmark/PlainDecimalReadPinLaw" = true := by first | (simp [plainName, overriddenIn]; done) | decide +kernel
theorem pd_11_8 : parseMethodDescriptor "(III)Z" = some ⟨[.int, .int, .int], some .boolean⟩ := by decide +kernel
theorem ef_11 (m : MethodId) (x0 : Addr) (x1 : Int32) (x2 : Int32) (x3 : Int32) : entryFrame m #[(.ref x0), (.int x1), (.int x2), (.int x3)] 4 = mkF m 0 #[.val (.ref x0), .val (.int x1), .val (.int x2), .val (.int x3)] [] := by first | (simp [entryFrame, mkF, argsToLocals, Value.category]; done) | rfl
set_option maxRecDepth 65536 in
set_option maxHeartbeats 40000000 in
theorem r11n (l : Launch) (Z : State) (a0 : Array Value) (hw : ∀ d ∈ tables_1, d.before a0 Z = true) (ws : List Jvm.Cond) (a1 : Addr) (j st b : Nat) (h0 : Heap) (n0 : Nat) (Z0 : n0 ≤ h0.size) (hj : j < 32) (hs : st < 32) (hb3 : b < 32) (hin : ¬ (st ≤ j ∧ j < b)) :
    MetFree l (⟨"com/example/bandmark/bandmark/PlainDecimalReadPinLaw", "bad", "([CIII)I"⟩ : MethodName) (head1 (Jvm.Cond.code (⟨"com/example/bandmark/bandmark/PlainDecimalReadPinLaw", "bad", "([CIII)I"⟩ : MethodName) method_6_code 4 (some .int) :: ws) ({ frames := 1, cells := 0, slots := 0, locals := 14 } : Room)) (fun a U => a = #[(.ref a1), (.int (Int32.ofNat j)), (.int (Int32.ofNat st)), (.int (Int32.ofNat b))] ∧ Z.Warmed39 U.vm ∧ U.heap = h0) (fun _ _ _ _ _ => True) (fun _ U o U' => ∃ v L, o = .returned v ∧ QR (some (.int 0)) h0 n0 v U'.heap L ∧ FrameEnd U o U' L ({ frames := 1, cells := 0, slots := 0, locals := 14 } : Room).cells ({ frames := 1, cells := 0, slots := 0, locals := 14 } : Room).slots) := by
  refine MetFree.of_bodySF (plainFor_of_name pn_11) hisR ?_
  intro p e s m args below meth c s₁ Bd hml0 hP hK
  obtain ⟨rfl, hZ, hh⟩ := hP
  have hx := Bd.exec
  have hby := Bd.bytes
  have hml : c.maxLocals = 4 := hml0
  have hown : s.vm.findClass "com/example/bandmark/bandmark/PlainDecimalReadPinLaw" = some m.cls := findClass_of_methodNamed Bd.named
  have hnm := (name_of_methodNamed Bd.named Bd.method).1
  have X0 : Stand p l e ({ frames := 1, cells := 0, slots := 0, locals := 14 } : Room) s m #[(.ref a1), (.int (Int32.ofNat j)), (.int (Int32.ofNat st)), (.int (Int32.ofNat b))] below meth c s₁ [] 0 0 := Stand.of_body Bd
  have e0 : s₁.heap = h0 := by rw [← hh, Bd.state]; rfl
  have N0 := Fr.nil n0
  have pre0 : ∀ t, Steps p.tables e below (s₁.setTop (mkF m 0 #[.val (.ref a1), .val (.int (Int32.ofNat j)), .val (.int (Int32.ofNat st)), .val (.int (Int32.ofNat b))] [])) t → Steps p.tables e below (s₁.setTop (entryFrame m #[(.ref a1), (.int (Int32.ofNat j)), (.int (Int32.ofNat st)), (.int (Int32.ofNat b))] 4)) t := fun t k => castTop (ef_11 m a1 (Int32.ofNat j) (Int32.ofNat st) (Int32.ofNat b)) k
  obtain ⟨_, _, ⟨T5, L5, k5, n5⟩, -, X5, ⟨Lc5, hQ5, l5, y5, z5⟩, st5⟩ := Jvm.LawKit.callS X0 hx (y := (⟨"com/example/bandmark/bandmark/PlainDecimalReadPinLaw", "in", "(III)Z"⟩ : MethodName)) hown (mvT hZ (own_W hw 39 rfl)) (mvT hZ (own_W hw 40 rfl)) (mvT hZ (own_W hw 3 rfl)) (mvT hZ (own_W hw 41 rfl)) (by decide) (backOf (W := 0) (r9n l Z a0 hw [] j st b  h0 n0 Z0 hj hs hb3 hin) hZ (own_W hw 41 rfl) (own_W hw 3 rfl) (by decide) (by decide)) (g := (mkF m 3 #[.val (.ref a1), .val (.int (Int32.ofNat j)), .val (.int (Int32.ofNat st)), .val (.int (Int32.ofNat b))] [(.int (Int32.ofNat b)), (.int (Int32.ofNat st)), (.int (Int32.ofNat j))])) rfl (by rw [hml]; rfl) (argsL := [(.int (Int32.ofNat j)), (.int (Int32.ofNat st)), (.int (Int32.ofNat b))]) (rest := []) (lenOf pd_11_8 rfl) rfl (by show 2 * 0 + _ ≤ _; exact Nat.le_of_eq rfl) (hb hby d11_3) (fun _ _ => ⟨rfl, e0, (by decide : 0 + 0 ≤ _), (by decide : 0 + 0 ≤ _)⟩)
  dsimp only [Pt.U, Pt.locs, Pt.cells, Pt.slots] at X5 l5 y5 z5 st5 hQ5
  subst l5 y5 z5
  obtain ⟨rfl, N5q, e5⟩ := hQ5
  have N5 := Fr.app N0 N5q
  obtain ⟨fs, hr, hrun, hended, hW, hsame⟩ := X5.leave (v := some (.int 0)) (fun h => by rw [Bd.returns] at h; cases h)
  refine ⟨_, _, pre0 _ ?_, hrun, hended, _, _, rfl, ?_, ⟨_, rfl⟩, hW, hsame.mono (by decide) (by decide)⟩
  · refine XS.iloadN X0.here hx rfl (hb hby d11_0) rfl ?_
    refine XS.iloadN X0.here hx rfl (hb hby d11_1) rfl ?_
    refine XS.iloadN X0.here hx rfl (hb hby d11_2) rfl ?_
    refine st5 _ ?_
    refine XS.ifYes X5.here hx rfl (pc0 := 6) (pc' := 37) rfl (hb hby d11_6) rfl ((if0 _ _).trans (teq (rfl : (0 : Int32) = (0 : Int32))).1) (by decide) (by decide) ?_
    refine XS.iconst X5.here hx rfl (hb hby d11_37) ?_
    exact retI X5 hx Bd.returns (hb hby d11_38) hr
  · show QR (some (.int 0)) h0 n0 _ T5.heap _
    rw [e5]
    exact ⟨rfl, N5, rfl⟩
theorem d11_9 : decode method_6_code 9 = .ok (.aload_n 0, 1) := by decide +kernel
theorem d11_10 : decode method_6_code 10 = .ok (.iload_n 1, 1) := by decide +kernel
theorem d11_11 : decode method_6_code 11 = .ok (.caload, 1) := by decide +kernel
theorem d11_12 : decode method_6_code 12 = .ok (.bipush 48, 2) := by decide +kernel
theorem d11_14 : decode method_6_code 14 = .ok (.if_icmp .lt 11, 3) := by decide +kernel
theorem d11_17 : decode method_6_code 17 = .ok (.aload_n 0, 1) := by decide +kernel
theorem d11_18 : decode method_6_code 18 = .ok (.iload_n 1, 1) := by decide +kernel
theorem d11_19 : decode method_6_code 19 = .ok (.caload, 1) := by decide +kernel
theorem d11_20 : decode method_6_code 20 = .ok (.bipush 57, 2) := by decide +kernel
theorem d11_22 : decode method_6_code 22 = .ok (.if_icmp .le 15, 3) := by decide +kernel
set_option maxRecDepth 65536 in
set_option maxHeartbeats 40000000 in
theorem r11a (l : Launch) (Z : State) (a0 : Array Value) (hw : ∀ d ∈ tables_1, d.before a0 Z = true) (ws : List Jvm.Cond) (a1 : Addr) (w6 : Int32) (cl_a1 : Cell) (w7 : Int32) (j st b : Nat) (h0 : Heap) (n0 : Nat) (Z0 : n0 ≤ h0.size) (Ar_a1 : Arr Z h0 a1 cl_a1 .char) (hin11 : ¬ ((Int32.ofNat j) < 0 ∨ cl_a1.slots.size ≤ ((Int32.ofNat j)).toNatClampNeg)) (hat11 : cl_a1.slots[((Int32.ofNat j)).toNatClampNeg]? = some (.int w6)) (hin19 : ¬ ((Int32.ofNat j) < 0 ∨ cl_a1.slots.size ≤ ((Int32.ofNat j)).toNatClampNeg)) (hat19 : cl_a1.slots[((Int32.ofNat j)).toNatClampNeg]? = some (.int w7)) (hc14 : ¬ (w6 < (48 : Int32))) (hc22 : ¬ ((57 : Int32) < w7)) (hj : j < 32) (hs : st < 32) (hb3 : b < 32) (hin : (st ≤ j ∧ j < b)) :
    MetFree l (⟨"com/example/bandmark/bandmark/PlainDecimalReadPinLaw", "bad", "([CIII)I"⟩ : MethodName) (head1 (Jvm.Cond.code (⟨"com/example/bandmark/bandmark/PlainDecimalReadPinLaw", "bad", "([CIII)I"⟩ : MethodName) method_6_code 4 (some .int) :: ws) ({ frames := 1, cells := 0, slots := 0, locals := 14 } : Room)) (fun a U => a = #[(.ref a1), (.int (Int32.ofNat j)), (.int (Int32.ofNat st)), (.int (Int32.ofNat b))] ∧ Z.Warmed39 U.vm ∧ U.heap = h0) (fun _ _ _ _ _ => True) (fun _ U o U' => ∃ v L, o = .returned v ∧ QR (some (.int 0)) h0 n0 v U'.heap L ∧ FrameEnd U o U' L ({ frames := 1, cells := 0, slots := 0, locals := 14 } : Room).cells ({ frames := 1, cells := 0, slots := 0, locals := 14 } : Room).slots) := by
  refine MetFree.of_bodySF (plainFor_of_name pn_11) hisR ?_
  intro p e s m args below meth c s₁ Bd hml0 hP hK
  obtain ⟨rfl, hZ, hh⟩ := hP
  have hx := Bd.exec
  have hby := Bd.bytes
  have hml : c.maxLocals = 4 := hml0
  have hown : s.vm.findClass "com/example/bandmark/bandmark/PlainDecimalReadPinLaw" = some m.cls := findClass_of_methodNamed Bd.named
  have hnm := (name_of_methodNamed Bd.named Bd.method).1
  have X0 : Stand p l e ({ frames := 1, cells := 0, slots := 0, locals := 14 } : Room) s m #[(.ref a1), (.int (Int32.ofNat j)), (.int (Int32.ofNat st)), (.int (Int32.ofNat b))] below meth c s₁ [] 0 0 := Stand.of_body Bd
  have e0 : s₁.heap = h0 := by rw [← hh, Bd.state]; rfl
  have N0 := Fr.nil n0
  have pre0 : ∀ t, Steps p.tables e below (s₁.setTop (mkF m 0 #[.val (.ref a1), .val (.int (Int32.ofNat j)), .val (.int (Int32.ofNat st)), .val (.int (Int32.ofNat b))] [])) t → Steps p.tables e below (s₁.setTop (entryFrame m #[(.ref a1), (.int (Int32.ofNat j)), (.int (Int32.ofNat st)), (.int (Int32.ofNat b))] 4)) t := fun t k => castTop (ef_11 m a1 (Int32.ofNat j) (Int32.ofNat st) (Int32.ofNat b)) k
  obtain ⟨_, _, ⟨T5, L5, k5, n5⟩, -, X5, ⟨Lc5, hQ5, l5, y5, z5⟩, st5⟩ := Jvm.LawKit.callS X0 hx (y := (⟨"com/example/bandmark/bandmark/PlainDecimalReadPinLaw", "in", "(III)Z"⟩ : MethodName)) hown (mvT hZ (own_W hw 39 rfl)) (mvT hZ (own_W hw 40 rfl)) (mvT hZ (own_W hw 3 rfl)) (mvT hZ (own_W hw 41 rfl)) (by decide) (backOf (W := 0) (r9y l Z a0 hw [] j st b  h0 n0 Z0 hj hs hb3 hin) hZ (own_W hw 41 rfl) (own_W hw 3 rfl) (by decide) (by decide)) (g := (mkF m 3 #[.val (.ref a1), .val (.int (Int32.ofNat j)), .val (.int (Int32.ofNat st)), .val (.int (Int32.ofNat b))] [(.int (Int32.ofNat b)), (.int (Int32.ofNat st)), (.int (Int32.ofNat j))])) rfl (by rw [hml]; rfl) (argsL := [(.int (Int32.ofNat j)), (.int (Int32.ofNat st)), (.int (Int32.ofNat b))]) (rest := []) (lenOf pd_11_8 rfl) rfl (by show 2 * 0 + _ ≤ _; exact Nat.le_of_eq rfl) (hb hby d11_3) (fun _ _ => ⟨rfl, e0, (by decide : 0 + 0 ≤ _), (by decide : 0 + 0 ≤ _)⟩)
  dsimp only [Pt.U, Pt.locs, Pt.cells, Pt.slots] at X5 l5 y5 z5 st5 hQ5
  subst l5 y5 z5
  obtain ⟨rfl, N5q, e5⟩ := hQ5
  have N5 := Fr.app N0 N5q
  obtain ⟨fs, hr, hrun, hended, hW, hsame⟩ := X5.leave (v := some (.int 0)) (fun h => by rw [Bd.returns] at h; cases h)
  refine ⟨_, _, pre0 _ ?_, hrun, hended, _, _, rfl, ?_, ⟨_, rfl⟩, hW, hsame.mono (by decide) (by decide)⟩
  · refine XS.iloadN X0.here hx rfl (hb hby d11_0) rfl ?_
    refine XS.iloadN X0.here hx rfl (hb hby d11_1) rfl ?_
    refine XS.iloadN X0.here hx rfl (hb hby d11_2) rfl ?_
    refine st5 _ ?_
    refine XS.ifNo X5.here hx rfl (hb hby d11_6) rfl ((if0 _ _).trans (feq (by decide : ¬ ((1 : Int32) = (0 : Int32)))).1) ?_
    refine XS.aloadN X5.here hx rfl (hb hby d11_9) rfl rfl ?_
    refine XS.iloadN X5.here hx rfl (hb hby d11_10) rfl ?_
    refine X5.caload hx (j := (Int32.ofNat j)) (v := (.int w6)) (by rw [e5]; exact Ar_a1.1) (State.isArrayOf_alike hZ.alike Ar_a1.2.1) Ar_a1.2.2 hin11 hat11 (g := (mkF m 11 #[.val (.ref a1), .val (.int (Int32.ofNat j)), .val (.int (Int32.ofNat st)), .val (.int (Int32.ofNat b))] [(.int (Int32.ofNat j)), (.ref a1)])) rfl rfl (hb hby d11_11) _ ?_
    refine XS.bipush X5.here hx rfl (hb hby d11_12) ?_
    refine XS.icmpNo X5.here hx rfl (hb hby d11_14) rfl (flt hc14).1 ?_
    refine XS.aloadN X5.here hx rfl (hb hby d11_17) rfl rfl ?_
    refine XS.iloadN X5.here hx rfl (hb hby d11_18) rfl ?_
    refine X5.caload hx (j := (Int32.ofNat j)) (v := (.int w7)) (by rw [e5]; exact Ar_a1.1) (State.isArrayOf_alike hZ.alike Ar_a1.2.1) Ar_a1.2.2 hin19 hat19 (g := (mkF m 19 #[.val (.ref a1), .val (.int (Int32.ofNat j)), .val (.int (Int32.ofNat st)), .val (.int (Int32.ofNat b))] [(.int (Int32.ofNat j)), (.ref a1)])) rfl rfl (hb hby d11_19) _ ?_
    refine XS.bipush X5.here hx rfl (hb hby d11_20) ?_
    refine XS.icmpYes X5.here hx rfl (pc0 := 22) (pc' := 37) rfl (hb hby d11_22) rfl (flt hc22).2.2.2 (by decide) (by decide) ?_
    refine XS.iconst X5.here hx rfl (hb hby d11_37) ?_
    exact retI X5 hx Bd.returns (hb hby d11_38) hr
  · show QR (some (.int 0)) h0 n0 _ T5.heap _
    rw [e5]
    exact ⟨rfl, N5, rfl⟩
theorem d11_25 : decode method_6_code 25 = .ok (.aload_n 0, 1) := by decide +kernel
theorem d11_26 : decode method_6_code 26 = .ok (.iload_n 1, 1) := by decide +kernel
theorem d11_27 : decode method_6_code 27 = .ok (.caload, 1) := by decide +kernel
theorem d11_28 : decode method_6_code 28 = .ok (.bipush 46, 2) := by decide +kernel
theorem d11_30 : decode method_6_code 30 = .ok (.if_icmp .eq 7, 3) := by decide +kernel
set_option maxRecDepth 65536 in
set_option maxHeartbeats 40000000 in
theorem r11b (l : Launch) (Z : State) (a0 : Array Value) (hw : ∀ d ∈ tables_1, d.before a0 Z = true) (ws : List Jvm.Cond) (a1 : Addr) (w6 : Int32) (cl_a1 : Cell) (w7 : Int32) (j st b : Nat) (h0 : Heap) (n0 : Nat) (Z0 : n0 ≤ h0.size) (Ar_a1 : Arr Z h0 a1 cl_a1 .char) (hin11 : ¬ ((Int32.ofNat j) < 0 ∨ cl_a1.slots.size ≤ ((Int32.ofNat j)).toNatClampNeg)) (hat11 : cl_a1.slots[((Int32.ofNat j)).toNatClampNeg]? = some (.int w6)) (hin27 : ¬ ((Int32.ofNat j) < 0 ∨ cl_a1.slots.size ≤ ((Int32.ofNat j)).toNatClampNeg)) (hat27 : cl_a1.slots[((Int32.ofNat j)).toNatClampNeg]? = some (.int w7)) (hc14 : w6 < (48 : Int32)) (hc30 : w7 = (46 : Int32)) (hj : j < 32) (hs : st < 32) (hb3 : b < 32) (hin : (st ≤ j ∧ j < b)) :
    MetFree l (⟨"com/example/bandmark/bandmark/PlainDecimalReadPinLaw", "bad", "([CIII)I"⟩ : MethodName) (head1 (Jvm.Cond.code (⟨"com/example/bandmark/bandmark/PlainDecimalReadPinLaw", "bad", "([CIII)I"⟩ : MethodName) method_6_code 4 (some .int) :: ws) ({ frames := 1, cells := 0, slots := 0, locals := 14 } : Room)) (fun a U => a = #[(.ref a1), (.int (Int32.ofNat j)), (.int (Int32.ofNat st)), (.int (Int32.ofNat b))] ∧ Z.Warmed39 U.vm ∧ U.heap = h0) (fun _ _ _ _ _ => True) (fun _ U o U' => ∃ v L, o = .returned v ∧ QR (some (.int 0)) h0 n0 v U'.heap L ∧ FrameEnd U o U' L ({ frames := 1, cells := 0, slots := 0, locals := 14 } : Room).cells ({ frames := 1, cells := 0, slots := 0, locals := 14 } : Room).slots) := by
  refine MetFree.of_bodySF (plainFor_of_name pn_11) hisR ?_
  intro p e s m args below meth c s₁ Bd hml0 hP hK
  obtain ⟨rfl, hZ, hh⟩ := hP
  have hx := Bd.exec
  have hby := Bd.bytes
  have hml : c.maxLocals = 4 := hml0
  have hown : s.vm.findClass "com/example/bandmark/bandmark/PlainDecimalReadPinLaw" = some m.cls := findClass_of_methodNamed Bd.named
  have hnm := (name_of_methodNamed Bd.named Bd.method).1
  have X0 : Stand p l e ({ frames := 1, cells := 0, slots := 0, locals := 14 } : Room) s m #[(.ref a1), (.int (Int32.ofNat j)), (.int (Int32.ofNat st)), (.int (Int32.ofNat b))] below meth c s₁ [] 0 0 := Stand.of_body Bd
  have e0 : s₁.heap = h0 := by rw [← hh, Bd.state]; rfl
  have N0 := Fr.nil n0
  have pre0 : ∀ t, Steps p.tables e below (s₁.setTop (mkF m 0 #[.val (.ref a1), .val (.int (Int32.ofNat j)), .val (.int (Int32.ofNat st)), .val (.int (Int32.ofNat b))] [])) t → Steps p.tables e below (s₁.setTop (entryFrame m #[(.ref a1), (.int (Int32.ofNat j)), (.int (Int32.ofNat st)), (.int (Int32.ofNat b))] 4)) t := fun t k => castTop (ef_11 m a1 (Int32.ofNat j) (Int32.ofNat st) (Int32.ofNat b)) k
  obtain ⟨_, _, ⟨T5, L5, k5, n5⟩, -, X5, ⟨Lc5, hQ5, l5, y5, z5⟩, st5⟩ := Jvm.LawKit.callS X0 hx (y := (⟨"com/example/bandmark/bandmark/PlainDecimalReadPinLaw", "in", "(III)Z"⟩ : MethodName)) hown (mvT hZ (own_W hw 39 rfl)) (mvT hZ (own_W hw 40 rfl)) (mvT hZ (own_W hw 3 rfl)) (mvT hZ (own_W hw 41 rfl)) (by decide) (backOf (W := 0) (r9y l Z a0 hw [] j st b  h0 n0 Z0 hj hs hb3 hin) hZ (own_W hw 41 rfl) (own_W hw 3 rfl) (by decide) (by decide)) (g := (mkF m 3 #[.val (.ref a1), .val (.int (Int32.ofNat j)), .val (.int (Int32.ofNat st)), .val (.int (Int32.ofNat b))] [(.int (Int32.ofNat b)), (.int (Int32.ofNat st)), (.int (Int32.ofNat j))])) rfl (by rw [hml]; rfl) (argsL := [(.int (Int32.ofNat j)), (.int (Int32.ofNat st)), (.int (Int32.ofNat b))]) (rest := []) (lenOf pd_11_8 rfl) rfl (by show 2 * 0 + _ ≤ _; exact Nat.le_of_eq rfl) (hb hby d11_3) (fun _ _ => ⟨rfl, e0, (by decide : 0 + 0 ≤ _), (by decide : 0 + 0 ≤ _)⟩)
  dsimp only [Pt.U, Pt.locs, Pt.cells, Pt.slots] at X5 l5 y5 z5 st5 hQ5
  subst l5 y5 z5
  obtain ⟨rfl, N5q, e5⟩ := hQ5
  have N5 := Fr.app N0 N5q
  obtain ⟨fs, hr, hrun, hended, hW, hsame⟩ := X5.leave (v := some (.int 0)) (fun h => by rw [Bd.returns] at h; cases h)
  refine ⟨_, _, pre0 _ ?_, hrun, hended, _, _, rfl, ?_, ⟨_, rfl⟩, hW, hsame.mono (by decide) (by decide)⟩
  · refine XS.iloadN X0.here hx rfl (hb hby d11_0) rfl ?_
    refine XS.iloadN X0.here hx rfl (hb hby d11_1) rfl ?_
    refine XS.iloadN X0.here hx rfl (hb hby d11_2) rfl ?_
    refine st5 _ ?_
    refine XS.ifNo X5.here hx rfl (hb hby d11_6) rfl ((if0 _ _).trans (feq (by decide : ¬ ((1 : Int32) = (0 : Int32)))).1) ?_
    refine XS.aloadN X5.here hx rfl (hb hby d11_9) rfl rfl ?_
    refine XS.iloadN X5.here hx rfl (hb hby d11_10) rfl ?_
    refine X5.caload hx (j := (Int32.ofNat j)) (v := (.int w6)) (by rw [e5]; exact Ar_a1.1) (State.isArrayOf_alike hZ.alike Ar_a1.2.1) Ar_a1.2.2 hin11 hat11 (g := (mkF m 11 #[.val (.ref a1), .val (.int (Int32.ofNat j)), .val (.int (Int32.ofNat st)), .val (.int (Int32.ofNat b))] [(.int (Int32.ofNat j)), (.ref a1)])) rfl rfl (hb hby d11_11) _ ?_
    refine XS.bipush X5.here hx rfl (hb hby d11_12) ?_
    refine XS.icmpYes X5.here hx rfl (pc0 := 14) (pc' := 25) rfl (hb hby d11_14) rfl (tlt hc14).1 (by decide) (by decide) ?_
    refine XS.aloadN X5.here hx rfl (hb hby d11_25) rfl rfl ?_
    refine XS.iloadN X5.here hx rfl (hb hby d11_26) rfl ?_
    refine X5.caload hx (j := (Int32.ofNat j)) (v := (.int w7)) (by rw [e5]; exact Ar_a1.1) (State.isArrayOf_alike hZ.alike Ar_a1.2.1) Ar_a1.2.2 hin27 hat27 (g := (mkF m 27 #[.val (.ref a1), .val (.int (Int32.ofNat j)), .val (.int (Int32.ofNat st)), .val (.int (Int32.ofNat b))] [(.int (Int32.ofNat j)), (.ref a1)])) rfl rfl (hb hby d11_27) _ ?_
    refine XS.bipush X5.here hx rfl (hb hby d11_28) ?_
    refine XS.icmpYes X5.here hx rfl (pc0 := 30) (pc' := 37) rfl (hb hby d11_30) rfl (teq hc30).1 (by decide) (by decide) ?_
    refine XS.iconst X5.here hx rfl (hb hby d11_37) ?_
    exact retI X5 hx Bd.returns (hb hby d11_38) hr
  · show QR (some (.int 0)) h0 n0 _ T5.heap _
    rw [e5]
    exact ⟨rfl, N5, rfl⟩
theorem d11_33 : decode method_6_code 33 = .ok (.iconst 1, 1) := by decide +kernel
theorem d11_34 : decode method_6_code 34 = .ok (.goto 4, 3) := by decide +kernel
set_option maxRecDepth 65536 in
set_option maxHeartbeats 40000000 in
theorem r11c (l : Launch) (Z : State) (a0 : Array Value) (hw : ∀ d ∈ tables_1, d.before a0 Z = true) (ws : List Jvm.Cond) (a1 : Addr) (w6 : Int32) (cl_a1 : Cell) (w7 : Int32) (j st b : Nat) (h0 : Heap) (n0 : Nat) (Z0 : n0 ≤ h0.size) (Ar_a1 : Arr Z h0 a1 cl_a1 .char) (hin11 : ¬ ((Int32.ofNat j) < 0 ∨ cl_a1.slots.size ≤ ((Int32.ofNat j)).toNatClampNeg)) (hat11 : cl_a1.slots[((Int32.ofNat j)).toNatClampNeg]? = some (.int w6)) (hin27 : ¬ ((Int32.ofNat j) < 0 ∨ cl_a1.slots.size ≤ ((Int32.ofNat j)).toNatClampNeg)) (hat27 : cl_a1.slots[((Int32.ofNat j)).toNatClampNeg]? = some (.int w7)) (hc14 : w6 < (48 : Int32)) (hc30 : ¬ (w7 = (46 : Int32))) (hj : j < 32) (hs : st < 32) (hb3 : b < 32) (hin : (st ≤ j ∧ j < b)) :
    MetFree l (⟨"com/example/bandmark/bandmark/PlainDecimalReadPinLaw", "bad", "([CIII)I"⟩ : MethodName) (head1 (Jvm.Cond.code (⟨"com/example/bandmark/bandmark/PlainDecimalReadPinLaw", "bad", "([CIII)I"⟩ : MethodName) method_6_code 4 (some .int) :: ws) ({ frames := 1, cells := 0, slots := 0, locals := 14 } : Room)) (fun a U => a = #[(.ref a1), (.int (Int32.ofNat j)), (.int (Int32.ofNat st)), (.int (Int32.ofNat b))] ∧ Z.Warmed39 U.vm ∧ U.heap = h0) (fun _ _ _ _ _ => True) (fun _ U o U' => ∃ v L, o = .returned v ∧ QR (some (.int 1)) h0 n0 v U'.heap L ∧ FrameEnd U o U' L ({ frames := 1, cells := 0, slots := 0, locals := 14 } : Room).cells ({ frames := 1, cells := 0, slots := 0, locals := 14 } : Room).slots) := by
  refine MetFree.of_bodySF (plainFor_of_name pn_11) hisR ?_
  intro p e s m args below meth c s₁ Bd hml0 hP hK
  obtain ⟨rfl, hZ, hh⟩ := hP
  have hx := Bd.exec
  have hby := Bd.bytes
  have hml : c.maxLocals = 4 := hml0
  have hown : s.vm.findClass "com/example/bandmark/bandmark/PlainDecimalReadPinLaw" = some m.cls := findClass_of_methodNamed Bd.named
  have hnm := (name_of_methodNamed Bd.named Bd.method).1
  have X0 : Stand p l e ({ frames := 1, cells := 0, slots := 0, locals := 14 } : Room) s m #[(.ref a1), (.int (Int32.ofNat j)), (.int (Int32.ofNat st)), (.int (Int32.ofNat b))] below meth c s₁ [] 0 0 := Stand.of_body Bd
  have e0 : s₁.heap = h0 := by rw [← hh, Bd.state]; rfl
  have N0 := Fr.nil n0
  have pre0 : ∀ t, Steps p.tables e below (s₁.setTop (mkF m 0 #[.val (.ref a1), .val (.int (Int32.ofNat j)), .val (.int (Int32.ofNat st)), .val (.int (Int32.ofNat b))] [])) t → Steps p.tables e below (s₁.setTop (entryFrame m #[(.ref a1), (.int (Int32.ofNat j)), (.int (Int32.ofNat st)), (.int (Int32.ofNat b))] 4)) t := fun t k => castTop (ef_11 m a1 (Int32.ofNat j) (Int32.ofNat st) (Int32.ofNat b)) k
  obtain ⟨_, _, ⟨T5, L5, k5, n5⟩, -, X5, ⟨Lc5, hQ5, l5, y5, z5⟩, st5⟩ := Jvm.LawKit.callS X0 hx (y := (⟨"com/example/bandmark/bandmark/PlainDecimalReadPinLaw", "in", "(III)Z"⟩ : MethodName)) hown (mvT hZ (own_W hw 39 rfl)) (mvT hZ (own_W hw 40 rfl)) (mvT hZ (own_W hw 3 rfl)) (mvT hZ (own_W hw 41 rfl)) (by decide) (backOf (W := 0) (r9y l Z a0 hw [] j st b  h0 n0 Z0 hj hs hb3 hin) hZ (own_W hw 41 rfl) (own_W hw 3 rfl) (by decide) (by decide)) (g := (mkF m 3 #[.val (.ref a1), .val (.int (Int32.ofNat j)), .val (.int (Int32.ofNat st)), .val (.int (Int32.ofNat b))] [(.int (Int32.ofNat b)), (.int (Int32.ofNat st)), (.int (Int32.ofNat j))])) rfl (by rw [hml]; rfl) (argsL := [(.int (Int32.ofNat j)), (.int (Int32.ofNat st)), (.int (Int32.ofNat b))]) (rest := []) (lenOf pd_11_8 rfl) rfl (by show 2 * 0 + _ ≤ _; exact Nat.le_of_eq rfl) (hb hby d11_3) (fun _ _ => ⟨rfl, e0, (by decide : 0 + 0 ≤ _), (by decide : 0 + 0 ≤ _)⟩)
  dsimp only [Pt.U, Pt.locs, Pt.cells, Pt.slots] at X5 l5 y5 z5 st5 hQ5
  subst l5 y5 z5
  obtain ⟨rfl, N5q, e5⟩ := hQ5
  have N5 := Fr.app N0 N5q
  obtain ⟨fs, hr, hrun, hended, hW, hsame⟩ := X5.leave (v := some (.int 1)) (fun h => by rw [Bd.returns] at h; cases h)
  refine ⟨_, _, pre0 _ ?_, hrun, hended, _, _, rfl, ?_, ⟨_, rfl⟩, hW, hsame.mono (by decide) (by decide)⟩
  · refine XS.iloadN X0.here hx rfl (hb hby d11_0) rfl ?_
    refine XS.iloadN X0.here hx rfl (hb hby d11_1) rfl ?_
    refine XS.iloadN X0.here hx rfl (hb hby d11_2) rfl ?_
    refine st5 _ ?_
    refine XS.ifNo X5.here hx rfl (hb hby d11_6) rfl ((if0 _ _).trans (feq (by decide : ¬ ((1 : Int32) = (0 : Int32)))).1) ?_
    refine XS.aloadN X5.here hx rfl (hb hby d11_9) rfl rfl ?_
    refine XS.iloadN X5.here hx rfl (hb hby d11_10) rfl ?_
    refine X5.caload hx (j := (Int32.ofNat j)) (v := (.int w6)) (by rw [e5]; exact Ar_a1.1) (State.isArrayOf_alike hZ.alike Ar_a1.2.1) Ar_a1.2.2 hin11 hat11 (g := (mkF m 11 #[.val (.ref a1), .val (.int (Int32.ofNat j)), .val (.int (Int32.ofNat st)), .val (.int (Int32.ofNat b))] [(.int (Int32.ofNat j)), (.ref a1)])) rfl rfl (hb hby d11_11) _ ?_
    refine XS.bipush X5.here hx rfl (hb hby d11_12) ?_
    refine XS.icmpYes X5.here hx rfl (pc0 := 14) (pc' := 25) rfl (hb hby d11_14) rfl (tlt hc14).1 (by decide) (by decide) ?_
    refine XS.aloadN X5.here hx rfl (hb hby d11_25) rfl rfl ?_
    refine XS.iloadN X5.here hx rfl (hb hby d11_26) rfl ?_
    refine X5.caload hx (j := (Int32.ofNat j)) (v := (.int w7)) (by rw [e5]; exact Ar_a1.1) (State.isArrayOf_alike hZ.alike Ar_a1.2.1) Ar_a1.2.2 hin27 hat27 (g := (mkF m 27 #[.val (.ref a1), .val (.int (Int32.ofNat j)), .val (.int (Int32.ofNat st)), .val (.int (Int32.ofNat b))] [(.int (Int32.ofNat j)), (.ref a1)])) rfl rfl (hb hby d11_27) _ ?_
    refine XS.bipush X5.here hx rfl (hb hby d11_28) ?_
    refine XS.icmpNo X5.here hx rfl (hb hby d11_30) rfl (feq hc30).1 ?_
    refine XS.iconst X5.here hx rfl (hb hby d11_33) ?_
    refine XS.goto X5.here hx rfl (pc0 := 34) (pc' := 38) rfl (hb hby d11_34) (by decide) (by decide) ?_
    exact retI X5 hx Bd.returns (hb hby d11_38) hr
  · show QR (some (.int 1)) h0 n0 _ T5.heap _
    rw [e5]
    exact ⟨rfl, N5, rfl⟩
set_option maxRecDepth 65536 in
set_option maxHeartbeats 40000000 in
theorem r11d (l : Launch) (Z : State) (a0 : Array Value) (hw : ∀ d ∈ tables_1, d.before a0 Z = true) (ws : List Jvm.Cond) (a1 : Addr) (w6 : Int32) (cl_a1 : Cell) (w7 : Int32) (w8 : Int32) (j st b : Nat) (h0 : Heap) (n0 : Nat) (Z0 : n0 ≤ h0.size) (Ar_a1 : Arr Z h0 a1 cl_a1 .char) (hin11 : ¬ ((Int32.ofNat j) < 0 ∨ cl_a1.slots.size ≤ ((Int32.ofNat j)).toNatClampNeg)) (hat11 : cl_a1.slots[((Int32.ofNat j)).toNatClampNeg]? = some (.int w6)) (hin19 : ¬ ((Int32.ofNat j) < 0 ∨ cl_a1.slots.size ≤ ((Int32.ofNat j)).toNatClampNeg)) (hat19 : cl_a1.slots[((Int32.ofNat j)).toNatClampNeg]? = some (.int w7)) (hin27 : ¬ ((Int32.ofNat j) < 0 ∨ cl_a1.slots.size ≤ ((Int32.ofNat j)).toNatClampNeg)) (hat27 : cl_a1.slots[((Int32.ofNat j)).toNatClampNeg]? = some (.int w8)) (hc14 : ¬ (w6 < (48 : Int32))) (hc22 : (57 : Int32) < w7) (hc30 : ¬ (w8 = (46 : Int32))) (hj : j < 32) (hs : st < 32) (hb3 : b < 32) (hin : (st ≤ j ∧ j < b)) :
    MetFree l (⟨"com/example/bandmark/bandmark/PlainDecimalReadPinLaw", "bad", "([CIII)I"⟩ : MethodName) (head1 (Jvm.Cond.code (⟨"com/example/bandmark/bandmark/PlainDecimalReadPinLaw", "bad", "([CIII)I"⟩ : MethodName) method_6_code 4 (some .int) :: ws) ({ frames := 1, cells := 0, slots := 0, locals := 14 } : Room)) (fun a U => a = #[(.ref a1), (.int (Int32.ofNat j)), (.int (Int32.ofNat st)), (.int (Int32.ofNat b))] ∧ Z.Warmed39 U.vm ∧ U.heap = h0) (fun _ _ _ _ _ => True) (fun _ U o U' => ∃ v L, o = .returned v ∧ QR (some (.int 1)) h0 n0 v U'.heap L ∧ FrameEnd U o U' L ({ frames := 1, cells := 0, slots := 0, locals := 14 } : Room).cells ({ frames := 1, cells := 0, slots := 0, locals := 14 } : Room).slots) := by
  refine MetFree.of_bodySF (plainFor_of_name pn_11) hisR ?_
  intro p e s m args below meth c s₁ Bd hml0 hP hK
  obtain ⟨rfl, hZ, hh⟩ := hP
  have hx := Bd.exec
  have hby := Bd.bytes
  have hml : c.maxLocals = 4 := hml0
  have hown : s.vm.findClass "com/example/bandmark/bandmark/PlainDecimalReadPinLaw" = some m.cls := findClass_of_methodNamed Bd.named
  have hnm := (name_of_methodNamed Bd.named Bd.method).1
  have X0 : Stand p l e ({ frames := 1, cells := 0, slots := 0, locals := 14 } : Room) s m #[(.ref a1), (.int (Int32.ofNat j)), (.int (Int32.ofNat st)), (.int (Int32.ofNat b))] below meth c s₁ [] 0 0 := Stand.of_body Bd
  have e0 : s₁.heap = h0 := by rw [← hh, Bd.state]; rfl
  have N0 := Fr.nil n0
  have pre0 : ∀ t, Steps p.tables e below (s₁.setTop (mkF m 0 #[.val (.ref a1), .val (.int (Int32.ofNat j)), .val (.int (Int32.ofNat st)), .val (.int (Int32.ofNat b))] [])) t → Steps p.tables e below (s₁.setTop (entryFrame m #[(.ref a1), (.int (Int32.ofNat j)), (.int (Int32.ofNat st)), (.int (Int32.ofNat b))] 4)) t := fun t k => castTop (ef_11 m a1 (Int32.ofNat j) (Int32.ofNat st) (Int32.ofNat b)) k
  obtain ⟨_, _, ⟨T5, L5, k5, n5⟩, -, X5, ⟨Lc5, hQ5, l5, y5, z5⟩, st5⟩ := Jvm.LawKit.callS X0 hx (y := (⟨"com/example/bandmark/bandmark/PlainDecimalReadPinLaw", "in", "(III)Z"⟩ : MethodName)) hown (mvT hZ (own_W hw 39 rfl)) (mvT hZ (own_W hw 40 rfl)) (mvT hZ (own_W hw 3 rfl)) (mvT hZ (own_W hw 41 rfl)) (by decide) (backOf (W := 0) (r9y l Z a0 hw [] j st b  h0 n0 Z0 hj hs hb3 hin) hZ (own_W hw 41 rfl) (own_W hw 3 rfl) (by decide) (by decide)) (g := (mkF m 3 #[.val (.ref a1), .val (.int (Int32.ofNat j)), .val (.int (Int32.ofNat st)), .val (.int (Int32.ofNat b))] [(.int (Int32.ofNat b)), (.int (Int32.ofNat st)), (.int (Int32.ofNat j))])) rfl (by rw [hml]; rfl) (argsL := [(.int (Int32.ofNat j)), (.int (Int32.ofNat st)), (.int (Int32.ofNat b))]) (rest := []) (lenOf pd_11_8 rfl) rfl (by show 2 * 0 + _ ≤ _; exact Nat.le_of_eq rfl) (hb hby d11_3) (fun _ _ => ⟨rfl, e0, (by decide : 0 + 0 ≤ _), (by decide : 0 + 0 ≤ _)⟩)
  dsimp only [Pt.U, Pt.locs, Pt.cells, Pt.slots] at X5 l5 y5 z5 st5 hQ5
  subst l5 y5 z5
  obtain ⟨rfl, N5q, e5⟩ := hQ5
  have N5 := Fr.app N0 N5q
  obtain ⟨fs, hr, hrun, hended, hW, hsame⟩ := X5.leave (v := some (.int 1)) (fun h => by rw [Bd.returns] at h; cases h)
  refine ⟨_, _, pre0 _ ?_, hrun, hended, _, _, rfl, ?_, ⟨_, rfl⟩, hW, hsame.mono (by decide) (by decide)⟩
  · refine XS.iloadN X0.here hx rfl (hb hby d11_0) rfl ?_
    refine XS.iloadN X0.here hx rfl (hb hby d11_1) rfl ?_
    refine XS.iloadN X0.here hx rfl (hb hby d11_2) rfl ?_
    refine st5 _ ?_
    refine XS.ifNo X5.here hx rfl (hb hby d11_6) rfl ((if0 _ _).trans (feq (by decide : ¬ ((1 : Int32) = (0 : Int32)))).1) ?_
    refine XS.aloadN X5.here hx rfl (hb hby d11_9) rfl rfl ?_
    refine XS.iloadN X5.here hx rfl (hb hby d11_10) rfl ?_
    refine X5.caload hx (j := (Int32.ofNat j)) (v := (.int w6)) (by rw [e5]; exact Ar_a1.1) (State.isArrayOf_alike hZ.alike Ar_a1.2.1) Ar_a1.2.2 hin11 hat11 (g := (mkF m 11 #[.val (.ref a1), .val (.int (Int32.ofNat j)), .val (.int (Int32.ofNat st)), .val (.int (Int32.ofNat b))] [(.int (Int32.ofNat j)), (.ref a1)])) rfl rfl (hb hby d11_11) _ ?_
    refine XS.bipush X5.here hx rfl (hb hby d11_12) ?_
    refine XS.icmpNo X5.here hx rfl (hb hby d11_14) rfl (flt hc14).1 ?_
    refine XS.aloadN X5.here hx rfl (hb hby d11_17) rfl rfl ?_
    refine XS.iloadN X5.here hx rfl (hb hby d11_18) rfl ?_
    refine X5.caload hx (j := (Int32.ofNat j)) (v := (.int w7)) (by rw [e5]; exact Ar_a1.1) (State.isArrayOf_alike hZ.alike Ar_a1.2.1) Ar_a1.2.2 hin19 hat19 (g := (mkF m 19 #[.val (.ref a1), .val (.int (Int32.ofNat j)), .val (.int (Int32.ofNat st)), .val (.int (Int32.ofNat b))] [(.int (Int32.ofNat j)), (.ref a1)])) rfl rfl (hb hby d11_19) _ ?_
    refine XS.bipush X5.here hx rfl (hb hby d11_20) ?_
    refine XS.icmpNo X5.here hx rfl (hb hby d11_22) rfl (tlt hc22).2.2.2 ?_
    refine XS.aloadN X5.here hx rfl (hb hby d11_25) rfl rfl ?_
    refine XS.iloadN X5.here hx rfl (hb hby d11_26) rfl ?_
    refine X5.caload hx (j := (Int32.ofNat j)) (v := (.int w8)) (by rw [e5]; exact Ar_a1.1) (State.isArrayOf_alike hZ.alike Ar_a1.2.1) Ar_a1.2.2 hin27 hat27 (g := (mkF m 27 #[.val (.ref a1), .val (.int (Int32.ofNat j)), .val (.int (Int32.ofNat st)), .val (.int (Int32.ofNat b))] [(.int (Int32.ofNat j)), (.ref a1)])) rfl rfl (hb hby d11_27) _ ?_
    refine XS.bipush X5.here hx rfl (hb hby d11_28) ?_
    refine XS.icmpNo X5.here hx rfl (hb hby d11_30) rfl (feq hc30).1 ?_
    refine XS.iconst X5.here hx rfl (hb hby d11_33) ?_
    refine XS.goto X5.here hx rfl (pc0 := 34) (pc' := 38) rfl (hb hby d11_34) (by decide) (by decide) ?_
    exact retI X5 hx Bd.returns (hb hby d11_38) hr
  · show QR (some (.int 1)) h0 n0 _ T5.heap _
    rw [e5]
    exact ⟨rfl, N5, rfl⟩
def own_vd (cs : List Int32) (j st b : Nat) : Bool := decide ((st ≤ j ∧ j < b) ∧ ¬ cs.getD j 0 < 48 ∧ ¬ 57 < cs.getD j 0)
def own_vp (cs : List Int32) (j st b : Nat) : Bool := decide ((st ≤ j ∧ j < b) ∧ cs.getD j 0 = 46)
def own_vb (cs : List Int32) (j st b : Nat) : Bool := decide ((st ≤ j ∧ j < b) ∧ ¬ (¬ cs.getD j 0 < 48 ∧ ¬ 57 < cs.getD j 0) ∧ ¬ cs.getD j 0 = 46)
theorem r8 (l : Launch) (Z : State) (a0 : Array Value) (hw : ∀ d ∈ tables_1, d.before a0 Z = true) (ws : List Jvm.Cond) (a1 : Addr) (cs : List Int32) (j st b : Nat) (kc : ClassId) (h0 : Heap) (n0 : Nat) (Z0 : n0 ≤ h0.size) (hcs : cs.length = 5) (hj : j < 5) (hs : st < 32) (hb3 : b < 32) (C : Arv Z h0 a1 kc .char (5 : Int32) (cs.map Value.int) (.int 0)) :
    MetFree l (⟨"com/example/bandmark/bandmark/PlainDecimalReadPinLaw", "dig", "([CIII)I"⟩ : MethodName) (head1 (Jvm.Cond.code (⟨"com/example/bandmark/bandmark/PlainDecimalReadPinLaw", "dig", "([CIII)I"⟩ : MethodName) method_4_code 4 (some .int) :: ws) ({ frames := 1, cells := 0, slots := 0, locals := 14 } : Room)) (fun a U => a = #[(.ref a1), (.int (Int32.ofNat j)), (.int (Int32.ofNat st)), (.int (Int32.ofNat b))] ∧ Z.Warmed39 U.vm ∧ U.heap = h0) (fun _ _ _ _ _ => True) (fun _ U o U' => ∃ v L, o = .returned v ∧ QR (some (.int (own_b (own_vd cs j st b)))) h0 n0 v U'.heap L ∧ FrameEnd U o U' L ({ frames := 1, cells := 0, slots := 0, locals := 14 } : Room).cells ({ frames := 1, cells := 0, slots := 0, locals := 14 } : Room).slots) := by
  obtain ⟨cl, Ar, qc, S, N, H, G⟩ := C
  have x1 : (Int32.ofNat j).toNatClampNeg = j := own_cl j (by omega)
  have hin' : j < 5 → ¬ (Int32.ofNat j < 0 ∨ cl.slots.size ≤ (Int32.ofNat j).toNatClampNeg) := fun h5 q => q.elim (own_nn j (by omega)) (by rw [x1, S]; show ¬ 5 ≤ j; omega)
  have hat' : j < 5 → cl.slots[(Int32.ofNat j).toNatClampNeg]? = some (.int (cs.getD j 0)) := fun h5 => by
    rw [x1, H j (by rw [S]; exact h5)]
    simp [List.getD_eq_getElem?_getD, List.getElem?_eq_getElem (show j < cs.length by omega)]
  by_cases hin : (st ≤ j ∧ j < b)
  · by_cases h1 : cs.getD j 0 < 48
    · rw [show own_vd cs j st b = false from decide_eq_false fun q => q.2.1 h1]
      exact r8a l Z a0 hw ws a1 (cs.getD j 0) cl j st b h0 n0 Z0 Ar (hin' hj) (hat' hj) h1 (by omega) hs hb3 hin
    by_cases h2 : 57 < cs.getD j 0
    · rw [show own_vd cs j st b = false from decide_eq_false fun q => q.2.2 h2]
      exact r8b l Z a0 hw ws a1 (cs.getD j 0) cl (cs.getD j 0) j st b h0 n0 Z0 Ar (hin' hj) (hat' hj) (hin' hj) (hat' hj) h1 h2 (by omega) hs hb3 hin
    · rw [show own_vd cs j st b = true from decide_eq_true ⟨hin, h1, h2⟩]
      exact r8c l Z a0 hw ws a1 (cs.getD j 0) cl (cs.getD j 0) j st b h0 n0 Z0 Ar (hin' hj) (hat' hj) (hin' hj) (hat' hj) h1 h2 (by omega) hs hb3 hin
  · rw [show own_vd cs j st b = false from decide_eq_false fun q => hin q.1]
    exact r8n l Z a0 hw ws a1 j st b h0 n0 Z0 (by omega) hs hb3 hin
theorem r10 (l : Launch) (Z : State) (a0 : Array Value) (hw : ∀ d ∈ tables_1, d.before a0 Z = true) (ws : List Jvm.Cond) (a1 : Addr) (cs : List Int32) (j st b : Nat) (kc : ClassId) (h0 : Heap) (n0 : Nat) (Z0 : n0 ≤ h0.size) (hcs : cs.length = 5) (hj : j < 5) (hs : st < 32) (hb3 : b < 32) (C : Arv Z h0 a1 kc .char (5 : Int32) (cs.map Value.int) (.int 0)) :
    MetFree l (⟨"com/example/bandmark/bandmark/PlainDecimalReadPinLaw", "pt", "([CIII)I"⟩ : MethodName) (head1 (Jvm.Cond.code (⟨"com/example/bandmark/bandmark/PlainDecimalReadPinLaw", "pt", "([CIII)I"⟩ : MethodName) method_5_code 4 (some .int) :: ws) ({ frames := 1, cells := 0, slots := 0, locals := 14 } : Room)) (fun a U => a = #[(.ref a1), (.int (Int32.ofNat j)), (.int (Int32.ofNat st)), (.int (Int32.ofNat b))] ∧ Z.Warmed39 U.vm ∧ U.heap = h0) (fun _ _ _ _ _ => True) (fun _ U o U' => ∃ v L, o = .returned v ∧ QR (some (.int (own_b (own_vp cs j st b)))) h0 n0 v U'.heap L ∧ FrameEnd U o U' L ({ frames := 1, cells := 0, slots := 0, locals := 14 } : Room).cells ({ frames := 1, cells := 0, slots := 0, locals := 14 } : Room).slots) := by
  obtain ⟨cl, Ar, qc, S, N, H, G⟩ := C
  have x1 : (Int32.ofNat j).toNatClampNeg = j := own_cl j (by omega)
  have hin' : j < 5 → ¬ (Int32.ofNat j < 0 ∨ cl.slots.size ≤ (Int32.ofNat j).toNatClampNeg) := fun h5 q => q.elim (own_nn j (by omega)) (by rw [x1, S]; show ¬ 5 ≤ j; omega)
  have hat' : j < 5 → cl.slots[(Int32.ofNat j).toNatClampNeg]? = some (.int (cs.getD j 0)) := fun h5 => by
    rw [x1, H j (by rw [S]; exact h5)]
    simp [List.getD_eq_getElem?_getD, List.getElem?_eq_getElem (show j < cs.length by omega)]
  by_cases hin : (st ≤ j ∧ j < b)
  · by_cases h1 : cs.getD j 0 = 46
    · rw [show own_vp cs j st b = true from decide_eq_true ⟨hin, h1⟩]
      exact r10c l Z a0 hw ws a1 (cs.getD j 0) cl j st b h0 n0 Z0 Ar (hin' hj) (hat' hj) h1 (by omega) hs hb3 hin
    · rw [show own_vp cs j st b = false from decide_eq_false fun q => h1 q.2]
      exact r10a l Z a0 hw ws a1 (cs.getD j 0) cl j st b h0 n0 Z0 Ar (hin' hj) (hat' hj) h1 (by omega) hs hb3 hin
  · rw [show own_vp cs j st b = false from decide_eq_false fun q => hin q.1]
    exact r10n l Z a0 hw ws a1 j st b h0 n0 Z0 (by omega) hs hb3 hin
theorem r11 (l : Launch) (Z : State) (a0 : Array Value) (hw : ∀ d ∈ tables_1, d.before a0 Z = true) (ws : List Jvm.Cond) (a1 : Addr) (cs : List Int32) (j st b : Nat) (kc : ClassId) (h0 : Heap) (n0 : Nat) (Z0 : n0 ≤ h0.size) (hcs : cs.length = 5) (hj : j < 5) (hs : st < 32) (hb3 : b < 32) (C : Arv Z h0 a1 kc .char (5 : Int32) (cs.map Value.int) (.int 0)) :
    MetFree l (⟨"com/example/bandmark/bandmark/PlainDecimalReadPinLaw", "bad", "([CIII)I"⟩ : MethodName) (head1 (Jvm.Cond.code (⟨"com/example/bandmark/bandmark/PlainDecimalReadPinLaw", "bad", "([CIII)I"⟩ : MethodName) method_6_code 4 (some .int) :: ws) ({ frames := 1, cells := 0, slots := 0, locals := 14 } : Room)) (fun a U => a = #[(.ref a1), (.int (Int32.ofNat j)), (.int (Int32.ofNat st)), (.int (Int32.ofNat b))] ∧ Z.Warmed39 U.vm ∧ U.heap = h0) (fun _ _ _ _ _ => True) (fun _ U o U' => ∃ v L, o = .returned v ∧ QR (some (.int (own_b (own_vb cs j st b)))) h0 n0 v U'.heap L ∧ FrameEnd U o U' L ({ frames := 1, cells := 0, slots := 0, locals := 14 } : Room).cells ({ frames := 1, cells := 0, slots := 0, locals := 14 } : Room).slots) := by
  obtain ⟨cl, Ar, qc, S, N, H, G⟩ := C
  have x1 : (Int32.ofNat j).toNatClampNeg = j := own_cl j (by omega)
  have hin' : j < 5 → ¬ (Int32.ofNat j < 0 ∨ cl.slots.size ≤ (Int32.ofNat j).toNatClampNeg) := fun h5 q => q.elim (own_nn j (by omega)) (by rw [x1, S]; show ¬ 5 ≤ j; omega)
  have hat' : j < 5 → cl.slots[(Int32.ofNat j).toNatClampNeg]? = some (.int (cs.getD j 0)) := fun h5 => by
    rw [x1, H j (by rw [S]; exact h5)]
    simp [List.getD_eq_getElem?_getD, List.getElem?_eq_getElem (show j < cs.length by omega)]
  by_cases hin : (st ≤ j ∧ j < b)
  · by_cases h1 : cs.getD j 0 < 48
    · by_cases h3 : cs.getD j 0 = 46
      · rw [show own_vb cs j st b = false from decide_eq_false fun q => q.2.2 h3]
        exact r11b l Z a0 hw ws a1 (cs.getD j 0) cl (cs.getD j 0) j st b h0 n0 Z0 Ar (hin' hj) (hat' hj) (hin' hj) (hat' hj) h1 h3 (by omega) hs hb3 hin
      · rw [show own_vb cs j st b = true from decide_eq_true ⟨hin, fun q => q.1 h1, h3⟩]
        exact r11c l Z a0 hw ws a1 (cs.getD j 0) cl (cs.getD j 0) j st b h0 n0 Z0 Ar (hin' hj) (hat' hj) (hin' hj) (hat' hj) h1 h3 (by omega) hs hb3 hin
    by_cases h2 : 57 < cs.getD j 0
    · by_cases h3 : cs.getD j 0 = 46
      · exact absurd h2 (by rw [h3]; decide)
      · rw [show own_vb cs j st b = true from decide_eq_true ⟨hin, fun q => q.2 h2, h3⟩]
        exact r11d l Z a0 hw ws a1 (cs.getD j 0) cl (cs.getD j 0) (cs.getD j 0) j st b h0 n0 Z0 Ar (hin' hj) (hat' hj) (hin' hj) (hat' hj) (hin' hj) (hat' hj) h1 h2 h3 (by omega) hs hb3 hin
    · rw [show own_vb cs j st b = false from decide_eq_false fun q => q.2.1 ⟨h1, h2⟩]
      exact r11a l Z a0 hw ws a1 (cs.getD j 0) cl (cs.getD j 0) j st b h0 n0 Z0 Ar (hin' hj) (hat' hj) (hin' hj) (hat' hj) h1 h2 (by omega) hs hb3 hin
  · rw [show own_vb cs j st b = false from decide_eq_false fun q => hin q.1]
    exact r11n l Z a0 hw ws a1 j st b h0 n0 Z0 (by omega) hs hb3 hin
theorem d12_0 : decode method_7_code 0 = .ok (.aload_n 0, 1) := by decide +kernel
theorem d12_1 : decode method_7_code 1 = .ok (.iload_n 1, 1) := by decide +kernel
theorem d12_2 : decode method_7_code 2 = .ok (.iload_n 2, 1) := by decide +kernel
theorem d12_3 : decode method_7_code 3 = .ok (.iload_n 3, 1) := by decide +kernel
theorem d12_4 : decode method_7_code 4 = .ok (.invokestatic 14, 3) := by decide +kernel
theorem d12_7 : decode method_7_code 7 = .ok (.iconst 1, 1) := by decide +kernel
theorem d12_8 : decode method_7_code 8 = .ok (.if_icmp .ne 13, 3) := by decide +kernel
theorem d12_11 : decode method_7_code 11 = .ok (.aload_n 0, 1) := by decide +kernel
theorem d12_12 : decode method_7_code 12 = .ok (.iload_n 1, 1) := by decide +kernel
theorem d12_13 : decode method_7_code 13 = .ok (.caload, 1) := by decide +kernel
theorem d12_14 : decode method_7_code 14 = .ok (.bipush 48, 2) := by decide +kernel
theorem d12_16 : decode method_7_code 16 = .ok (.isub, 1) := by decide +kernel
theorem d12_17 : decode method_7_code 17 = .ok (.i2l, 1) := by decide +kernel
theorem d12_18 : decode method_7_code 18 = .ok (.goto 4, 3) := by decide +kernel
theorem d12_22 : decode method_7_code 22 = .ok (.lreturn, 1) := by decide +kernel
theorem pn_12 : plainName "com/example/bandmark/bandmark/PlainDecimalReadPinLaw" = true := by first | (simp [plainName, overriddenIn]; done) | decide +kernel
theorem pd_12_7 : parseMethodDescriptor "([CIII)I" = some ⟨[(.array .char), .int, .int, .int], some .int⟩ := by decide +kernel
theorem ef_12 (m : MethodId) (x0 : Addr) (x1 : Int32) (x2 : Int32) (x3 : Int32) : entryFrame m #[(.ref x0), (.int x1), (.int x2), (.int x3)] 4 = mkF m 0 #[.val (.ref x0), .val (.int x1), .val (.int x2), .val (.int x3)] [] := by first | (simp [entryFrame, mkF, argsToLocals, Value.category]; done) | rfl
set_option maxRecDepth 65536 in
set_option maxHeartbeats 40000000 in
theorem r12f (l : Launch) (Z : State) (a0 : Array Value) (hw : ∀ d ∈ tables_1, d.before a0 Z = true) (ws : List Jvm.Cond) (a1 : Addr) (w6 : Int32) (cl_a1 : Cell) (cs : List Int32) (j st b : Nat) (kc : ClassId) (h0 : Heap) (n0 : Nat) (Z0 : n0 ≤ h0.size) (Ar_a1 : Arr Z h0 a1 cl_a1 .char) (hin13 : ¬ ((Int32.ofNat j) < 0 ∨ cl_a1.slots.size ≤ ((Int32.ofNat j)).toNatClampNeg)) (hat13 : cl_a1.slots[((Int32.ofNat j)).toNatClampNeg]? = some (.int w6)) (hcs : cs.length = 5) (hj : j < 5) (hs : st < 32) (hb3 : b < 32) (C : Arv Z h0 a1 kc .char (5 : Int32) (cs.map Value.int) (.int 0)) (hv : own_vd cs j st b = true) :
    MetFree l (⟨"com/example/bandmark/bandmark/PlainDecimalReadPinLaw", "dv", "([CIII)J"⟩ : MethodName) (head1 (Jvm.Cond.code (⟨"com/example/bandmark/bandmark/PlainDecimalReadPinLaw", "dv", "([CIII)J"⟩ : MethodName) method_7_code 4 (some .long) :: ws) ({ frames := 2, cells := 0, slots := 0, locals := 29 } : Room)) (fun a U => a = #[(.ref a1), (.int (Int32.ofNat j)), (.int (Int32.ofNat st)), (.int (Int32.ofNat b))] ∧ Z.Warmed39 U.vm ∧ U.heap = h0) (fun _ _ _ _ _ => True) (fun _ U o U' => ∃ v L, o = .returned v ∧ QR (some (.long ((w6 - (48 : Int32)).toInt64))) h0 n0 v U'.heap L ∧ FrameEnd U o U' L ({ frames := 2, cells := 0, slots := 0, locals := 29 } : Room).cells ({ frames := 2, cells := 0, slots := 0, locals := 29 } : Room).slots) := by
  refine MetFree.of_bodySF (plainFor_of_name pn_12) hisR ?_
  intro p e s m args below meth c s₁ Bd hml0 hP hK
  obtain ⟨rfl, hZ, hh⟩ := hP
  have hx := Bd.exec
  have hby := Bd.bytes
  have hml : c.maxLocals = 4 := hml0
  have hown : s.vm.findClass "com/example/bandmark/bandmark/PlainDecimalReadPinLaw" = some m.cls := findClass_of_methodNamed Bd.named
  have hnm := (name_of_methodNamed Bd.named Bd.method).1
  have X0 : Stand p l e ({ frames := 2, cells := 0, slots := 0, locals := 29 } : Room) s m #[(.ref a1), (.int (Int32.ofNat j)), (.int (Int32.ofNat st)), (.int (Int32.ofNat b))] below meth c s₁ [] 0 0 := Stand.of_body Bd
  have e0 : s₁.heap = h0 := by rw [← hh, Bd.state]; rfl
  have N0 := Fr.nil n0
  have pre0 : ∀ t, Steps p.tables e below (s₁.setTop (mkF m 0 #[.val (.ref a1), .val (.int (Int32.ofNat j)), .val (.int (Int32.ofNat st)), .val (.int (Int32.ofNat b))] [])) t → Steps p.tables e below (s₁.setTop (entryFrame m #[(.ref a1), (.int (Int32.ofNat j)), (.int (Int32.ofNat st)), (.int (Int32.ofNat b))] 4)) t := fun t k => castTop (ef_12 m a1 (Int32.ofNat j) (Int32.ofNat st) (Int32.ofNat b)) k
  obtain ⟨_, _, ⟨T5, L5, k5, n5⟩, -, X5, ⟨Lc5, hQ5, l5, y5, z5⟩, st5⟩ := Jvm.LawKit.callS X0 hx (y := (⟨"com/example/bandmark/bandmark/PlainDecimalReadPinLaw", "dig", "([CIII)I"⟩ : MethodName)) hown (mvT hZ (own_W hw 36 rfl)) (mvT hZ (own_W hw 37 rfl)) (mvT hZ (own_W hw 3 rfl)) (mvT hZ (own_W hw 38 rfl)) (by decide) (backOf (W := 0) (r8 l Z a0 hw [] a1 cs j st b kc  h0 n0 Z0 hcs hj hs hb3 C) hZ (own_W hw 38 rfl) (own_W hw 3 rfl) (by decide) (by decide)) (g := (mkF m 4 #[.val (.ref a1), .val (.int (Int32.ofNat j)), .val (.int (Int32.ofNat st)), .val (.int (Int32.ofNat b))] [(.int (Int32.ofNat b)), (.int (Int32.ofNat st)), (.int (Int32.ofNat j)), (.ref a1)])) rfl (by rw [hml]; rfl) (argsL := [(.ref a1), (.int (Int32.ofNat j)), (.int (Int32.ofNat st)), (.int (Int32.ofNat b))]) (rest := []) (lenOf pd_12_7 rfl) rfl (by show 2 * 0 + _ ≤ _; exact Nat.le_of_eq rfl) (hb hby d12_4) (fun _ _ => ⟨rfl, e0, (by decide : 0 + 0 ≤ _), (by decide : 0 + 0 ≤ _)⟩)
  dsimp only [Pt.U, Pt.locs, Pt.cells, Pt.slots] at X5 l5 y5 z5 st5 hQ5
  subst l5 y5 z5
  obtain ⟨rfl, N5q, e5⟩ := hQ5
  have N5 := Fr.app N0 N5q
  obtain ⟨fs, hr, hrun, hended, hW, hsame⟩ := X5.leave (v := some (.long ((w6 - (48 : Int32)).toInt64))) (fun h => by rw [Bd.returns] at h; cases h)
  refine ⟨_, _, pre0 _ ?_, hrun, hended, _, _, rfl, ?_, ⟨_, rfl⟩, hW, hsame.mono (by decide) (by decide)⟩
  · refine XS.aloadN X0.here hx rfl (hb hby d12_0) rfl rfl ?_
    refine XS.iloadN X0.here hx rfl (hb hby d12_1) rfl ?_
    refine XS.iloadN X0.here hx rfl (hb hby d12_2) rfl ?_
    refine XS.iloadN X0.here hx rfl (hb hby d12_3) rfl ?_
    refine st5 _ ?_
    refine XS.iconst X5.here hx rfl (hb hby d12_7) ?_
    refine XS.icmpNo X5.here hx rfl (hb hby d12_8) rfl (teq ((by rw [hv]; rfl) : (own_b (own_vd cs j st b)) = (1 : Int32))).2 ?_
    refine XS.aloadN X5.here hx rfl (hb hby d12_11) rfl rfl ?_
    refine XS.iloadN X5.here hx rfl (hb hby d12_12) rfl ?_
    refine X5.caload hx (j := (Int32.ofNat j)) (v := (.int w6)) (by rw [e5]; exact Ar_a1.1) (State.isArrayOf_alike hZ.alike Ar_a1.2.1) Ar_a1.2.2 hin13 hat13 (g := (mkF m 13 #[.val (.ref a1), .val (.int (Int32.ofNat j)), .val (.int (Int32.ofNat st)), .val (.int (Int32.ofNat b))] [(.int (Int32.ofNat j)), (.ref a1)])) rfl rfl (hb hby d12_13) _ ?_
    refine XS.bipush X5.here hx rfl (hb hby d12_14) ?_
    refine XS.isub X5.here hx rfl (hb hby d12_16) rfl ?_
    refine XS.i2l X5.here hx rfl (hb hby d12_17) rfl ?_
    refine XS.goto X5.here hx rfl (pc0 := 18) (pc' := 22) rfl (hb hby d12_18) (by decide) (by decide) ?_
    jvm_step X5.here [X5.here.top, hx, (hb hby d12_22), X5.method', Bd.returns, narrow]
    first | (intro acts; rw [hr _ acts rfl rfl rfl]) | rw [hr _ _ rfl rfl rfl]
    exact Steps.refl _
  · show QR (some (.long ((w6 - (48 : Int32)).toInt64))) h0 n0 _ T5.heap _
    rw [e5]
    exact ⟨rfl, N5, rfl⟩
theorem d12_21 : decode method_7_code 21 = .ok (.lconst 0, 1) := by decide +kernel
set_option maxRecDepth 65536 in
set_option maxHeartbeats 40000000 in
theorem r12t (l : Launch) (Z : State) (a0 : Array Value) (hw : ∀ d ∈ tables_1, d.before a0 Z = true) (ws : List Jvm.Cond) (a1 : Addr) (cs : List Int32) (j st b : Nat) (kc : ClassId) (h0 : Heap) (n0 : Nat) (Z0 : n0 ≤ h0.size) (hcs : cs.length = 5) (hj : j < 5) (hs : st < 32) (hb3 : b < 32) (C : Arv Z h0 a1 kc .char (5 : Int32) (cs.map Value.int) (.int 0)) (hv : own_vd cs j st b = false) :
    MetFree l (⟨"com/example/bandmark/bandmark/PlainDecimalReadPinLaw", "dv", "([CIII)J"⟩ : MethodName) (head1 (Jvm.Cond.code (⟨"com/example/bandmark/bandmark/PlainDecimalReadPinLaw", "dv", "([CIII)J"⟩ : MethodName) method_7_code 4 (some .long) :: ws) ({ frames := 2, cells := 0, slots := 0, locals := 29 } : Room)) (fun a U => a = #[(.ref a1), (.int (Int32.ofNat j)), (.int (Int32.ofNat st)), (.int (Int32.ofNat b))] ∧ Z.Warmed39 U.vm ∧ U.heap = h0) (fun _ _ _ _ _ => True) (fun _ U o U' => ∃ v L, o = .returned v ∧ QR (some (.long (0 : Int64))) h0 n0 v U'.heap L ∧ FrameEnd U o U' L ({ frames := 2, cells := 0, slots := 0, locals := 29 } : Room).cells ({ frames := 2, cells := 0, slots := 0, locals := 29 } : Room).slots) := by
  refine MetFree.of_bodySF (plainFor_of_name pn_12) hisR ?_
  intro p e s m args below meth c s₁ Bd hml0 hP hK
  obtain ⟨rfl, hZ, hh⟩ := hP
  have hx := Bd.exec
  have hby := Bd.bytes
  have hml : c.maxLocals = 4 := hml0
  have hown : s.vm.findClass "com/example/bandmark/bandmark/PlainDecimalReadPinLaw" = some m.cls := findClass_of_methodNamed Bd.named
  have hnm := (name_of_methodNamed Bd.named Bd.method).1
  have X0 : Stand p l e ({ frames := 2, cells := 0, slots := 0, locals := 29 } : Room) s m #[(.ref a1), (.int (Int32.ofNat j)), (.int (Int32.ofNat st)), (.int (Int32.ofNat b))] below meth c s₁ [] 0 0 := Stand.of_body Bd
  have e0 : s₁.heap = h0 := by rw [← hh, Bd.state]; rfl
  have N0 := Fr.nil n0
  have pre0 : ∀ t, Steps p.tables e below (s₁.setTop (mkF m 0 #[.val (.ref a1), .val (.int (Int32.ofNat j)), .val (.int (Int32.ofNat st)), .val (.int (Int32.ofNat b))] [])) t → Steps p.tables e below (s₁.setTop (entryFrame m #[(.ref a1), (.int (Int32.ofNat j)), (.int (Int32.ofNat st)), (.int (Int32.ofNat b))] 4)) t := fun t k => castTop (ef_12 m a1 (Int32.ofNat j) (Int32.ofNat st) (Int32.ofNat b)) k
  obtain ⟨_, _, ⟨T5, L5, k5, n5⟩, -, X5, ⟨Lc5, hQ5, l5, y5, z5⟩, st5⟩ := Jvm.LawKit.callS X0 hx (y := (⟨"com/example/bandmark/bandmark/PlainDecimalReadPinLaw", "dig", "([CIII)I"⟩ : MethodName)) hown (mvT hZ (own_W hw 36 rfl)) (mvT hZ (own_W hw 37 rfl)) (mvT hZ (own_W hw 3 rfl)) (mvT hZ (own_W hw 38 rfl)) (by decide) (backOf (W := 0) (r8 l Z a0 hw [] a1 cs j st b kc  h0 n0 Z0 hcs hj hs hb3 C) hZ (own_W hw 38 rfl) (own_W hw 3 rfl) (by decide) (by decide)) (g := (mkF m 4 #[.val (.ref a1), .val (.int (Int32.ofNat j)), .val (.int (Int32.ofNat st)), .val (.int (Int32.ofNat b))] [(.int (Int32.ofNat b)), (.int (Int32.ofNat st)), (.int (Int32.ofNat j)), (.ref a1)])) rfl (by rw [hml]; rfl) (argsL := [(.ref a1), (.int (Int32.ofNat j)), (.int (Int32.ofNat st)), (.int (Int32.ofNat b))]) (rest := []) (lenOf pd_12_7 rfl) rfl (by show 2 * 0 + _ ≤ _; exact Nat.le_of_eq rfl) (hb hby d12_4) (fun _ _ => ⟨rfl, e0, (by decide : 0 + 0 ≤ _), (by decide : 0 + 0 ≤ _)⟩)
  dsimp only [Pt.U, Pt.locs, Pt.cells, Pt.slots] at X5 l5 y5 z5 st5 hQ5
  subst l5 y5 z5
  obtain ⟨rfl, N5q, e5⟩ := hQ5
  have N5 := Fr.app N0 N5q
  obtain ⟨fs, hr, hrun, hended, hW, hsame⟩ := X5.leave (v := some (.long (0 : Int64))) (fun h => by rw [Bd.returns] at h; cases h)
  refine ⟨_, _, pre0 _ ?_, hrun, hended, _, _, rfl, ?_, ⟨_, rfl⟩, hW, hsame.mono (by decide) (by decide)⟩
  · refine XS.aloadN X0.here hx rfl (hb hby d12_0) rfl rfl ?_
    refine XS.iloadN X0.here hx rfl (hb hby d12_1) rfl ?_
    refine XS.iloadN X0.here hx rfl (hb hby d12_2) rfl ?_
    refine XS.iloadN X0.here hx rfl (hb hby d12_3) rfl ?_
    refine st5 _ ?_
    refine XS.iconst X5.here hx rfl (hb hby d12_7) ?_
    refine XS.icmpYes X5.here hx rfl (pc0 := 8) (pc' := 21) rfl (hb hby d12_8) rfl (feq ((by rw [hv]; decide) : ¬ ((own_b (own_vd cs j st b)) = (1 : Int32)))).2 (by decide) (by decide) ?_
    refine XS.lconst X5.here hx rfl (hb hby d12_21) ?_
    jvm_step X5.here [X5.here.top, hx, (hb hby d12_22), X5.method', Bd.returns, narrow]
    first | (intro acts; rw [hr _ acts rfl rfl rfl]) | rw [hr _ _ rfl rfl rfl]
    exact Steps.refl _
  · show QR (some (.long (0 : Int64))) h0 n0 _ T5.heap _
    rw [e5]
    exact ⟨rfl, N5, rfl⟩
def own_dvn (cs : List Int32) (j st b : Nat) : Nat := if own_vd cs j st b then own_dn (cs.getD j 0) else 0
theorem r12 (l : Launch) (Z : State) (a0 : Array Value) (hw : ∀ d ∈ tables_1, d.before a0 Z = true) (ws : List Jvm.Cond) (a1 : Addr) (cs : List Int32) (j st b : Nat) (kc : ClassId) (h0 : Heap) (n0 : Nat) (Z0 : n0 ≤ h0.size) (hcs : cs.length = 5) (hj : j < 5) (hs : st < 32) (hb3 : b < 32) (C : Arv Z h0 a1 kc .char (5 : Int32) (cs.map Value.int) (.int 0)) :
    MetFree l (⟨"com/example/bandmark/bandmark/PlainDecimalReadPinLaw", "dv", "([CIII)J"⟩ : MethodName) (head1 (Jvm.Cond.code (⟨"com/example/bandmark/bandmark/PlainDecimalReadPinLaw", "dv", "([CIII)J"⟩ : MethodName) method_7_code 4 (some .long) :: ws) ({ frames := 2, cells := 0, slots := 0, locals := 29 } : Room)) (fun a U => a = #[(.ref a1), (.int (Int32.ofNat j)), (.int (Int32.ofNat st)), (.int (Int32.ofNat b))] ∧ Z.Warmed39 U.vm ∧ U.heap = h0) (fun _ _ _ _ _ => True) (fun _ U o U' => ∃ v L, o = .returned v ∧ QR (some (.long (Int64.ofNat (own_dvn cs j st b)))) h0 n0 v U'.heap L ∧ FrameEnd U o U' L ({ frames := 2, cells := 0, slots := 0, locals := 29 } : Room).cells ({ frames := 2, cells := 0, slots := 0, locals := 29 } : Room).slots) := by
  cases hv : own_vd cs j st b with
  | true =>
    have hv2 := of_decide_eq_true hv
    rw [show own_dvn cs j st b = own_dn (cs.getD j 0) by unfold own_dvn; rw [hv]; rfl, ← (own_dval _ hv2.2.1 hv2.2.2).1]
    obtain ⟨cl, Ar, qc, S, N, H, G⟩ := id C
    have x1 : (Int32.ofNat j).toNatClampNeg = j := own_cl j (by omega)
    exact r12f l Z a0 hw ws a1 (cs.getD j 0) cl cs j st b kc h0 n0 Z0 Ar (fun q => q.elim (own_nn j (by omega)) (by rw [x1, S]; show ¬ 5 ≤ j; omega)) (by
      rw [x1, H j (by rw [S]; exact hj)]
      simp [List.getD_eq_getElem?_getD, List.getElem?_eq_getElem (show j < cs.length by omega)]) hcs hj hs hb3 C hv
  | false =>
    rw [show own_dvn cs j st b = 0 by unfold own_dvn; rw [hv]; rfl]
    exact r12t l Z a0 hw ws a1 cs j st b kc h0 n0 Z0 hcs hj hs hb3 C hv
theorem d13_0 : decode method_8_code 0 = .ok (.iload_n 0, 1) := by decide +kernel
theorem d13_1 : decode method_8_code 1 = .ok (.ifCond .ne 5, 3) := by decide +kernel
theorem d13_4 : decode method_8_code 4 = .ok (.lconst 1, 1) := by decide +kernel
theorem d13_5 : decode method_8_code 5 = .ok (.lreturn, 1) := by decide +kernel
theorem pn_13 : plainName "com/example/bandmark/bandmark/PlainDecimalReadPinLaw" = true := by first | (simp [plainName, overriddenIn]; done) | decide +kernel
theorem ef_13 (m : MethodId) (x0 : Int32) : entryFrame m #[(.int x0)] 1 = mkF m 0 #[.val (.int x0)] [] := by first | (simp [entryFrame, mkF, argsToLocals, Value.category]; done) | rfl
set_option maxRecDepth 65536 in
set_option maxHeartbeats 40000000 in
theorem r13a (l : Launch) (Z : State) (a0 : Array Value) (hw : ∀ d ∈ tables_1, d.before a0 Z = true) (ws : List Jvm.Cond) (p1 : Int32) (h0 : Heap) (n0 : Nat) (Z0 : n0 ≤ h0.size) (hc1 : p1 = (0 : Int32)) :
    MetFree l (⟨"com/example/bandmark/bandmark/PlainDecimalReadPinLaw", "p10", "(I)J"⟩ : MethodName) (head1 (Jvm.Cond.code (⟨"com/example/bandmark/bandmark/PlainDecimalReadPinLaw", "p10", "(I)J"⟩ : MethodName) method_8_code 1 (some .long) :: ws) ({ frames := 0, cells := 0, slots := 0, locals := 0 } : Room)) (fun a U => a = #[(.int p1)] ∧ Z.Warmed39 U.vm ∧ U.heap = h0) (fun _ _ _ _ _ => True) (fun _ U o U' => ∃ v L, o = .returned v ∧ QR (some (.long (1 : Int64))) h0 n0 v U'.heap L ∧ FrameEnd U o U' L ({ frames := 0, cells := 0, slots := 0, locals := 0 } : Room).cells ({ frames := 0, cells := 0, slots := 0, locals := 0 } : Room).slots) := by
  refine MetFree.of_bodySF (plainFor_of_name pn_13) hisR ?_
  intro p e s m args below meth c s₁ Bd hml0 hP hK
  obtain ⟨rfl, hZ, hh⟩ := hP
  have hx := Bd.exec
  have hby := Bd.bytes
  have hml : c.maxLocals = 1 := hml0
  have hown : s.vm.findClass "com/example/bandmark/bandmark/PlainDecimalReadPinLaw" = some m.cls := findClass_of_methodNamed Bd.named
  have hnm := (name_of_methodNamed Bd.named Bd.method).1
  have X0 : Stand p l e ({ frames := 0, cells := 0, slots := 0, locals := 0 } : Room) s m #[(.int p1)] below meth c s₁ [] 0 0 := Stand.of_body Bd
  have e0 : s₁.heap = h0 := by rw [← hh, Bd.state]; rfl
  have N0 := Fr.nil n0
  have pre0 : ∀ t, Steps p.tables e below (s₁.setTop (mkF m 0 #[.val (.int p1)] [])) t → Steps p.tables e below (s₁.setTop (entryFrame m #[(.int p1)] 1)) t := fun t k => castTop (ef_13 m p1) k
  obtain ⟨fs, hr, hrun, hended, hW, hsame⟩ := X0.leave (v := some (.long (1 : Int64))) (fun h => by rw [Bd.returns] at h; cases h)
  refine ⟨_, _, pre0 _ ?_, hrun, hended, _, _, rfl, ?_, ⟨_, rfl⟩, hW, hsame.mono (by decide) (by decide)⟩
  · refine XS.iloadN X0.here hx rfl (hb hby d13_0) rfl ?_
    refine XS.ifNo X0.here hx rfl (hb hby d13_1) rfl ((if0 _ _).trans (teq hc1).2) ?_
    refine XS.lconst X0.here hx rfl (hb hby d13_4) ?_
    jvm_step X0.here [X0.here.top, hx, (hb hby d13_5), X0.method', Bd.returns, narrow]
    first | (intro acts; rw [hr _ acts rfl rfl rfl]) | rw [hr _ _ rfl rfl rfl]
    exact Steps.refl _
  · show QR (some (.long (1 : Int64))) h0 n0 _ s₁.heap _
    rw [e0]
    exact ⟨rfl, N0, rfl⟩
theorem d13_6 : decode method_8_code 6 = .ok (.iload_n 0, 1) := by decide +kernel
theorem d13_7 : decode method_8_code 7 = .ok (.iconst 1, 1) := by decide +kernel
theorem d13_8 : decode method_8_code 8 = .ok (.if_icmp .ne 7, 3) := by decide +kernel
theorem d13_11 : decode method_8_code 11 = .ok (.ldc2_w 18, 3) := by decide +kernel
theorem d13_14 : decode method_8_code 14 = .ok (.lreturn, 1) := by decide +kernel
set_option maxRecDepth 65536 in
set_option maxHeartbeats 40000000 in
theorem r13b (l : Launch) (Z : State) (a0 : Array Value) (hw : ∀ d ∈ tables_1, d.before a0 Z = true) (ws : List Jvm.Cond) (p1 : Int32) (h0 : Heap) (n0 : Nat) (Z0 : n0 ≤ h0.size) (hc1 : ¬ (p1 = (0 : Int32))) (hc8 : p1 = (1 : Int32)) :
    MetFree l (⟨"com/example/bandmark/bandmark/PlainDecimalReadPinLaw", "p10", "(I)J"⟩ : MethodName) (head1 (Jvm.Cond.code (⟨"com/example/bandmark/bandmark/PlainDecimalReadPinLaw", "p10", "(I)J"⟩ : MethodName) method_8_code 1 (some .long) :: ws) ({ frames := 0, cells := 0, slots := 0, locals := 0 } : Room)) (fun a U => a = #[(.int p1)] ∧ Z.Warmed39 U.vm ∧ U.heap = h0) (fun _ _ _ _ _ => True) (fun _ U o U' => ∃ v L, o = .returned v ∧ QR (some (.long (10 : Int64))) h0 n0 v U'.heap L ∧ FrameEnd U o U' L ({ frames := 0, cells := 0, slots := 0, locals := 0 } : Room).cells ({ frames := 0, cells := 0, slots := 0, locals := 0 } : Room).slots) := by
  refine MetFree.of_bodySF (plainFor_of_name pn_13) hisR ?_
  intro p e s m args below meth c s₁ Bd hml0 hP hK
  obtain ⟨rfl, hZ, hh⟩ := hP
  have hx := Bd.exec
  have hby := Bd.bytes
  have hml : c.maxLocals = 1 := hml0
  have hown : s.vm.findClass "com/example/bandmark/bandmark/PlainDecimalReadPinLaw" = some m.cls := findClass_of_methodNamed Bd.named
  have hnm := (name_of_methodNamed Bd.named Bd.method).1
  have X0 : Stand p l e ({ frames := 0, cells := 0, slots := 0, locals := 0 } : Room) s m #[(.int p1)] below meth c s₁ [] 0 0 := Stand.of_body Bd
  have e0 : s₁.heap = h0 := by rw [← hh, Bd.state]; rfl
  have N0 := Fr.nil n0
  have pre0 : ∀ t, Steps p.tables e below (s₁.setTop (mkF m 0 #[.val (.int p1)] [])) t → Steps p.tables e below (s₁.setTop (entryFrame m #[(.int p1)] 1)) t := fun t k => castTop (ef_13 m p1) k
  obtain ⟨fs, hr, hrun, hended, hW, hsame⟩ := X0.leave (v := some (.long (10 : Int64))) (fun h => by rw [Bd.returns] at h; cases h)
  refine ⟨_, _, pre0 _ ?_, hrun, hended, _, _, rfl, ?_, ⟨_, rfl⟩, hW, hsame.mono (by decide) (by decide)⟩
  · refine XS.iloadN X0.here hx rfl (hb hby d13_0) rfl ?_
    refine XS.ifYes X0.here hx rfl (pc0 := 1) (pc' := 6) rfl (hb hby d13_1) rfl ((if0 _ _).trans (feq hc1).2) (by decide) (by decide) ?_
    refine XS.iloadN X0.here hx rfl (hb hby d13_6) rfl ?_
    refine XS.iconst X0.here hx rfl (hb hby d13_7) ?_
    refine XS.icmpNo X0.here hx rfl (hb hby d13_8) rfl (teq hc8).2 ?_
    refine X0.ldc2Long hx hown (mvT hZ (own_W hw 127 rfl)) (g := (mkF m 11 #[.val (.int p1)] [])) rfl (hb hby d13_11) _ ?_
    jvm_step X0.here [X0.here.top, hx, (hb hby d13_14), X0.method', Bd.returns, narrow]
    first | (intro acts; rw [hr _ acts rfl rfl rfl]) | rw [hr _ _ rfl rfl rfl]
    exact Steps.refl _
  · show QR (some (.long (10 : Int64))) h0 n0 _ s₁.heap _
    rw [e0]
    exact ⟨rfl, N0, rfl⟩
theorem d13_15 : decode method_8_code 15 = .ok (.iload_n 0, 1) := by decide +kernel
theorem d13_16 : decode method_8_code 16 = .ok (.iconst 2, 1) := by decide +kernel
theorem d13_17 : decode method_8_code 17 = .ok (.if_icmp .ne 7, 3) := by decide +kernel
theorem d13_20 : decode method_8_code 20 = .ok (.ldc2_w 20, 3) := by decide +kernel
theorem d13_23 : decode method_8_code 23 = .ok (.lreturn, 1) := by decide +kernel
set_option maxRecDepth 65536 in
set_option maxHeartbeats 40000000 in
theorem r13c (l : Launch) (Z : State) (a0 : Array Value) (hw : ∀ d ∈ tables_1, d.before a0 Z = true) (ws : List Jvm.Cond) (p1 : Int32) (h0 : Heap) (n0 : Nat) (Z0 : n0 ≤ h0.size) (hc1 : ¬ (p1 = (0 : Int32))) (hc8 : ¬ (p1 = (1 : Int32))) (hc17 : p1 = (2 : Int32)) :
    MetFree l (⟨"com/example/bandmark/bandmark/PlainDecimalReadPinLaw", "p10", "(I)J"⟩ : MethodName) (head1 (Jvm.Cond.code (⟨"com/example/bandmark/bandmark/PlainDecimalReadPinLaw", "p10", "(I)J"⟩ : MethodName) method_8_code 1 (some .long) :: ws) ({ frames := 0, cells := 0, slots := 0, locals := 0 } : Room)) (fun a U => a = #[(.int p1)] ∧ Z.Warmed39 U.vm ∧ U.heap = h0) (fun _ _ _ _ _ => True) (fun _ U o U' => ∃ v L, o = .returned v ∧ QR (some (.long (100 : Int64))) h0 n0 v U'.heap L ∧ FrameEnd U o U' L ({ frames := 0, cells := 0, slots := 0, locals := 0 } : Room).cells ({ frames := 0, cells := 0, slots := 0, locals := 0 } : Room).slots) := by
  refine MetFree.of_bodySF (plainFor_of_name pn_13) hisR ?_
  intro p e s m args below meth c s₁ Bd hml0 hP hK
  obtain ⟨rfl, hZ, hh⟩ := hP
  have hx := Bd.exec
  have hby := Bd.bytes
  have hml : c.maxLocals = 1 := hml0
  have hown : s.vm.findClass "com/example/bandmark/bandmark/PlainDecimalReadPinLaw" = some m.cls := findClass_of_methodNamed Bd.named
  have hnm := (name_of_methodNamed Bd.named Bd.method).1
  have X0 : Stand p l e ({ frames := 0, cells := 0, slots := 0, locals := 0 } : Room) s m #[(.int p1)] below meth c s₁ [] 0 0 := Stand.of_body Bd
  have e0 : s₁.heap = h0 := by rw [← hh, Bd.state]; rfl
  have N0 := Fr.nil n0
  have pre0 : ∀ t, Steps p.tables e below (s₁.setTop (mkF m 0 #[.val (.int p1)] [])) t → Steps p.tables e below (s₁.setTop (entryFrame m #[(.int p1)] 1)) t := fun t k => castTop (ef_13 m p1) k
  obtain ⟨fs, hr, hrun, hended, hW, hsame⟩ := X0.leave (v := some (.long (100 : Int64))) (fun h => by rw [Bd.returns] at h; cases h)
  refine ⟨_, _, pre0 _ ?_, hrun, hended, _, _, rfl, ?_, ⟨_, rfl⟩, hW, hsame.mono (by decide) (by decide)⟩
  · refine XS.iloadN X0.here hx rfl (hb hby d13_0) rfl ?_
    refine XS.ifYes X0.here hx rfl (pc0 := 1) (pc' := 6) rfl (hb hby d13_1) rfl ((if0 _ _).trans (feq hc1).2) (by decide) (by decide) ?_
    refine XS.iloadN X0.here hx rfl (hb hby d13_6) rfl ?_
    refine XS.iconst X0.here hx rfl (hb hby d13_7) ?_
    refine XS.icmpYes X0.here hx rfl (pc0 := 8) (pc' := 15) rfl (hb hby d13_8) rfl (feq hc8).2 (by decide) (by decide) ?_
    refine XS.iloadN X0.here hx rfl (hb hby d13_15) rfl ?_
    refine XS.iconst X0.here hx rfl (hb hby d13_16) ?_
    refine XS.icmpNo X0.here hx rfl (hb hby d13_17) rfl (teq hc17).2 ?_
    refine X0.ldc2Long hx hown (mvT hZ (own_W hw 157 rfl)) (g := (mkF m 20 #[.val (.int p1)] [])) rfl (hb hby d13_20) _ ?_
    jvm_step X0.here [X0.here.top, hx, (hb hby d13_23), X0.method', Bd.returns, narrow]
    first | (intro acts; rw [hr _ acts rfl rfl rfl]) | rw [hr _ _ rfl rfl rfl]
    exact Steps.refl _
  · show QR (some (.long (100 : Int64))) h0 n0 _ s₁.heap _
    rw [e0]
    exact ⟨rfl, N0, rfl⟩
theorem d13_24 : decode method_8_code 24 = .ok (.iload_n 0, 1) := by decide +kernel
theorem d13_25 : decode method_8_code 25 = .ok (.iconst 3, 1) := by decide +kernel
theorem d13_26 : decode method_8_code 26 = .ok (.if_icmp .ne 7, 3) := by decide +kernel
theorem d13_29 : decode method_8_code 29 = .ok (.ldc2_w 22, 3) := by decide +kernel
theorem d13_32 : decode method_8_code 32 = .ok (.lreturn, 1) := by decide +kernel
set_option maxRecDepth 65536 in
set_option maxHeartbeats 40000000 in
theorem r13d (l : Launch) (Z : State) (a0 : Array Value) (hw : ∀ d ∈ tables_1, d.before a0 Z = true) (ws : List Jvm.Cond) (p1 : Int32) (h0 : Heap) (n0 : Nat) (Z0 : n0 ≤ h0.size) (hc1 : ¬ (p1 = (0 : Int32))) (hc8 : ¬ (p1 = (1 : Int32))) (hc17 : ¬ (p1 = (2 : Int32))) (hc26 : p1 = (3 : Int32)) :
    MetFree l (⟨"com/example/bandmark/bandmark/PlainDecimalReadPinLaw", "p10", "(I)J"⟩ : MethodName) (head1 (Jvm.Cond.code (⟨"com/example/bandmark/bandmark/PlainDecimalReadPinLaw", "p10", "(I)J"⟩ : MethodName) method_8_code 1 (some .long) :: ws) ({ frames := 0, cells := 0, slots := 0, locals := 0 } : Room)) (fun a U => a = #[(.int p1)] ∧ Z.Warmed39 U.vm ∧ U.heap = h0) (fun _ _ _ _ _ => True) (fun _ U o U' => ∃ v L, o = .returned v ∧ QR (some (.long (1000 : Int64))) h0 n0 v U'.heap L ∧ FrameEnd U o U' L ({ frames := 0, cells := 0, slots := 0, locals := 0 } : Room).cells ({ frames := 0, cells := 0, slots := 0, locals := 0 } : Room).slots) := by
  refine MetFree.of_bodySF (plainFor_of_name pn_13) hisR ?_
  intro p e s m args below meth c s₁ Bd hml0 hP hK
  obtain ⟨rfl, hZ, hh⟩ := hP
  have hx := Bd.exec
  have hby := Bd.bytes
  have hml : c.maxLocals = 1 := hml0
  have hown : s.vm.findClass "com/example/bandmark/bandmark/PlainDecimalReadPinLaw" = some m.cls := findClass_of_methodNamed Bd.named
  have hnm := (name_of_methodNamed Bd.named Bd.method).1
  have X0 : Stand p l e ({ frames := 0, cells := 0, slots := 0, locals := 0 } : Room) s m #[(.int p1)] below meth c s₁ [] 0 0 := Stand.of_body Bd
  have e0 : s₁.heap = h0 := by rw [← hh, Bd.state]; rfl
  have N0 := Fr.nil n0
  have pre0 : ∀ t, Steps p.tables e below (s₁.setTop (mkF m 0 #[.val (.int p1)] [])) t → Steps p.tables e below (s₁.setTop (entryFrame m #[(.int p1)] 1)) t := fun t k => castTop (ef_13 m p1) k
  obtain ⟨fs, hr, hrun, hended, hW, hsame⟩ := X0.leave (v := some (.long (1000 : Int64))) (fun h => by rw [Bd.returns] at h; cases h)
  refine ⟨_, _, pre0 _ ?_, hrun, hended, _, _, rfl, ?_, ⟨_, rfl⟩, hW, hsame.mono (by decide) (by decide)⟩
  · refine XS.iloadN X0.here hx rfl (hb hby d13_0) rfl ?_
    refine XS.ifYes X0.here hx rfl (pc0 := 1) (pc' := 6) rfl (hb hby d13_1) rfl ((if0 _ _).trans (feq hc1).2) (by decide) (by decide) ?_
    refine XS.iloadN X0.here hx rfl (hb hby d13_6) rfl ?_
    refine XS.iconst X0.here hx rfl (hb hby d13_7) ?_
    refine XS.icmpYes X0.here hx rfl (pc0 := 8) (pc' := 15) rfl (hb hby d13_8) rfl (feq hc8).2 (by decide) (by decide) ?_
    refine XS.iloadN X0.here hx rfl (hb hby d13_15) rfl ?_
    refine XS.iconst X0.here hx rfl (hb hby d13_16) ?_
    refine XS.icmpYes X0.here hx rfl (pc0 := 17) (pc' := 24) rfl (hb hby d13_17) rfl (feq hc17).2 (by decide) (by decide) ?_
    refine XS.iloadN X0.here hx rfl (hb hby d13_24) rfl ?_
    refine XS.iconst X0.here hx rfl (hb hby d13_25) ?_
    refine XS.icmpNo X0.here hx rfl (hb hby d13_26) rfl (teq hc26).2 ?_
    refine X0.ldc2Long hx hown (mvT hZ (own_W hw 158 rfl)) (g := (mkF m 29 #[.val (.int p1)] [])) rfl (hb hby d13_29) _ ?_
    jvm_step X0.here [X0.here.top, hx, (hb hby d13_32), X0.method', Bd.returns, narrow]
    first | (intro acts; rw [hr _ acts rfl rfl rfl]) | rw [hr _ _ rfl rfl rfl]
    exact Steps.refl _
  · show QR (some (.long (1000 : Int64))) h0 n0 _ s₁.heap _
    rw [e0]
    exact ⟨rfl, N0, rfl⟩
theorem d13_33 : decode method_8_code 33 = .ok (.ldc2_w 24, 3) := by decide +kernel
theorem d13_36 : decode method_8_code 36 = .ok (.lreturn, 1) := by decide +kernel
set_option maxRecDepth 65536 in
set_option maxHeartbeats 40000000 in
theorem r13e (l : Launch) (Z : State) (a0 : Array Value) (hw : ∀ d ∈ tables_1, d.before a0 Z = true) (ws : List Jvm.Cond) (p1 : Int32) (h0 : Heap) (n0 : Nat) (Z0 : n0 ≤ h0.size) (hc1 : ¬ (p1 = (0 : Int32))) (hc8 : ¬ (p1 = (1 : Int32))) (hc17 : ¬ (p1 = (2 : Int32))) (hc26 : ¬ (p1 = (3 : Int32))) :
    MetFree l (⟨"com/example/bandmark/bandmark/PlainDecimalReadPinLaw", "p10", "(I)J"⟩ : MethodName) (head1 (Jvm.Cond.code (⟨"com/example/bandmark/bandmark/PlainDecimalReadPinLaw", "p10", "(I)J"⟩ : MethodName) method_8_code 1 (some .long) :: ws) ({ frames := 0, cells := 0, slots := 0, locals := 0 } : Room)) (fun a U => a = #[(.int p1)] ∧ Z.Warmed39 U.vm ∧ U.heap = h0) (fun _ _ _ _ _ => True) (fun _ U o U' => ∃ v L, o = .returned v ∧ QR (some (.long (10000 : Int64))) h0 n0 v U'.heap L ∧ FrameEnd U o U' L ({ frames := 0, cells := 0, slots := 0, locals := 0 } : Room).cells ({ frames := 0, cells := 0, slots := 0, locals := 0 } : Room).slots) := by
  refine MetFree.of_bodySF (plainFor_of_name pn_13) hisR ?_
  intro p e s m args below meth c s₁ Bd hml0 hP hK
  obtain ⟨rfl, hZ, hh⟩ := hP
  have hx := Bd.exec
  have hby := Bd.bytes
  have hml : c.maxLocals = 1 := hml0
  have hown : s.vm.findClass "com/example/bandmark/bandmark/PlainDecimalReadPinLaw" = some m.cls := findClass_of_methodNamed Bd.named
  have hnm := (name_of_methodNamed Bd.named Bd.method).1
  have X0 : Stand p l e ({ frames := 0, cells := 0, slots := 0, locals := 0 } : Room) s m #[(.int p1)] below meth c s₁ [] 0 0 := Stand.of_body Bd
  have e0 : s₁.heap = h0 := by rw [← hh, Bd.state]; rfl
  have N0 := Fr.nil n0
  have pre0 : ∀ t, Steps p.tables e below (s₁.setTop (mkF m 0 #[.val (.int p1)] [])) t → Steps p.tables e below (s₁.setTop (entryFrame m #[(.int p1)] 1)) t := fun t k => castTop (ef_13 m p1) k
  obtain ⟨fs, hr, hrun, hended, hW, hsame⟩ := X0.leave (v := some (.long (10000 : Int64))) (fun h => by rw [Bd.returns] at h; cases h)
  refine ⟨_, _, pre0 _ ?_, hrun, hended, _, _, rfl, ?_, ⟨_, rfl⟩, hW, hsame.mono (by decide) (by decide)⟩
  · refine XS.iloadN X0.here hx rfl (hb hby d13_0) rfl ?_
    refine XS.ifYes X0.here hx rfl (pc0 := 1) (pc' := 6) rfl (hb hby d13_1) rfl ((if0 _ _).trans (feq hc1).2) (by decide) (by decide) ?_
    refine XS.iloadN X0.here hx rfl (hb hby d13_6) rfl ?_
    refine XS.iconst X0.here hx rfl (hb hby d13_7) ?_
    refine XS.icmpYes X0.here hx rfl (pc0 := 8) (pc' := 15) rfl (hb hby d13_8) rfl (feq hc8).2 (by decide) (by decide) ?_
    refine XS.iloadN X0.here hx rfl (hb hby d13_15) rfl ?_
    refine XS.iconst X0.here hx rfl (hb hby d13_16) ?_
    refine XS.icmpYes X0.here hx rfl (pc0 := 17) (pc' := 24) rfl (hb hby d13_17) rfl (feq hc17).2 (by decide) (by decide) ?_
    refine XS.iloadN X0.here hx rfl (hb hby d13_24) rfl ?_
    refine XS.iconst X0.here hx rfl (hb hby d13_25) ?_
    refine XS.icmpYes X0.here hx rfl (pc0 := 26) (pc' := 33) rfl (hb hby d13_26) rfl (feq hc26).2 (by decide) (by decide) ?_
    refine X0.ldc2Long hx hown (mvT hZ (own_W hw 159 rfl)) (g := (mkF m 33 #[.val (.int p1)] [])) rfl (hb hby d13_33) _ ?_
    jvm_step X0.here [X0.here.top, hx, (hb hby d13_36), X0.method', Bd.returns, narrow]
    first | (intro acts; rw [hr _ acts rfl rfl rfl]) | rw [hr _ _ rfl rfl rfl]
    exact Steps.refl _
  · show QR (some (.long (10000 : Int64))) h0 n0 _ s₁.heap _
    rw [e0]
    exact ⟨rfl, N0, rfl⟩
theorem r13 (l : Launch) (Z : State) (a0 : Array Value) (hw : ∀ d ∈ tables_1, d.before a0 Z = true) (ws : List Jvm.Cond) (A : Nat) (h0 : Heap) (n0 : Nat) (Z0 : n0 ≤ h0.size) (hA : A < 5) :
    MetFree l (⟨"com/example/bandmark/bandmark/PlainDecimalReadPinLaw", "p10", "(I)J"⟩ : MethodName) (head1 (Jvm.Cond.code (⟨"com/example/bandmark/bandmark/PlainDecimalReadPinLaw", "p10", "(I)J"⟩ : MethodName) method_8_code 1 (some .long) :: ws) ({ frames := 0, cells := 0, slots := 0, locals := 0 } : Room)) (fun a U => a = #[(.int (Int32.ofNat A))] ∧ Z.Warmed39 U.vm ∧ U.heap = h0) (fun _ _ _ _ _ => True) (fun _ U o U' => ∃ v L, o = .returned v ∧ QR (some (.long (Int64.ofNat (10 ^ A)))) h0 n0 v U'.heap L ∧ FrameEnd U o U' L ({ frames := 0, cells := 0, slots := 0, locals := 0 } : Room).cells ({ frames := 0, cells := 0, slots := 0, locals := 0 } : Room).slots) := by
  rcases A with _ | _ | _ | _ | _ | A
  · exact r13a l Z a0 hw ws 0 h0 n0 Z0 rfl
  · exact r13b l Z a0 hw ws 1 h0 n0 Z0 (by decide) rfl
  · exact r13c l Z a0 hw ws 2 h0 n0 Z0 (by decide) (by decide) rfl
  · exact r13d l Z a0 hw ws 3 h0 n0 Z0 (by decide) (by decide) (by decide) rfl
  · exact r13e l Z a0 hw ws 4 h0 n0 Z0 (by decide) (by decide) (by decide) (by decide)
  · omega
theorem d14_0 : decode prog_8_method_1_code 0 = .ok (.aload_n 0, 1) := by decide +kernel
theorem d14_1 : decode prog_8_method_1_code 1 = .ok (.invokespecial 1, 3) := by decide +kernel
theorem d14_4 : decode prog_8_method_1_code 4 = .ok (.return_, 1) := by decide +kernel
theorem pn_14 : plainName "com/example/bandmark/bandmark/PlainDecimal" = true := by first | (simp [plainName, overriddenIn]; done) | decide +kernel
theorem ef_14 (m : MethodId) (x0 : Addr) : entryFrame m #[(.ref x0)] 1 = mkF m 0 #[.val (.ref x0)] [] := by first | (simp [entryFrame, mkF, argsToLocals, Value.category]; done) | rfl
set_option maxRecDepth 65536 in
set_option maxHeartbeats 40000000 in
theorem r14 (l : Launch) (Z : State) (a0 : Array Value) (hw : ∀ d ∈ tables_1, d.before a0 Z = true) (ws : List Jvm.Cond) (a1 : Addr) (h0 : Heap) (n0 : Nat) (Z0 : n0 ≤ h0.size) :
    MetFree l (⟨"com/example/bandmark/bandmark/PlainDecimal", "<init>", "()V"⟩ : MethodName) (head1 (Jvm.Cond.code (⟨"com/example/bandmark/bandmark/PlainDecimal", "<init>", "()V"⟩ : MethodName) prog_8_method_1_code 1 none :: ws) ({ frames := 1, cells := 0, slots := 0, locals := 12 } : Room)) (fun a U => a = #[(.ref a1)] ∧ Z.Warmed39 U.vm ∧ U.heap = h0) (fun _ _ _ _ _ => True) (fun _ U o U' => ∃ v L, o = .returned v ∧ QR (none) h0 n0 v U'.heap L ∧ FrameEnd U o U' L ({ frames := 1, cells := 0, slots := 0, locals := 12 } : Room).cells ({ frames := 1, cells := 0, slots := 0, locals := 12 } : Room).slots) := by
  refine MetFree.of_bodySF (plainFor_of_name pn_14) hisR ?_
  intro p e s m args below meth c s₁ Bd hml0 hP hK
  obtain ⟨rfl, hZ, hh⟩ := hP
  have hx := Bd.exec
  have hby := Bd.bytes
  have hml : c.maxLocals = 1 := hml0
  have hown : s.vm.findClass "com/example/bandmark/bandmark/PlainDecimal" = some m.cls := findClass_of_methodNamed Bd.named
  have hnm := (name_of_methodNamed Bd.named Bd.method).1
  have X0 : Stand p l e ({ frames := 1, cells := 0, slots := 0, locals := 12 } : Room) s m #[(.ref a1)] below meth c s₁ [] 0 0 := Stand.of_body Bd
  have e0 : s₁.heap = h0 := by rw [← hh, Bd.state]; rfl
  have N0 := Fr.nil n0
  have pre0 : ∀ t, Steps p.tables e below (s₁.setTop (mkF m 0 #[.val (.ref a1)] [])) t → Steps p.tables e below (s₁.setTop (entryFrame m #[(.ref a1)] 1)) t := fun t k => castTop (ef_14 m a1) k
  obtain ⟨T2, X2, e2, st2⟩ := initO X0 hx hZ hown (own_W hw 60 rfl) (own_W hw 16 rfl) (own_W hw 17 rfl) e0 (g := (mkF m 1 #[.val (.ref a1)] [(.ref a1)])) rfl (by rw [hml]; rfl) rfl (hb hby d14_1) (by decide) (W := 0) (by show 2 * 0 + _ ≤ _; exact Nat.le_of_eq rfl) (by decide)
  obtain ⟨fs, hr, hrun, hended, hW, hsame⟩ := X2.leave (v := none) (fun _ => rfl)
  refine ⟨_, _, pre0 _ ?_, hrun, hended, _, _, rfl, ?_, ⟨_, rfl⟩, hW, hsame.mono (by decide) (by decide)⟩
  · refine XS.aloadN X0.here hx rfl (hb hby d14_0) rfl rfl ?_
    refine st2 _ ?_
    exact X2.returnOut hx Bd.returns (hb hby d14_4) hr
  · show QR (none) h0 n0 _ T2.heap _
    rw [e2]
    exact ⟨rfl, N0, rfl⟩
theorem d21_0 : decode prog_8_method_4_code 0 = .ok (.aload_n 0, 1) := by decide +kernel
theorem d21_1 : decode prog_8_method_4_code 1 = .ok (.getfield 28, 3) := by decide +kernel
theorem d21_4 : decode prog_8_method_4_code 4 = .ok (.lreturn, 1) := by decide +kernel
theorem pn_21 : plainName "com/example/bandmark/bandmark/PlainDecimal" = true := by first | (simp [plainName, overriddenIn]; done) | decide +kernel
theorem ef_21 (m : MethodId) (x0 : Addr) : entryFrame m #[(.ref x0)] 1 = mkF m 0 #[.val (.ref x0)] [] := by first | (simp [entryFrame, mkF, argsToLocals, Value.category]; done) | rfl
set_option maxRecDepth 65536 in
set_option maxHeartbeats 40000000 in
theorem r21 (l : Launch) (Z : State) (a0 : Array Value) (hw : ∀ d ∈ tables_1, d.before a0 Z = true) (ws : List Jvm.Cond) (a1 : Addr) (w2 : Int64) (h0 : Heap) (n0 : Nat) (Z0 : n0 ≤ h0.size) (F_unscaled_a1 : Fld Z h0 a1 "com/example/bandmark/bandmark/PlainDecimal" "unscaled" "J" (.long w2)) :
    MetFree l (⟨"com/example/bandmark/bandmark/PlainDecimal", "unscaled", "()J"⟩ : MethodName) (head1 (Jvm.Cond.code (⟨"com/example/bandmark/bandmark/PlainDecimal", "unscaled", "()J"⟩ : MethodName) prog_8_method_4_code 1 (some .long) :: ws) ({ frames := 0, cells := 0, slots := 0, locals := 0 } : Room)) (fun a U => a = #[(.ref a1)] ∧ Z.Warmed39 U.vm ∧ U.heap = h0) (fun _ _ _ _ _ => True) (fun _ U o U' => ∃ v L, o = .returned v ∧ QR (some (.long w2)) h0 n0 v U'.heap L ∧ FrameEnd U o U' L ({ frames := 0, cells := 0, slots := 0, locals := 0 } : Room).cells ({ frames := 0, cells := 0, slots := 0, locals := 0 } : Room).slots) := by
  refine MetFree.of_bodySF (plainFor_of_name pn_21) hisR ?_
  intro p e s m args below meth c s₁ Bd hml0 hP hK
  obtain ⟨rfl, hZ, hh⟩ := hP
  have hx := Bd.exec
  have hby := Bd.bytes
  have hml : c.maxLocals = 1 := hml0
  have hown : s.vm.findClass "com/example/bandmark/bandmark/PlainDecimal" = some m.cls := findClass_of_methodNamed Bd.named
  have hnm := (name_of_methodNamed Bd.named Bd.method).1
  have X0 : Stand p l e ({ frames := 0, cells := 0, slots := 0, locals := 0 } : Room) s m #[(.ref a1)] below meth c s₁ [] 0 0 := Stand.of_body Bd
  have e0 : s₁.heap = h0 := by rw [← hh, Bd.state]; rfl
  have N0 := Fr.nil n0
  have pre0 : ∀ t, Steps p.tables e below (s₁.setTop (mkF m 0 #[.val (.ref a1)] [])) t → Steps p.tables e below (s₁.setTop (entryFrame m #[(.ref a1)] 1)) t := fun t k => castTop (ef_21 m a1) k
  obtain ⟨T3, X3, e3, st3⟩ := getF X0 hx hZ hown (host := "") (Or.inl (own_W hw 98 rfl)) Via.refl e0 F_unscaled_a1 (g := (mkF m 1 #[.val (.ref a1)] [(.ref a1)])) rfl rfl (hb hby d21_1)
  obtain ⟨fs, hr, hrun, hended, hW, hsame⟩ := X3.leave (v := some (.long w2)) (fun h => by rw [Bd.returns] at h; cases h)
  refine ⟨_, _, pre0 _ ?_, hrun, hended, _, _, rfl, ?_, ⟨_, rfl⟩, hW, hsame.mono (by decide) (by decide)⟩
  · refine XS.aloadN X0.here hx rfl (hb hby d21_0) rfl rfl ?_
    refine st3 _ ?_
    jvm_step X3.here [X3.here.top, hx, (hb hby d21_4), X3.method', Bd.returns, narrow]
    first | (intro acts; rw [hr _ acts rfl rfl rfl]) | rw [hr _ _ rfl rfl rfl]
    exact Steps.refl _
  · show QR (some (.long w2)) h0 n0 _ T3.heap _
    rw [e3]
    exact ⟨rfl, N0, rfl⟩
theorem d22_0 : decode prog_8_method_5_code 0 = .ok (.aload_n 0, 1) := by decide +kernel
theorem d22_1 : decode prog_8_method_5_code 1 = .ok (.getfield 32, 3) := by decide +kernel
theorem d22_4 : decode prog_8_method_5_code 4 = .ok (.ireturn, 1) := by decide +kernel
theorem pn_22 : plainName "com/example/bandmark/bandmark/PlainDecimal" = true := by first | (simp [plainName, overriddenIn]; done) | decide +kernel
theorem ef_22 (m : MethodId) (x0 : Addr) : entryFrame m #[(.ref x0)] 1 = mkF m 0 #[.val (.ref x0)] [] := by first | (simp [entryFrame, mkF, argsToLocals, Value.category]; done) | rfl
set_option maxRecDepth 65536 in
set_option maxHeartbeats 40000000 in
theorem r22 (l : Launch) (Z : State) (a0 : Array Value) (hw : ∀ d ∈ tables_1, d.before a0 Z = true) (ws : List Jvm.Cond) (a1 : Addr) (w2 : Int32) (h0 : Heap) (n0 : Nat) (Z0 : n0 ≤ h0.size) (F_scale_a1 : Fld Z h0 a1 "com/example/bandmark/bandmark/PlainDecimal" "scale" "I" (.int w2)) :
    MetFree l (⟨"com/example/bandmark/bandmark/PlainDecimal", "scale", "()I"⟩ : MethodName) (head1 (Jvm.Cond.code (⟨"com/example/bandmark/bandmark/PlainDecimal", "scale", "()I"⟩ : MethodName) prog_8_method_5_code 1 (some .int) :: ws) ({ frames := 0, cells := 0, slots := 0, locals := 0 } : Room)) (fun a U => a = #[(.ref a1)] ∧ Z.Warmed39 U.vm ∧ U.heap = h0) (fun _ _ _ _ _ => True) (fun _ U o U' => ∃ v L, o = .returned v ∧ QR (some (.int w2)) h0 n0 v U'.heap L ∧ FrameEnd U o U' L ({ frames := 0, cells := 0, slots := 0, locals := 0 } : Room).cells ({ frames := 0, cells := 0, slots := 0, locals := 0 } : Room).slots) := by
  refine MetFree.of_bodySF (plainFor_of_name pn_22) hisR ?_
  intro p e s m args below meth c s₁ Bd hml0 hP hK
  obtain ⟨rfl, hZ, hh⟩ := hP
  have hx := Bd.exec
  have hby := Bd.bytes
  have hml : c.maxLocals = 1 := hml0
  have hown : s.vm.findClass "com/example/bandmark/bandmark/PlainDecimal" = some m.cls := findClass_of_methodNamed Bd.named
  have hnm := (name_of_methodNamed Bd.named Bd.method).1
  have X0 : Stand p l e ({ frames := 0, cells := 0, slots := 0, locals := 0 } : Room) s m #[(.ref a1)] below meth c s₁ [] 0 0 := Stand.of_body Bd
  have e0 : s₁.heap = h0 := by rw [← hh, Bd.state]; rfl
  have N0 := Fr.nil n0
  have pre0 : ∀ t, Steps p.tables e below (s₁.setTop (mkF m 0 #[.val (.ref a1)] [])) t → Steps p.tables e below (s₁.setTop (entryFrame m #[(.ref a1)] 1)) t := fun t k => castTop (ef_22 m a1) k
  obtain ⟨T3, X3, e3, st3⟩ := getF X0 hx hZ hown (host := "") (Or.inl (own_W hw 100 rfl)) Via.refl e0 F_scale_a1 (g := (mkF m 1 #[.val (.ref a1)] [(.ref a1)])) rfl rfl (hb hby d22_1)
  obtain ⟨fs, hr, hrun, hended, hW, hsame⟩ := X3.leave (v := some (.int w2)) (fun h => by rw [Bd.returns] at h; cases h)
  refine ⟨_, _, pre0 _ ?_, hrun, hended, _, _, rfl, ?_, ⟨_, rfl⟩, hW, hsame.mono (by decide) (by decide)⟩
  · refine XS.aloadN X0.here hx rfl (hb hby d22_0) rfl rfl ?_
    refine st3 _ ?_
    exact retI X3 hx Bd.returns (hb hby d22_4) hr
  · show QR (some (.int w2)) h0 n0 _ T3.heap _
    rw [e3]
    exact ⟨rfl, N0, rfl⟩
theorem d24_0 : decode prog_8_method_3_code 0 = .ok (.aload_n 0, 1) := by decide +kernel
theorem d24_1 : decode prog_8_method_3_code 1 = .ok (.getfield 35, 3) := by decide +kernel
theorem d24_4 : decode prog_8_method_3_code 4 = .ok (.bipush 18, 2) := by decide +kernel
theorem d24_6 : decode prog_8_method_3_code 6 = .ok (.if_icmp .gt 7, 3) := by decide +kernel
theorem d24_9 : decode prog_8_method_3_code 9 = .ok (.iconst 1, 1) := by decide +kernel
theorem d24_10 : decode prog_8_method_3_code 10 = .ok (.goto 4, 3) := by decide +kernel
theorem d24_14 : decode prog_8_method_3_code 14 = .ok (.ireturn, 1) := by decide +kernel
theorem pn_24 : plainName "com/example/bandmark/bandmark/PlainDecimal" = true := by first | (simp [plainName, overriddenIn]; done) | decide +kernel
theorem ef_24 (m : MethodId) (x0 : Addr) : entryFrame m #[(.ref x0)] 1 = mkF m 0 #[.val (.ref x0)] [] := by first | (simp [entryFrame, mkF, argsToLocals, Value.category]; done) | rfl
set_option maxRecDepth 65536 in
set_option maxHeartbeats 40000000 in
theorem r24 (l : Launch) (Z : State) (a0 : Array Value) (hw : ∀ d ∈ tables_1, d.before a0 Z = true) (ws : List Jvm.Cond) (a1 : Addr) (w2 : Int32) (h0 : Heap) (n0 : Nat) (Z0 : n0 ≤ h0.size) (F_digits_a1 : Fld Z h0 a1 "com/example/bandmark/bandmark/PlainDecimal" "digits" "I" (.int w2)) (hc6 : ¬ ((18 : Int32) < w2)) :
    MetFree l (⟨"com/example/bandmark/bandmark/PlainDecimal", "isCompact", "()Z"⟩ : MethodName) (head1 (Jvm.Cond.code (⟨"com/example/bandmark/bandmark/PlainDecimal", "isCompact", "()Z"⟩ : MethodName) prog_8_method_3_code 1 (some .boolean) :: ws) ({ frames := 0, cells := 0, slots := 0, locals := 0 } : Room)) (fun a U => a = #[(.ref a1)] ∧ Z.Warmed39 U.vm ∧ U.heap = h0) (fun _ _ _ _ _ => True) (fun _ U o U' => ∃ v L, o = .returned v ∧ QR (some (.int 1)) h0 n0 v U'.heap L ∧ FrameEnd U o U' L ({ frames := 0, cells := 0, slots := 0, locals := 0 } : Room).cells ({ frames := 0, cells := 0, slots := 0, locals := 0 } : Room).slots) := by
  refine MetFree.of_bodySF (plainFor_of_name pn_24) hisR ?_
  intro p e s m args below meth c s₁ Bd hml0 hP hK
  obtain ⟨rfl, hZ, hh⟩ := hP
  have hx := Bd.exec
  have hby := Bd.bytes
  have hml : c.maxLocals = 1 := hml0
  have hown : s.vm.findClass "com/example/bandmark/bandmark/PlainDecimal" = some m.cls := findClass_of_methodNamed Bd.named
  have hnm := (name_of_methodNamed Bd.named Bd.method).1
  have X0 : Stand p l e ({ frames := 0, cells := 0, slots := 0, locals := 0 } : Room) s m #[(.ref a1)] below meth c s₁ [] 0 0 := Stand.of_body Bd
  have e0 : s₁.heap = h0 := by rw [← hh, Bd.state]; rfl
  have N0 := Fr.nil n0
  have pre0 : ∀ t, Steps p.tables e below (s₁.setTop (mkF m 0 #[.val (.ref a1)] [])) t → Steps p.tables e below (s₁.setTop (entryFrame m #[(.ref a1)] 1)) t := fun t k => castTop (ef_24 m a1) k
  obtain ⟨T3, X3, e3, st3⟩ := getF X0 hx hZ hown (host := "") (Or.inl (own_W hw 102 rfl)) Via.refl e0 F_digits_a1 (g := (mkF m 1 #[.val (.ref a1)] [(.ref a1)])) rfl rfl (hb hby d24_1)
  obtain ⟨fs, hr, hrun, hended, hW, hsame⟩ := X3.leave (v := some (.int 1)) (fun h => by rw [Bd.returns] at h; cases h)
  refine ⟨_, _, pre0 _ ?_, hrun, hended, _, _, rfl, ?_, ⟨_, rfl⟩, hW, hsame.mono (by decide) (by decide)⟩
  · refine XS.aloadN X0.here hx rfl (hb hby d24_0) rfl rfl ?_
    refine st3 _ ?_
    refine XS.bipush X3.here hx rfl (hb hby d24_4) ?_
    refine XS.icmpNo X3.here hx rfl (hb hby d24_6) rfl (flt hc6).2.2.1 ?_
    refine XS.iconst X3.here hx rfl (hb hby d24_9) ?_
    refine XS.goto X3.here hx rfl (pc0 := 10) (pc' := 14) rfl (hb hby d24_10) (by decide) (by decide) ?_
    exact retN X3 hx (t := .boolean) Bd.returns (by simp) (hb hby d24_14) hr
  · show QR (some (.int 1)) h0 n0 _ T3.heap _
    rw [e3]
    exact ⟨rfl, N0, rfl⟩
theorem d23_0 : decode prog_8_method_6_code 0 = .ok (.aload_n 0, 1) := by decide +kernel
theorem d23_1 : decode prog_8_method_6_code 1 = .ok (.invokevirtual 38, 3) := by decide +kernel
theorem d23_4 : decode prog_8_method_6_code 4 = .ok (.ifCond .eq 21, 3) := by decide +kernel
theorem d23_7 : decode prog_8_method_6_code 7 = .ok (.aload_n 0, 1) := by decide +kernel
theorem d23_8 : decode prog_8_method_6_code 8 = .ok (.getfield 28, 3) := by decide +kernel
theorem d23_11 : decode prog_8_method_6_code 11 = .ok (.lconst 0, 1) := by decide +kernel
theorem d23_12 : decode prog_8_method_6_code 12 = .ok (.lcmp, 1) := by decide +kernel
theorem d23_13 : decode prog_8_method_6_code 13 = .ok (.ifCond .ge 7, 3) := by decide +kernel
theorem d23_16 : decode prog_8_method_6_code 16 = .ok (.iconst 1, 1) := by decide +kernel
theorem d23_17 : decode prog_8_method_6_code 17 = .ok (.goto 4, 3) := by decide +kernel
theorem d23_21 : decode prog_8_method_6_code 21 = .ok (.istore_n 1, 1) := by decide +kernel
theorem d23_22 : decode prog_8_method_6_code 22 = .ok (.goto 19, 3) := by decide +kernel
theorem d23_41 : decode prog_8_method_6_code 41 = .ok (.iload_n 1, 1) := by decide +kernel
theorem d23_42 : decode prog_8_method_6_code 42 = .ok (.ireturn, 1) := by decide +kernel
theorem pn_23 : plainName "com/example/bandmark/bandmark/PlainDecimal" = true := by first | (simp [plainName, overriddenIn]; done) | decide +kernel
theorem pd_23_12 : parseMethodDescriptor "()Z" = some ⟨[], some .boolean⟩ := by decide +kernel
theorem ef_23 (m : MethodId) (x0 : Addr) : entryFrame m #[(.ref x0)] 2 = mkF m 0 #[.val (.ref x0), .unset] [] := by first | (simp [entryFrame, mkF, argsToLocals, Value.category]; done) | rfl
set_option maxRecDepth 65536 in
set_option maxHeartbeats 40000000 in
theorem r23y (l : Launch) (Z : State) (a0 : Array Value) (hw : ∀ d ∈ tables_1, d.before a0 Z = true) (ws : List Jvm.Cond) (a1 : Addr) (w3 : Int64) (w2 : Int32) (h0 : Heap) (n0 : Nat) (Z0 : n0 ≤ h0.size) (E_a1 : Exa Z h0 a1 "com/example/bandmark/bandmark/PlainDecimal") (F_unscaled_a1 : Fld Z h0 a1 "com/example/bandmark/bandmark/PlainDecimal" "unscaled" "J" (.long w3)) (hc13 : (lcmpW w3 (0 : Int64)) < (0 : Int32)) (F_digits : Fld Z h0 a1 "com/example/bandmark/bandmark/PlainDecimal" "digits" "I" (.int w2)) (hd18 : ¬ (18 : Int32) < w2) :
    MetFree l (⟨"com/example/bandmark/bandmark/PlainDecimal", "isNegative", "()Z"⟩ : MethodName) (head1 (Jvm.Cond.code (⟨"com/example/bandmark/bandmark/PlainDecimal", "isNegative", "()Z"⟩ : MethodName) prog_8_method_6_code 2 (some .boolean) :: ws) ({ frames := 1, cells := 0, slots := 0, locals := 12 } : Room)) (fun a U => a = #[(.ref a1)] ∧ Z.Warmed39 U.vm ∧ U.heap = h0) (fun _ _ _ _ _ => True) (fun _ U o U' => ∃ v L, o = .returned v ∧ QR (some (.int 1)) h0 n0 v U'.heap L ∧ FrameEnd U o U' L ({ frames := 1, cells := 0, slots := 0, locals := 12 } : Room).cells ({ frames := 1, cells := 0, slots := 0, locals := 12 } : Room).slots) := by
  refine MetFree.of_bodySF (plainFor_of_name pn_23) hisR ?_
  intro p e s m args below meth c s₁ Bd hml0 hP hK
  obtain ⟨rfl, hZ, hh⟩ := hP
  have hx := Bd.exec
  have hby := Bd.bytes
  have hml : c.maxLocals = 2 := hml0
  have hown : s.vm.findClass "com/example/bandmark/bandmark/PlainDecimal" = some m.cls := findClass_of_methodNamed Bd.named
  have hnm := (name_of_methodNamed Bd.named Bd.method).1
  have X0 : Stand p l e ({ frames := 1, cells := 0, slots := 0, locals := 12 } : Room) s m #[(.ref a1)] below meth c s₁ [] 0 0 := Stand.of_body Bd
  have e0 : s₁.heap = h0 := by rw [← hh, Bd.state]; rfl
  have N0 := Fr.nil n0
  have pre0 : ∀ t, Steps p.tables e below (s₁.setTop (mkF m 0 #[.val (.ref a1), .unset] [])) t → Steps p.tables e below (s₁.setTop (entryFrame m #[(.ref a1)] 2)) t := fun t k => castTop (ef_23 m a1) k
  obtain ⟨cq2, kq2, q2a, q2b, q2c⟩ := isOf hZ e0 E_a1
  obtain ⟨_, _, ⟨T2, L2, k2, n2⟩, -, X2, ⟨Lc2, hQ2, l2, y2, z2⟩, st2⟩ := X0.virtualBack hx (y := (⟨"com/example/bandmark/bandmark/PlainDecimal", "isCompact", "()Z"⟩ : MethodName)) (z := (⟨"com/example/bandmark/bandmark/PlainDecimal", "isCompact", "()Z"⟩ : MethodName)) hown (mvT hZ (own_W hw 119 rfl)) (mvT hZ (own_W hw 120 rfl)) (notFace_of_selects (args := #[]) (mvT hZ (own_W hw 122 rfl))) (mvT hZ (own_W hw 122 rfl)) (mvT hZ (own_W hw 121 rfl)) (by decide) (backOf (W := 0) (r24 l Z a0 hw [] a1 w2 h0 n0 Z0 F_digits hd18) hZ (own_W hw 123 rfl) (own_W hw 56 rfl) (by decide) (by decide)) q2a q2c (g := (mkF m 1 #[.val (.ref a1), .unset] [(.ref a1)])) rfl (by rw [hml]; rfl) (Steps.refl _) (argsL := []) (rest := []) (lenOf pd_23_12 rfl) rfl (by show 2 * 0 + _ ≤ _; exact Nat.le_of_eq rfl) (hb hby d23_1) (fun _ _ => ⟨rfl, e0, (by decide : 0 + 0 ≤ _), (by decide : 0 + 0 ≤ _)⟩)
  dsimp only [Pt.U, Pt.locs, Pt.cells, Pt.slots] at X2 l2 y2 z2 st2 hQ2
  subst l2 y2 z2
  obtain ⟨rfl, N2q, e2⟩ := hQ2
  have N2 := Fr.app N0 N2q
  obtain ⟨T4, X4, e4, st4⟩ := getF X2 hx hZ hown (host := "") (Or.inl (own_W hw 98 rfl)) Via.refl e2 F_unscaled_a1 (g := (mkF m 8 #[.val (.ref a1), .unset] [(.ref a1)])) rfl rfl (hb hby d23_8)
  obtain ⟨fs, hr, hrun, hended, hW, hsame⟩ := X4.leave (v := some (.int 1)) (fun h => by rw [Bd.returns] at h; cases h)
  refine ⟨_, _, pre0 _ ?_, hrun, hended, _, _, rfl, ?_, ⟨_, rfl⟩, hW, hsame.mono (by decide) (by decide)⟩
  · refine XS.aloadN X0.here hx rfl (hb hby d23_0) rfl rfl ?_
    refine st2.trans ?_
    refine XS.ifNo X2.here hx rfl (hb hby d23_4) rfl ((if0 _ _).trans (feq (by decide : ¬ ((1 : Int32) = (0 : Int32)))).1) ?_
    refine XS.aloadN X2.here hx rfl (hb hby d23_7) rfl rfl ?_
    refine st4 _ ?_
    refine XS.lconst X4.here hx rfl (hb hby d23_11) ?_
    refine XS.lcmp X4.here hx rfl (hb hby d23_12) rfl ?_
    refine XS.ifNo X4.here hx rfl (hb hby d23_13) rfl ((if0 _ _).trans (tlt hc13).2.1) ?_
    refine XS.iconst X4.here hx rfl (hb hby d23_16) ?_
    refine XS.goto X4.here hx rfl (pc0 := 17) (pc' := 21) rfl (hb hby d23_17) (by decide) (by decide) ?_
    refine XS.istoreN X4.here hx rfl (hb hby d23_21) rfl (l' := #[.val (.ref a1), .val (.int 1)]) rfl ?_
    refine XS.goto X4.here hx rfl (pc0 := 22) (pc' := 41) rfl (hb hby d23_22) (by decide) (by decide) ?_
    refine XS.iloadN X4.here hx rfl (hb hby d23_41) rfl ?_
    exact retN X4 hx (t := .boolean) Bd.returns (by simp) (hb hby d23_42) hr
  · show QR (some (.int 1)) h0 n0 _ T4.heap _
    rw [e4]
    exact ⟨rfl, N2, rfl⟩
theorem d23_20 : decode prog_8_method_6_code 20 = .ok (.iconst 0, 1) := by decide +kernel
set_option maxRecDepth 65536 in
set_option maxHeartbeats 40000000 in
theorem r23n (l : Launch) (Z : State) (a0 : Array Value) (hw : ∀ d ∈ tables_1, d.before a0 Z = true) (ws : List Jvm.Cond) (a1 : Addr) (w3 : Int64) (w2 : Int32) (h0 : Heap) (n0 : Nat) (Z0 : n0 ≤ h0.size) (E_a1 : Exa Z h0 a1 "com/example/bandmark/bandmark/PlainDecimal") (F_unscaled_a1 : Fld Z h0 a1 "com/example/bandmark/bandmark/PlainDecimal" "unscaled" "J" (.long w3)) (hc13 : ¬ ((lcmpW w3 (0 : Int64)) < (0 : Int32))) (F_digits : Fld Z h0 a1 "com/example/bandmark/bandmark/PlainDecimal" "digits" "I" (.int w2)) (hd18 : ¬ (18 : Int32) < w2) :
    MetFree l (⟨"com/example/bandmark/bandmark/PlainDecimal", "isNegative", "()Z"⟩ : MethodName) (head1 (Jvm.Cond.code (⟨"com/example/bandmark/bandmark/PlainDecimal", "isNegative", "()Z"⟩ : MethodName) prog_8_method_6_code 2 (some .boolean) :: ws) ({ frames := 1, cells := 0, slots := 0, locals := 12 } : Room)) (fun a U => a = #[(.ref a1)] ∧ Z.Warmed39 U.vm ∧ U.heap = h0) (fun _ _ _ _ _ => True) (fun _ U o U' => ∃ v L, o = .returned v ∧ QR (some (.int 0)) h0 n0 v U'.heap L ∧ FrameEnd U o U' L ({ frames := 1, cells := 0, slots := 0, locals := 12 } : Room).cells ({ frames := 1, cells := 0, slots := 0, locals := 12 } : Room).slots) := by
  refine MetFree.of_bodySF (plainFor_of_name pn_23) hisR ?_
  intro p e s m args below meth c s₁ Bd hml0 hP hK
  obtain ⟨rfl, hZ, hh⟩ := hP
  have hx := Bd.exec
  have hby := Bd.bytes
  have hml : c.maxLocals = 2 := hml0
  have hown : s.vm.findClass "com/example/bandmark/bandmark/PlainDecimal" = some m.cls := findClass_of_methodNamed Bd.named
  have hnm := (name_of_methodNamed Bd.named Bd.method).1
  have X0 : Stand p l e ({ frames := 1, cells := 0, slots := 0, locals := 12 } : Room) s m #[(.ref a1)] below meth c s₁ [] 0 0 := Stand.of_body Bd
  have e0 : s₁.heap = h0 := by rw [← hh, Bd.state]; rfl
  have N0 := Fr.nil n0
  have pre0 : ∀ t, Steps p.tables e below (s₁.setTop (mkF m 0 #[.val (.ref a1), .unset] [])) t → Steps p.tables e below (s₁.setTop (entryFrame m #[(.ref a1)] 2)) t := fun t k => castTop (ef_23 m a1) k
  obtain ⟨cq2, kq2, q2a, q2b, q2c⟩ := isOf hZ e0 E_a1
  obtain ⟨_, _, ⟨T2, L2, k2, n2⟩, -, X2, ⟨Lc2, hQ2, l2, y2, z2⟩, st2⟩ := X0.virtualBack hx (y := (⟨"com/example/bandmark/bandmark/PlainDecimal", "isCompact", "()Z"⟩ : MethodName)) (z := (⟨"com/example/bandmark/bandmark/PlainDecimal", "isCompact", "()Z"⟩ : MethodName)) hown (mvT hZ (own_W hw 119 rfl)) (mvT hZ (own_W hw 120 rfl)) (notFace_of_selects (args := #[]) (mvT hZ (own_W hw 122 rfl))) (mvT hZ (own_W hw 122 rfl)) (mvT hZ (own_W hw 121 rfl)) (by decide) (backOf (W := 0) (r24 l Z a0 hw [] a1 w2 h0 n0 Z0 F_digits hd18) hZ (own_W hw 123 rfl) (own_W hw 56 rfl) (by decide) (by decide)) q2a q2c (g := (mkF m 1 #[.val (.ref a1), .unset] [(.ref a1)])) rfl (by rw [hml]; rfl) (Steps.refl _) (argsL := []) (rest := []) (lenOf pd_23_12 rfl) rfl (by show 2 * 0 + _ ≤ _; exact Nat.le_of_eq rfl) (hb hby d23_1) (fun _ _ => ⟨rfl, e0, (by decide : 0 + 0 ≤ _), (by decide : 0 + 0 ≤ _)⟩)
  dsimp only [Pt.U, Pt.locs, Pt.cells, Pt.slots] at X2 l2 y2 z2 st2 hQ2
  subst l2 y2 z2
  obtain ⟨rfl, N2q, e2⟩ := hQ2
  have N2 := Fr.app N0 N2q
  obtain ⟨T4, X4, e4, st4⟩ := getF X2 hx hZ hown (host := "") (Or.inl (own_W hw 98 rfl)) Via.refl e2 F_unscaled_a1 (g := (mkF m 8 #[.val (.ref a1), .unset] [(.ref a1)])) rfl rfl (hb hby d23_8)
  obtain ⟨fs, hr, hrun, hended, hW, hsame⟩ := X4.leave (v := some (.int 0)) (fun h => by rw [Bd.returns] at h; cases h)
  refine ⟨_, _, pre0 _ ?_, hrun, hended, _, _, rfl, ?_, ⟨_, rfl⟩, hW, hsame.mono (by decide) (by decide)⟩
  · refine XS.aloadN X0.here hx rfl (hb hby d23_0) rfl rfl ?_
    refine st2.trans ?_
    refine XS.ifNo X2.here hx rfl (hb hby d23_4) rfl ((if0 _ _).trans (feq (by decide : ¬ ((1 : Int32) = (0 : Int32)))).1) ?_
    refine XS.aloadN X2.here hx rfl (hb hby d23_7) rfl rfl ?_
    refine st4 _ ?_
    refine XS.lconst X4.here hx rfl (hb hby d23_11) ?_
    refine XS.lcmp X4.here hx rfl (hb hby d23_12) rfl ?_
    refine XS.ifYes X4.here hx rfl (pc0 := 13) (pc' := 20) rfl (hb hby d23_13) rfl ((if0 _ _).trans (flt hc13).2.1) (by decide) (by decide) ?_
    refine XS.iconst X4.here hx rfl (hb hby d23_20) ?_
    refine XS.istoreN X4.here hx rfl (hb hby d23_21) rfl (l' := #[.val (.ref a1), .val (.int 0)]) rfl ?_
    refine XS.goto X4.here hx rfl (pc0 := 22) (pc' := 41) rfl (hb hby d23_22) (by decide) (by decide) ?_
    refine XS.iloadN X4.here hx rfl (hb hby d23_41) rfl ?_
    exact retN X4 hx (t := .boolean) Bd.returns (by simp) (hb hby d23_42) hr
  · show QR (some (.int 0)) h0 n0 _ T4.heap _
    rw [e4]
    exact ⟨rfl, N2, rfl⟩
def own_ng (u : Int64) : Int32 := if (lcmpW u (0 : Int64)) < (0 : Int32) then 1 else 0
theorem r23 (l : Launch) (Z : State) (a0 : Array Value) (hw : ∀ d ∈ tables_1, d.before a0 Z = true) (ws : List Jvm.Cond) (a1 : Addr) (w3 : Int64) (w2 : Int32) (h0 : Heap) (n0 : Nat) (Z0 : n0 ≤ h0.size) (E_a1 : Exa Z h0 a1 "com/example/bandmark/bandmark/PlainDecimal") (F_u : Fld Z h0 a1 "com/example/bandmark/bandmark/PlainDecimal" "unscaled" "J" (.long w3)) (F_d : Fld Z h0 a1 "com/example/bandmark/bandmark/PlainDecimal" "digits" "I" (.int w2)) (hd18 : ¬ (18 : Int32) < w2) :
    MetFree l (⟨"com/example/bandmark/bandmark/PlainDecimal", "isNegative", "()Z"⟩ : MethodName) (head1 (Jvm.Cond.code (⟨"com/example/bandmark/bandmark/PlainDecimal", "isNegative", "()Z"⟩ : MethodName) prog_8_method_6_code 2 (some .boolean) :: ws) ({ frames := 1, cells := 0, slots := 0, locals := 12 } : Room)) (fun a U => a = #[(.ref a1)] ∧ Z.Warmed39 U.vm ∧ U.heap = h0) (fun _ _ _ _ _ => True) (fun _ U o U' => ∃ v L, o = .returned v ∧ QR (some (.int (own_ng w3))) h0 n0 v U'.heap L ∧ FrameEnd U o U' L ({ frames := 1, cells := 0, slots := 0, locals := 12 } : Room).cells ({ frames := 1, cells := 0, slots := 0, locals := 12 } : Room).slots) := by
  by_cases h : (lcmpW w3 (0 : Int64)) < (0 : Int32)
  · rw [show own_ng w3 = 1 from if_pos h]; exact r23y l Z a0 hw ws a1 w3 w2 h0 n0 Z0 E_a1 F_u h F_d hd18
  · rw [show own_ng w3 = 0 from if_neg h]; exact r23n l Z a0 hw ws a1 w3 w2 h0 n0 Z0 E_a1 F_u h F_d hd18
def own_nb (x : Bool) : Nat := if x then 1 else 0
theorem own_b_n (x : Bool) : own_b x = Int32.ofNat (own_nb x) := by cases x <;> rfl
def own_sA (cs : List Int32) (st b : Nat) : Nat → Nat → Nat
  | 0, _ => 0
  | k + 1, i => own_nb (own_vd cs i st b) + own_sA cs st b k (i + 1)
def own_sP (cs : List Int32) (st b : Nat) : Nat → Nat → Nat
  | 0, _ => 0
  | k + 1, i => own_nb (own_vp cs i st b) + own_sP cs st b k (i + 1)
def own_sB (cs : List Int32) (st b : Nat) : Nat → Nat → Nat
  | 0, _ => 0
  | k + 1, i => own_nb (own_vb cs i st b) + own_sB cs st b k (i + 1)
def own_sU (cs : List Int32) (st b : Nat) : Nat → Nat → Nat
  | 0, _ => 0
  | k + 1, i => own_dvn cs i st b * 10 ^ own_sA cs st b k (i + 1) + own_sU cs st b k (i + 1)
def own_sS (cs : List Int32) (st b : Nat) : Nat → Nat → Nat
  | 0, _ => 0
  | k + 1, i => own_nb (own_vp cs i st b) * own_sA cs st b k (i + 1) + own_sS cs st b k (i + 1)
theorem own_off (cs : List Int32) (st b i : Nat) (h : ¬ (st ≤ i ∧ i < b)) : own_vd cs i st b = false ∧ own_vp cs i st b = false ∧ own_vb cs i st b = false ∧ own_dvn cs i st b = 0 := by
  have h1 : own_vd cs i st b = false := decide_eq_false fun q => h q.1
  exact ⟨h1, decide_eq_false fun q => h q.1, decide_eq_false fun q => h q.1, by unfold own_dvn; rw [h1]; rfl⟩
theorem own_zeros (cs : List Int32) (st b : Nat) : ∀ k i, b ≤ i → own_sA cs st b k i = 0 ∧ own_sP cs st b k i = 0 ∧ own_sB cs st b k i = 0 ∧ own_sU cs st b k i = 0 ∧ own_sS cs st b k i = 0 := by
  intro k
  induction k with
  | zero => intro i h; exact ⟨rfl, rfl, rfl, rfl, rfl⟩
  | succ k ih =>
    intro i h
    obtain ⟨e1, e2, e3, e4⟩ := own_off cs st b i (by omega)
    obtain ⟨f1, f2, f3, f4, f5⟩ := ih (i + 1) (by omega)
    simp [own_sA, own_sP, own_sB, own_sU, own_sS, e1, e2, e3, e4, f1, f2, f3, f4, f5, own_nb]
theorem own_skip (cs : List Int32) (st b : Nat) (hst : st ≤ 5) : ∀ k i, i + k = 5 → i ≤ st → own_sA cs st b k i = own_sA cs st b (5 - st) st ∧ own_sP cs st b k i = own_sP cs st b (5 - st) st ∧ own_sB cs st b k i = own_sB cs st b (5 - st) st ∧ own_sU cs st b k i = own_sU cs st b (5 - st) st ∧ own_sS cs st b k i = own_sS cs st b (5 - st) st := by
  intro k
  induction k with
  | zero => intro i h h2; obtain rfl : i = st := by omega
            obtain rfl : i = 5 := by omega
            exact ⟨rfl, rfl, rfl, rfl, rfl⟩
  | succ k ih =>
    intro i h h2
    by_cases hi : i = st
    · subst hi
      rw [show 5 - i = k + 1 by omega]
      exact ⟨rfl, rfl, rfl, rfl, rfl⟩
    · obtain ⟨e1, e2, e3, e4⟩ := own_off cs st b i (by omega)
      obtain ⟨f1, f2, f3, f4, f5⟩ := ih (i + 1) (by omega) (by omega)
      rw [← f1, ← f2, ← f3, ← f4, ← f5]
      simp [own_sA, own_sP, own_sB, own_sU, own_sS, e1, e2, e3, e4, own_nb]
theorem own_spec (cs : List Int32) (st b : Nat) (hb : b ≤ 5) : ∀ k i c pt u q, i + k = 5 → st ≤ i →
    own_scan (fun j => cs.getD j 0) (b - i) i c pt u q = if own_sB cs st b k i = 0 ∧ own_sP cs st b k i + own_nb pt ≤ 1 then some (c + own_sA cs st b k i, u * 10 ^ own_sA cs st b k i + own_sU cs st b k i, q + (if pt then own_sA cs st b k i else 0) + own_sS cs st b k i) else none := by
  intro k
  induction k with
  | zero =>
    intro i c pt u q h h2
    rw [show b - i = 0 by omega]
    cases pt <;> simp [own_scan, own_sA, own_sP, own_sB, own_sU, own_sS, own_nb]
  | succ k ih =>
    intro i c pt u q h h2
    by_cases hi : i < b
    · rw [show b - i = (b - (i + 1)) + 1 by omega, own_scan_s]
      by_cases hd : ¬ cs.getD i 0 < 48 ∧ ¬ 57 < cs.getD i 0
      · have e1 : own_vd cs i st b = true := decide_eq_true ⟨⟨h2, hi⟩, hd⟩
        have n46 : ¬ cs.getD i 0 = 46 := fun z => by rw [z] at hd; exact hd.1 (by decide)
        have e2 : own_vp cs i st b = false := decide_eq_false fun z => n46 z.2
        have e3 : own_vb cs i st b = false := decide_eq_false fun z => z.2.1 hd
        have e4 : own_dvn cs i st b = own_dn (cs.getD i 0) := by unfold own_dvn; rw [e1]; rfl
        rw [if_pos hd, ih (i + 1) _ _ _ _ (by omega) (by omega)]
        have p : ∀ dd A U : Nat, (u * 10 + dd) * 10 ^ A + U = u * 10 ^ (1 + A) + (dd * 10 ^ A + U) := by
          intro dd A U
          rw [Nat.add_mul, Nat.mul_assoc, Nat.pow_add, Nat.pow_one, Nat.add_assoc]
        cases pt <;> simp [own_sA, own_sP, own_sB, own_sU, own_sS, e1, e2, e3, e4, own_nb, p, Nat.add_assoc]
      · have e1 : own_vd cs i st b = false := decide_eq_false fun z => hd z.2
        have e4 : own_dvn cs i st b = 0 := by unfold own_dvn; rw [e1]; rfl
        rw [if_neg hd]
        by_cases h46 : cs.getD i 0 = 46
        · have e2 : own_vp cs i st b = true := decide_eq_true ⟨⟨h2, hi⟩, h46⟩
          have e3 : own_vb cs i st b = false := decide_eq_false fun z => z.2.2 h46
          cases pt with
          | false =>
            rw [if_pos ⟨h46, rfl⟩, ih (i + 1) _ _ _ _ (by omega) (by omega)]
            simp [own_sA, own_sP, own_sB, own_sU, own_sS, e1, e2, e3, e4, own_nb, Nat.add_comm, Nat.add_left_comm, Nat.add_assoc]
          | true =>
            rw [if_neg (fun z => by cases z.2), if_neg (fun z => by have := z.2; simp [own_sP, e2, own_nb] at this)]
        · have e3 : own_vb cs i st b = true := decide_eq_true ⟨⟨h2, hi⟩, hd, h46⟩
          rw [if_neg (fun z => h46 z.1), if_neg (fun z => by have := z.1; simp [own_sB, e3, own_nb] at this)]
    · obtain ⟨f1, f2, f3, f4, f5⟩ := own_zeros cs st b (k + 1) i (by omega)
      rw [f1, f2, f3, f4, f5, show b - i = 0 by omega]
      cases pt <;> simp [own_scan, own_nb]
theorem own_bound (cs : List Int32) (st b : Nat) : ∀ k i, own_sA cs st b k i ≤ k ∧ own_sU cs st b k i < 10 ^ own_sA cs st b k i := by
  intro k
  induction k with
  | zero => intro i; exact ⟨Nat.le_refl _, by show 0 < 10 ^ 0; decide⟩
  | succ k ih =>
    intro i
    obtain ⟨f1, f2⟩ := ih (i + 1)
    cases hv : own_vd cs i st b with
    | true =>
      have hv2 := of_decide_eq_true hv
      have h10 := (own_dval _ hv2.2.1 hv2.2.2).2
      have e4 : own_dvn cs i st b = own_dn (cs.getD i 0) := by unfold own_dvn; rw [hv]; rfl
      simp only [own_sA, own_sU, hv, own_nb, e4, if_true]
      refine ⟨by omega, ?_⟩
      rw [Nat.pow_add, Nat.pow_one]
      have : own_dn (cs.getD i 0) * 10 ^ own_sA cs st b k (i + 1) ≤ 9 * 10 ^ own_sA cs st b k (i + 1) := Nat.mul_le_mul_right _ (by omega)
      omega
    | false =>
      have e4 : own_dvn cs i st b = 0 := by unfold own_dvn; rw [hv]; rfl
      simp only [own_sA, own_sU, hv, own_nb, e4]
      simp
      exact ⟨by omega, f2⟩
theorem own_ans (cs : List Int32) (a b : Nat) (hab : a ≤ b) (hb : b ≤ 5) (st : Nat) (hst : st = own_start (fun j => cs.getD j 0) a b) :
    own_read (fun j => cs.getD j 0) a b = if (own_sB cs st b 5 0 = 0 ∧ own_sP cs st b 5 0 ≤ 1) ∧ 1 ≤ own_sA cs st b 5 0 then some (own_sA cs st b 5 0, own_sU cs st b 5 0, own_sS cs st b 5 0) else none := by
  have h1 : st ≤ b := by rw [hst]; unfold own_start; split <;> omega
  obtain ⟨f1, f2, f3, f4, f5⟩ := own_skip cs st b (by omega) 5 0 (by omega) (by omega)
  rw [f1, f2, f3, f4, f5]
  unfold own_read
  rw [← hst, own_spec cs st b hb (5 - st) st 0 false 0 0 (by omega) (Nat.le_refl _)]
  by_cases h : own_sB cs st b (5 - st) st = 0 ∧ own_sP cs st b (5 - st) st + own_nb false ≤ 1
  · rw [if_pos h]
    simp only [Bool.false_eq_true, if_false, Nat.zero_add, Nat.zero_mul]
    have h' : own_sB cs st b (5 - st) st = 0 ∧ own_sP cs st b (5 - st) st ≤ 1 := h
    cases hA : own_sA cs st b (5 - st) st with
    | zero => rw [if_neg (fun z => by have := z.2; omega)]; rfl
    | succ n =>
      rw [if_pos ⟨h', by omega⟩]
      rfl
  · rw [if_neg h, if_neg (fun z => h z.1)]
theorem r8w (l : Launch) (Z : State) (a0 : Array Value) (hw : ∀ d ∈ tables_1, d.before a0 Z = true) (ws : List Jvm.Cond) (a1 : Addr) (p2 p3 p4 : Int32) (cs : List Int32) (j st b : Nat) (kc : ClassId) (h0 : Heap) (n0 : Nat) (Z0 : n0 ≤ h0.size) (h2 : p2 = Int32.ofNat j) (h3 : p3 = Int32.ofNat st) (h4 : p4 = Int32.ofNat b) (hcs : cs.length = 5) (hj : j < 5) (hs : st < 32) (hb3 : b < 32) (C : Arv Z h0 a1 kc .char (5 : Int32) (cs.map Value.int) (.int 0)) :
    MetFree l (⟨"com/example/bandmark/bandmark/PlainDecimalReadPinLaw", "dig", "([CIII)I"⟩ : MethodName) (head1 (Jvm.Cond.code (⟨"com/example/bandmark/bandmark/PlainDecimalReadPinLaw", "dig", "([CIII)I"⟩ : MethodName) method_4_code 4 (some .int) :: ws) ({ frames := 1, cells := 0, slots := 0, locals := 14 } : Room)) (fun a U => a = #[(.ref a1), (.int p2), (.int p3), (.int p4)] ∧ Z.Warmed39 U.vm ∧ U.heap = h0) (fun _ _ _ _ _ => True) (fun _ U o U' => ∃ v L, o = .returned v ∧ QR (some (.int (own_b (own_vd cs j st b)))) h0 n0 v U'.heap L ∧ FrameEnd U o U' L ({ frames := 1, cells := 0, slots := 0, locals := 14 } : Room).cells ({ frames := 1, cells := 0, slots := 0, locals := 14 } : Room).slots) := by
  subst h2 h3 h4
  exact r8 l Z a0 hw ws a1 cs j st b kc h0 n0 Z0 hcs hj hs hb3 C
theorem r10w (l : Launch) (Z : State) (a0 : Array Value) (hw : ∀ d ∈ tables_1, d.before a0 Z = true) (ws : List Jvm.Cond) (a1 : Addr) (p2 p3 p4 : Int32) (cs : List Int32) (j st b : Nat) (kc : ClassId) (h0 : Heap) (n0 : Nat) (Z0 : n0 ≤ h0.size) (h2 : p2 = Int32.ofNat j) (h3 : p3 = Int32.ofNat st) (h4 : p4 = Int32.ofNat b) (hcs : cs.length = 5) (hj : j < 5) (hs : st < 32) (hb3 : b < 32) (C : Arv Z h0 a1 kc .char (5 : Int32) (cs.map Value.int) (.int 0)) :
    MetFree l (⟨"com/example/bandmark/bandmark/PlainDecimalReadPinLaw", "pt", "([CIII)I"⟩ : MethodName) (head1 (Jvm.Cond.code (⟨"com/example/bandmark/bandmark/PlainDecimalReadPinLaw", "pt", "([CIII)I"⟩ : MethodName) method_5_code 4 (some .int) :: ws) ({ frames := 1, cells := 0, slots := 0, locals := 14 } : Room)) (fun a U => a = #[(.ref a1), (.int p2), (.int p3), (.int p4)] ∧ Z.Warmed39 U.vm ∧ U.heap = h0) (fun _ _ _ _ _ => True) (fun _ U o U' => ∃ v L, o = .returned v ∧ QR (some (.int (own_b (own_vp cs j st b)))) h0 n0 v U'.heap L ∧ FrameEnd U o U' L ({ frames := 1, cells := 0, slots := 0, locals := 14 } : Room).cells ({ frames := 1, cells := 0, slots := 0, locals := 14 } : Room).slots) := by
  subst h2 h3 h4
  exact r10 l Z a0 hw ws a1 cs j st b kc h0 n0 Z0 hcs hj hs hb3 C
theorem r11w (l : Launch) (Z : State) (a0 : Array Value) (hw : ∀ d ∈ tables_1, d.before a0 Z = true) (ws : List Jvm.Cond) (a1 : Addr) (p2 p3 p4 : Int32) (cs : List Int32) (j st b : Nat) (kc : ClassId) (h0 : Heap) (n0 : Nat) (Z0 : n0 ≤ h0.size) (h2 : p2 = Int32.ofNat j) (h3 : p3 = Int32.ofNat st) (h4 : p4 = Int32.ofNat b) (hcs : cs.length = 5) (hj : j < 5) (hs : st < 32) (hb3 : b < 32) (C : Arv Z h0 a1 kc .char (5 : Int32) (cs.map Value.int) (.int 0)) :
    MetFree l (⟨"com/example/bandmark/bandmark/PlainDecimalReadPinLaw", "bad", "([CIII)I"⟩ : MethodName) (head1 (Jvm.Cond.code (⟨"com/example/bandmark/bandmark/PlainDecimalReadPinLaw", "bad", "([CIII)I"⟩ : MethodName) method_6_code 4 (some .int) :: ws) ({ frames := 1, cells := 0, slots := 0, locals := 14 } : Room)) (fun a U => a = #[(.ref a1), (.int p2), (.int p3), (.int p4)] ∧ Z.Warmed39 U.vm ∧ U.heap = h0) (fun _ _ _ _ _ => True) (fun _ U o U' => ∃ v L, o = .returned v ∧ QR (some (.int (own_b (own_vb cs j st b)))) h0 n0 v U'.heap L ∧ FrameEnd U o U' L ({ frames := 1, cells := 0, slots := 0, locals := 14 } : Room).cells ({ frames := 1, cells := 0, slots := 0, locals := 14 } : Room).slots) := by
  subst h2 h3 h4
  exact r11 l Z a0 hw ws a1 cs j st b kc h0 n0 Z0 hcs hj hs hb3 C
theorem r12w (l : Launch) (Z : State) (a0 : Array Value) (hw : ∀ d ∈ tables_1, d.before a0 Z = true) (ws : List Jvm.Cond) (a1 : Addr) (p2 p3 p4 : Int32) (cs : List Int32) (j st b : Nat) (kc : ClassId) (h0 : Heap) (n0 : Nat) (Z0 : n0 ≤ h0.size) (h2 : p2 = Int32.ofNat j) (h3 : p3 = Int32.ofNat st) (h4 : p4 = Int32.ofNat b) (hcs : cs.length = 5) (hj : j < 5) (hs : st < 32) (hb3 : b < 32) (C : Arv Z h0 a1 kc .char (5 : Int32) (cs.map Value.int) (.int 0)) :
    MetFree l (⟨"com/example/bandmark/bandmark/PlainDecimalReadPinLaw", "dv", "([CIII)J"⟩ : MethodName) (head1 (Jvm.Cond.code (⟨"com/example/bandmark/bandmark/PlainDecimalReadPinLaw", "dv", "([CIII)J"⟩ : MethodName) method_7_code 4 (some .long) :: ws) ({ frames := 2, cells := 0, slots := 0, locals := 29 } : Room)) (fun a U => a = #[(.ref a1), (.int p2), (.int p3), (.int p4)] ∧ Z.Warmed39 U.vm ∧ U.heap = h0) (fun _ _ _ _ _ => True) (fun _ U o U' => ∃ v L, o = .returned v ∧ QR (some (.long (Int64.ofNat (own_dvn cs j st b)))) h0 n0 v U'.heap L ∧ FrameEnd U o U' L ({ frames := 2, cells := 0, slots := 0, locals := 29 } : Room).cells ({ frames := 2, cells := 0, slots := 0, locals := 29 } : Room).slots) := by
  subst h2 h3 h4
  exact r12 l Z a0 hw ws a1 cs j st b kc h0 n0 Z0 hcs hj hs hb3 C
theorem r13w (l : Launch) (Z : State) (a0 : Array Value) (hw : ∀ d ∈ tables_1, d.before a0 Z = true) (ws : List Jvm.Cond) (p1 : Int32) (A : Nat) (h0 : Heap) (n0 : Nat) (Z0 : n0 ≤ h0.size) (h1 : p1 = Int32.ofNat A) (hA : A < 5) :
    MetFree l (⟨"com/example/bandmark/bandmark/PlainDecimalReadPinLaw", "p10", "(I)J"⟩ : MethodName) (head1 (Jvm.Cond.code (⟨"com/example/bandmark/bandmark/PlainDecimalReadPinLaw", "p10", "(I)J"⟩ : MethodName) method_8_code 1 (some .long) :: ws) ({ frames := 0, cells := 0, slots := 0, locals := 0 } : Room)) (fun a U => a = #[(.int p1)] ∧ Z.Warmed39 U.vm ∧ U.heap = h0) (fun _ _ _ _ _ => True) (fun _ U o U' => ∃ v L, o = .returned v ∧ QR (some (.long (Int64.ofNat (10 ^ A)))) h0 n0 v U'.heap L ∧ FrameEnd U o U' L ({ frames := 0, cells := 0, slots := 0, locals := 0 } : Room).cells ({ frames := 0, cells := 0, slots := 0, locals := 0 } : Room).slots) := by
  subst h1
  exact r13 l Z a0 hw ws A h0 n0 Z0 hA
theorem pd_0_0 : parseMethodDescriptor "(I)C" = some ⟨[.int], some .char⟩ := by decide +kernel
theorem os0_39_0 {z0 : Value} {z1 : Value} {z2 : Value} {z3 : Value} {z4 : Value} {s5 : Slot} {s6 : Slot} {s7 : Slot} {s8 : Slot} {s9 : Slot} {s10 : Slot} {s11 : Slot} {s12 : Slot} {s13 : Slot} {s14 : Slot} {s15 : Slot} {s16 : Slot} {s17 : Slot} {s18 : Slot} {s19 : Slot} {s20 : Slot} {s21 : Slot} {s22 : Slot} {s23 : Slot} {s24 : Slot} {s25 : Slot} {s26 : Slot} {s27 : Slot} {s28 : Slot} {s29 : Slot} {s30 : Slot} {s31 : Slot} {s32 : Slot} {s33 : Slot} {s34 : Slot} {s35 : Slot} {s36 : Slot} {s37 : Slot} {s38 : Slot} {s39 : Slot} {v : Addr} (h : One s6) : storeLocals #[.val z0, .val z1, .val z2, .val z3, .val z4, s5, s6, s7, s8, s9, s10, s11, s12, s13, s14, s15, s16, s17, s18, s19, s20, s21, s22, s23, s24, s25, s26, s27, s28, s29, s30, s31, s32, s33, s34, s35, s36, s37, s38, s39] 6 (.ref v) = some #[.val z0, .val z1, .val z2, .val z3, .val z4, s5, .val (.ref v), s7, s8, s9, s10, s11, s12, s13, s14, s15, s16, s17, s18, s19, s20, s21, s22, s23, s24, s25, s26, s27, s28, s29, s30, s31, s32, s33, s34, s35, s36, s37, s38, s39] := by
  rcases h with rfl | ⟨w, rfl, hw⟩
  · rfl
  · cases w <;> first | rfl | (simp [Value.category] at hw)
set_option maxRecDepth 65536 in
set_option maxHeartbeats 40000000 in
theorem own_A {p : Program} {l : Launch} {e : Env} {s : State} {m : MethodId} {args : Array Value} {below : List Frame} {meth : Method} {c : Code} {T0 : State} {locs : List Loc} {Z : State} {a0 : Array Value} {h0 : Heap} (i0 : Int32) (i1 : Int32) (i2 : Int32) (i3 : Int32) (i4 : Int32) (s5 : Slot) (s6 : Slot) (s7 : Slot) (s8 : Slot) (s9 : Slot) (s10 : Slot) (s11 : Slot) (s12 : Slot) (s13 : Slot) (s14 : Slot) (s15 : Slot) (s16 : Slot) (s17 : Slot) (s18 : Slot) (s19 : Slot) (s20 : Slot) (s21 : Slot) (s22 : Slot) (s23 : Slot) (s24 : Slot) (s25 : Slot) (s26 : Slot) (s27 : Slot) (s28 : Slot) (s29 : Slot) (s30 : Slot) (s31 : Slot) (s32 : Slot) (s33 : Slot) (s34 : Slot) (s35 : Slot) (s36 : Slot) (s37 : Slot) (s38 : Slot) (s39 : Slot) (n0 : Nat)
    (X0 : Stand p l e room_1 s m args below meth c T0 locs 0 0) (hx : p.tables.exec = Jvm.exec) (hZ : Z.Warmed39 s.vm) (hw : ∀ d ∈ tables_1, d.before a0 Z = true) (hby : c.code = code) (hml : c.maxLocals = 40) (hown : s.vm.findClass "com/example/bandmark/bandmark/PlainDecimalReadPinLaw" = some m.cls) (e0 : T0.heap = h0) (Z0 : n0 ≤ h0.size) (N0 : Fr n0 locs) (hs6 : One s6) :
    ∃ (T' : State) (locs' : List Loc) (b7 : Addr) (k7 : ClassId), Stand p l e room_1 s m args below meth c T' locs' 1 5 ∧ Fr n0 locs' ∧ Keep h0 T'.heap [] ∧ n0 ≤ b7 ∧ Arv Z T'.heap b7 k7 .char (5 : Int32) ([nar .char (own_c i0), nar .char (own_c i1), nar .char (own_c i2), nar .char (own_c i3), nar .char (own_c i4)].map Value.int) (.int 0) ∧
      ∀ target, Steps p.tables e below (T'.setTop (mkF m 41 #[.val (.int i0), .val (.int i1), .val (.int i2), .val (.int i3), .val (.int i4), s5, .val (.ref b7), s7, s8, s9, s10, s11, s12, s13, s14, s15, s16, s17, s18, s19, s20, s21, s22, s23, s24, s25, s26, s27, s28, s29, s30, s31, s32, s33, s34, s35, s36, s37, s38, s39] [])) target → Steps p.tables e below (T0.setTop (mkF m 0 #[.val (.int i0), .val (.int i1), .val (.int i2), .val (.int i3), .val (.int i4), s5, s6, s7, s8, s9, s10, s11, s12, s13, s14, s15, s16, s17, s18, s19, s20, s21, s22, s23, s24, s25, s26, s27, s28, s29, s30, s31, s32, s33, s34, s35, s36, s37, s38, s39] [])) target := by
  obtain ⟨T7, h7, k7, X7, e7, E7, A7, st7⟩ := newP X0 hx hZ (own_W hw 0 rfl) e0 (g := (mkF m 1 #[.val (.int i0), .val (.int i1), .val (.int i2), .val (.int i3), .val (.int i4), s5, s6, s7, s8, s9, s10, s11, s12, s13, s14, s15, s16, s17, s18, s19, s20, s21, s22, s23, s24, s25, s26, s27, s28, s29, s30, s31, s32, s33, s34, s35, s36, s37, s38, s39] [(.int 5)])) rfl (hb hby at_1) rfl (by decide) (cap := 5) (by decide) (by decide) (by decide) (by decide)
  obtain ⟨b7, g7⟩ : ∃ z, z = h0.size := ⟨_, rfl⟩
  rw [← g7] at A7 st7
  have V_b7 : Arv Z h7 b7 k7 .char (5 : Int32) [(.int 0), (.int 0), (.int 0), (.int 0), (.int 0)] (.int 0) := (Arv.new A7 (by decide)).pad (pad_rep [] (.int 0) 5)
  have g_b7 : n0 ≤ b7 := Nat.le_trans Z0 (Nat.le_of_eq g7.symm)
  have sz_b7 : h0.size ≤ b7 := (Nat.le_trans (Keep.refl h0 []).1 (Nat.le_of_eq g7.symm))
  have K7 : Keep h0 h7 [] := (Keep.refl h0 []).ext E7
  obtain ⟨_, _, ⟨T8, L8, k8, n8⟩, -, X8, ⟨Lc8, hQ8, l8, y8, z8⟩, st8⟩ := Jvm.LawKit.callS X7 hx (y := (⟨"com/example/bandmark/bandmark/PlainDecimalReadPinLaw", "ch", "(I)C"⟩ : MethodName)) hown (mvT hZ (own_W hw 1 rfl)) (mvT hZ (own_W hw 2 rfl)) (mvT hZ (own_W hw 3 rfl)) (mvT hZ (own_W hw 4 rfl)) (by decide) (backOf (W := 3) (r1 l Z a0 hw [] i0 h7 n0 (Nat.le_trans Z0 K7.1)) hZ (own_W hw 4 rfl) (own_W hw 3 rfl) (by decide) (by decide)) (g := (mkF m 6 #[.val (.int i0), .val (.int i1), .val (.int i2), .val (.int i3), .val (.int i4), s5, s6, s7, s8, s9, s10, s11, s12, s13, s14, s15, s16, s17, s18, s19, s20, s21, s22, s23, s24, s25, s26, s27, s28, s29, s30, s31, s32, s33, s34, s35, s36, s37, s38, s39] [(.int i0), (.int 0), (.ref b7), (.ref b7)])) rfl (by rw [hml]; rfl) (argsL := [(.int i0)]) (rest := [(.int 0), (.ref b7), (.ref b7)]) (lenOf pd_0_0 rfl) rfl (by show 2 * 0 + _ ≤ _; exact Nat.le_of_eq rfl) (hb hby at_6) (fun _ _ => ⟨rfl, e7, (by show 0 + 1 + 0 ≤ 24; decide), (by show 0 + 5 + 0 ≤ 1152; decide)⟩)
  dsimp only [Pt.U, Pt.locs, Pt.cells, Pt.slots] at X8 l8 y8 z8 st8 hQ8
  subst l8 y8 z8
  obtain ⟨rfl, N8q, e8⟩ := hQ8
  have N8 := Fr.app N0 N8q
  obtain ⟨cl_b7_9, Ar_b7, q_b7, S_b7, N_b7, H_b7, G_b7⟩ := V_b7
  have hin9 : ¬ ((0 : Int32) < 0 ∨ cl_b7_9.slots.size ≤ ((0 : Int32)).toNatClampNeg) := inb_of S_b7 ⟨by decide, by decide⟩
  obtain ⟨T9, h9, X9, e9, W9, st9⟩ := stC X8 hx hZ e8 Ar_b7 (j := (0 : Int32)) hin9 (g := (mkF m 9 #[.val (.int i0), .val (.int i1), .val (.int i2), .val (.int i3), .val (.int i4), s5, s6, s7, s8, s9, s10, s11, s12, s13, s14, s15, s16, s17, s18, s19, s20, s21, s22, s23, s24, s25, s26, s27, s28, s29, s30, s31, s32, s33, s34, s35, s36, s37, s38, s39] [(.int (own_c i0)), (.int 0), (.ref b7), (.ref b7)])) rfl rfl (hb hby at_9)
  have V_b7_9 := Arv.set Ar_b7 q_b7 S_b7 N_b7 H_b7 G_b7 (fits_nar_char _) W9 0 rfl (Nat.le_of_ble_eq_true rfl)
  have K9 : Keep h0 h9 [] := K7.wr W9 (Or.inr sz_b7)
  have N9 := Fr.snoc X9 N8 g_b7
  obtain ⟨_, _, ⟨T10, L10, k10, n10⟩, -, X10, ⟨Lc10, hQ10, l10, y10, z10⟩, st10⟩ := Jvm.LawKit.callS X9 hx (y := (⟨"com/example/bandmark/bandmark/PlainDecimalReadPinLaw", "ch", "(I)C"⟩ : MethodName)) hown (mvT hZ (own_W hw 1 rfl)) (mvT hZ (own_W hw 2 rfl)) (mvT hZ (own_W hw 3 rfl)) (mvT hZ (own_W hw 4 rfl)) (by decide) (backOf (W := 3) (r1 l Z a0 hw [] i1 h9 n0 (Nat.le_trans Z0 K9.1)) hZ (own_W hw 4 rfl) (own_W hw 3 rfl) (by decide) (by decide)) (g := (mkF m 13 #[.val (.int i0), .val (.int i1), .val (.int i2), .val (.int i3), .val (.int i4), s5, s6, s7, s8, s9, s10, s11, s12, s13, s14, s15, s16, s17, s18, s19, s20, s21, s22, s23, s24, s25, s26, s27, s28, s29, s30, s31, s32, s33, s34, s35, s36, s37, s38, s39] [(.int i1), (.int 1), (.ref b7), (.ref b7)])) rfl (by rw [hml]; rfl) (argsL := [(.int i1)]) (rest := [(.int 1), (.ref b7), (.ref b7)]) (lenOf pd_0_0 rfl) rfl (by show 2 * 0 + _ ≤ _; exact Nat.le_of_eq rfl) (hb hby at_13) (fun _ _ => ⟨rfl, e9, (by show 0 + 1 + 0 ≤ 24; decide), (by show 0 + 5 + 0 ≤ 1152; decide)⟩)
  dsimp only [Pt.U, Pt.locs, Pt.cells, Pt.slots] at X10 l10 y10 z10 st10 hQ10
  subst l10 y10 z10
  obtain ⟨rfl, N10q, e10⟩ := hQ10
  have N10 := Fr.app N9 N10q
  obtain ⟨cl_b7_16, Ar_b7, q_b7, S_b7, N_b7, H_b7, G_b7⟩ := V_b7_9
  have hin16 : ¬ ((1 : Int32) < 0 ∨ cl_b7_16.slots.size ≤ ((1 : Int32)).toNatClampNeg) := inb_of S_b7 ⟨by decide, by decide⟩
  obtain ⟨T11, h11, X11, e11, W11, st11⟩ := stC X10 hx hZ e10 Ar_b7 (j := (1 : Int32)) hin16 (g := (mkF m 16 #[.val (.int i0), .val (.int i1), .val (.int i2), .val (.int i3), .val (.int i4), s5, s6, s7, s8, s9, s10, s11, s12, s13, s14, s15, s16, s17, s18, s19, s20, s21, s22, s23, s24, s25, s26, s27, s28, s29, s30, s31, s32, s33, s34, s35, s36, s37, s38, s39] [(.int (own_c i1)), (.int 1), (.ref b7), (.ref b7)])) rfl rfl (hb hby at_16)
  have V_b7_11 := Arv.set Ar_b7 q_b7 S_b7 N_b7 H_b7 G_b7 (fits_nar_char _) W11 1 rfl (Nat.le_of_ble_eq_true rfl)
  have K11 : Keep h0 h11 [] := K9.wr W11 (Or.inr sz_b7)
  have N11 := Fr.snoc X11 N10 g_b7
  obtain ⟨_, _, ⟨T12, L12, k12, n12⟩, -, X12, ⟨Lc12, hQ12, l12, y12, z12⟩, st12⟩ := Jvm.LawKit.callS X11 hx (y := (⟨"com/example/bandmark/bandmark/PlainDecimalReadPinLaw", "ch", "(I)C"⟩ : MethodName)) hown (mvT hZ (own_W hw 1 rfl)) (mvT hZ (own_W hw 2 rfl)) (mvT hZ (own_W hw 3 rfl)) (mvT hZ (own_W hw 4 rfl)) (by decide) (backOf (W := 3) (r1 l Z a0 hw [] i2 h11 n0 (Nat.le_trans Z0 K11.1)) hZ (own_W hw 4 rfl) (own_W hw 3 rfl) (by decide) (by decide)) (g := (mkF m 20 #[.val (.int i0), .val (.int i1), .val (.int i2), .val (.int i3), .val (.int i4), s5, s6, s7, s8, s9, s10, s11, s12, s13, s14, s15, s16, s17, s18, s19, s20, s21, s22, s23, s24, s25, s26, s27, s28, s29, s30, s31, s32, s33, s34, s35, s36, s37, s38, s39] [(.int i2), (.int 2), (.ref b7), (.ref b7)])) rfl (by rw [hml]; rfl) (argsL := [(.int i2)]) (rest := [(.int 2), (.ref b7), (.ref b7)]) (lenOf pd_0_0 rfl) rfl (by show 2 * 0 + _ ≤ _; exact Nat.le_of_eq rfl) (hb hby at_20) (fun _ _ => ⟨rfl, e11, (by show 0 + 1 + 0 ≤ 24; decide), (by show 0 + 5 + 0 ≤ 1152; decide)⟩)
  dsimp only [Pt.U, Pt.locs, Pt.cells, Pt.slots] at X12 l12 y12 z12 st12 hQ12
  subst l12 y12 z12
  obtain ⟨rfl, N12q, e12⟩ := hQ12
  have N12 := Fr.app N11 N12q
  obtain ⟨cl_b7_23, Ar_b7, q_b7, S_b7, N_b7, H_b7, G_b7⟩ := V_b7_11
  have hin23 : ¬ ((2 : Int32) < 0 ∨ cl_b7_23.slots.size ≤ ((2 : Int32)).toNatClampNeg) := inb_of S_b7 ⟨by decide, by decide⟩
  obtain ⟨T13, h13, X13, e13, W13, st13⟩ := stC X12 hx hZ e12 Ar_b7 (j := (2 : Int32)) hin23 (g := (mkF m 23 #[.val (.int i0), .val (.int i1), .val (.int i2), .val (.int i3), .val (.int i4), s5, s6, s7, s8, s9, s10, s11, s12, s13, s14, s15, s16, s17, s18, s19, s20, s21, s22, s23, s24, s25, s26, s27, s28, s29, s30, s31, s32, s33, s34, s35, s36, s37, s38, s39] [(.int (own_c i2)), (.int 2), (.ref b7), (.ref b7)])) rfl rfl (hb hby at_23)
  have V_b7_13 := Arv.set Ar_b7 q_b7 S_b7 N_b7 H_b7 G_b7 (fits_nar_char _) W13 2 rfl (Nat.le_of_ble_eq_true rfl)
  have K13 : Keep h0 h13 [] := K11.wr W13 (Or.inr sz_b7)
  have N13 := Fr.snoc X13 N12 g_b7
  obtain ⟨_, _, ⟨T14, L14, k14, n14⟩, -, X14, ⟨Lc14, hQ14, l14, y14, z14⟩, st14⟩ := Jvm.LawKit.callS X13 hx (y := (⟨"com/example/bandmark/bandmark/PlainDecimalReadPinLaw", "ch", "(I)C"⟩ : MethodName)) hown (mvT hZ (own_W hw 1 rfl)) (mvT hZ (own_W hw 2 rfl)) (mvT hZ (own_W hw 3 rfl)) (mvT hZ (own_W hw 4 rfl)) (by decide) (backOf (W := 3) (r1 l Z a0 hw [] i3 h13 n0 (Nat.le_trans Z0 K13.1)) hZ (own_W hw 4 rfl) (own_W hw 3 rfl) (by decide) (by decide)) (g := (mkF m 27 #[.val (.int i0), .val (.int i1), .val (.int i2), .val (.int i3), .val (.int i4), s5, s6, s7, s8, s9, s10, s11, s12, s13, s14, s15, s16, s17, s18, s19, s20, s21, s22, s23, s24, s25, s26, s27, s28, s29, s30, s31, s32, s33, s34, s35, s36, s37, s38, s39] [(.int i3), (.int 3), (.ref b7), (.ref b7)])) rfl (by rw [hml]; rfl) (argsL := [(.int i3)]) (rest := [(.int 3), (.ref b7), (.ref b7)]) (lenOf pd_0_0 rfl) rfl (by show 2 * 0 + _ ≤ _; exact Nat.le_of_eq rfl) (hb hby at_27) (fun _ _ => ⟨rfl, e13, (by show 0 + 1 + 0 ≤ 24; decide), (by show 0 + 5 + 0 ≤ 1152; decide)⟩)
  dsimp only [Pt.U, Pt.locs, Pt.cells, Pt.slots] at X14 l14 y14 z14 st14 hQ14
  subst l14 y14 z14
  obtain ⟨rfl, N14q, e14⟩ := hQ14
  have N14 := Fr.app N13 N14q
  obtain ⟨cl_b7_30, Ar_b7, q_b7, S_b7, N_b7, H_b7, G_b7⟩ := V_b7_13
  have hin30 : ¬ ((3 : Int32) < 0 ∨ cl_b7_30.slots.size ≤ ((3 : Int32)).toNatClampNeg) := inb_of S_b7 ⟨by decide, by decide⟩
  obtain ⟨T15, h15, X15, e15, W15, st15⟩ := stC X14 hx hZ e14 Ar_b7 (j := (3 : Int32)) hin30 (g := (mkF m 30 #[.val (.int i0), .val (.int i1), .val (.int i2), .val (.int i3), .val (.int i4), s5, s6, s7, s8, s9, s10, s11, s12, s13, s14, s15, s16, s17, s18, s19, s20, s21, s22, s23, s24, s25, s26, s27, s28, s29, s30, s31, s32, s33, s34, s35, s36, s37, s38, s39] [(.int (own_c i3)), (.int 3), (.ref b7), (.ref b7)])) rfl rfl (hb hby at_30)
  have V_b7_15 := Arv.set Ar_b7 q_b7 S_b7 N_b7 H_b7 G_b7 (fits_nar_char _) W15 3 rfl (Nat.le_of_ble_eq_true rfl)
  have K15 : Keep h0 h15 [] := K13.wr W15 (Or.inr sz_b7)
  have N15 := Fr.snoc X15 N14 g_b7
  obtain ⟨_, _, ⟨T16, L16, k16, n16⟩, -, X16, ⟨Lc16, hQ16, l16, y16, z16⟩, st16⟩ := Jvm.LawKit.callS X15 hx (y := (⟨"com/example/bandmark/bandmark/PlainDecimalReadPinLaw", "ch", "(I)C"⟩ : MethodName)) hown (mvT hZ (own_W hw 1 rfl)) (mvT hZ (own_W hw 2 rfl)) (mvT hZ (own_W hw 3 rfl)) (mvT hZ (own_W hw 4 rfl)) (by decide) (backOf (W := 3) (r1 l Z a0 hw [] i4 h15 n0 (Nat.le_trans Z0 K15.1)) hZ (own_W hw 4 rfl) (own_W hw 3 rfl) (by decide) (by decide)) (g := (mkF m 35 #[.val (.int i0), .val (.int i1), .val (.int i2), .val (.int i3), .val (.int i4), s5, s6, s7, s8, s9, s10, s11, s12, s13, s14, s15, s16, s17, s18, s19, s20, s21, s22, s23, s24, s25, s26, s27, s28, s29, s30, s31, s32, s33, s34, s35, s36, s37, s38, s39] [(.int i4), (.int 4), (.ref b7), (.ref b7)])) rfl (by rw [hml]; rfl) (argsL := [(.int i4)]) (rest := [(.int 4), (.ref b7), (.ref b7)]) (lenOf pd_0_0 rfl) rfl (by show 2 * 0 + _ ≤ _; exact Nat.le_of_eq rfl) (hb hby at_35) (fun _ _ => ⟨rfl, e15, (by show 0 + 1 + 0 ≤ 24; decide), (by show 0 + 5 + 0 ≤ 1152; decide)⟩)
  dsimp only [Pt.U, Pt.locs, Pt.cells, Pt.slots] at X16 l16 y16 z16 st16 hQ16
  subst l16 y16 z16
  obtain ⟨rfl, N16q, e16⟩ := hQ16
  have N16 := Fr.app N15 N16q
  obtain ⟨cl_b7_38, Ar_b7, q_b7, S_b7, N_b7, H_b7, G_b7⟩ := V_b7_15
  have hin38 : ¬ ((4 : Int32) < 0 ∨ cl_b7_38.slots.size ≤ ((4 : Int32)).toNatClampNeg) := inb_of S_b7 ⟨by decide, by decide⟩
  obtain ⟨T17, h17, X17, e17, W17, st17⟩ := stC X16 hx hZ e16 Ar_b7 (j := (4 : Int32)) hin38 (g := (mkF m 38 #[.val (.int i0), .val (.int i1), .val (.int i2), .val (.int i3), .val (.int i4), s5, s6, s7, s8, s9, s10, s11, s12, s13, s14, s15, s16, s17, s18, s19, s20, s21, s22, s23, s24, s25, s26, s27, s28, s29, s30, s31, s32, s33, s34, s35, s36, s37, s38, s39] [(.int (own_c i4)), (.int 4), (.ref b7), (.ref b7)])) rfl rfl (hb hby at_38)
  have V_b7_17 := Arv.set Ar_b7 q_b7 S_b7 N_b7 H_b7 G_b7 (fits_nar_char _) W17 4 rfl (Nat.le_of_ble_eq_true rfl)
  have K17 : Keep h0 h17 [] := K15.wr W17 (Or.inr sz_b7)
  have N17 := Fr.snoc X17 N16 g_b7
  refine ⟨T17, _, b7, k7, X17, N17, by rw [e17]; exact K17, g_b7, by rw [e17]; exact V_b7_17, fun target kt => ?_⟩
  refine XS.iconst X0.here hx rfl (hb hby at_0) ?_
  refine st7 _ ?_
  refine XS.dup X7.here hx rfl (hb hby at_3) rfl rfl ?_
  refine XS.iconst X7.here hx rfl (hb hby at_4) ?_
  refine XS.iloadN X7.here hx rfl (hb hby at_5) rfl ?_
  refine st8 _ ?_
  refine st9 _ ?_
  refine XS.dup X9.here hx rfl (hb hby at_10) rfl rfl ?_
  refine XS.iconst X9.here hx rfl (hb hby at_11) ?_
  refine XS.iloadN X9.here hx rfl (hb hby at_12) rfl ?_
  refine st10 _ ?_
  refine st11 _ ?_
  refine XS.dup X11.here hx rfl (hb hby at_17) rfl rfl ?_
  refine XS.iconst X11.here hx rfl (hb hby at_18) ?_
  refine XS.iloadN X11.here hx rfl (hb hby at_19) rfl ?_
  refine st12 _ ?_
  refine st13 _ ?_
  refine XS.dup X13.here hx rfl (hb hby at_24) rfl rfl ?_
  refine XS.iconst X13.here hx rfl (hb hby at_25) ?_
  refine XS.iloadN X13.here hx rfl (hb hby at_26) rfl ?_
  refine st14 _ ?_
  refine st15 _ ?_
  refine XS.dup X15.here hx rfl (hb hby at_31) rfl rfl ?_
  refine XS.iconst X15.here hx rfl (hb hby at_32) ?_
  refine XS.iload X15.here hx rfl (hb hby at_33) rfl ?_
  refine st16 _ ?_
  refine st17 _ ?_
  refine XS.astore X17.here hx rfl (hb hby at_39) rfl rfl (l' := #[.val (.int i0), .val (.int i1), .val (.int i2), .val (.int i3), .val (.int i4), s5, .val (.ref b7), s7, s8, s9, s10, s11, s12, s13, s14, s15, s16, s17, s18, s19, s20, s21, s22, s23, s24, s25, s26, s27, s28, s29, s30, s31, s32, s33, s34, s35, s36, s37, s38, s39]) (os0_39_0 hs6) ?_
  exact kt
theorem pd_0_1 : parseMethodDescriptor "([C)V" = some ⟨[(.array .char)], none⟩ := by decide +kernel
theorem os0_50_41 {s0 : Slot} {s1 : Slot} {s2 : Slot} {s3 : Slot} {s4 : Slot} {s5 : Slot} {z6 : Value} {s7 : Slot} {s8 : Slot} {s9 : Slot} {s10 : Slot} {s11 : Slot} {s12 : Slot} {s13 : Slot} {s14 : Slot} {s15 : Slot} {s16 : Slot} {s17 : Slot} {s18 : Slot} {s19 : Slot} {s20 : Slot} {s21 : Slot} {s22 : Slot} {s23 : Slot} {s24 : Slot} {s25 : Slot} {s26 : Slot} {s27 : Slot} {s28 : Slot} {s29 : Slot} {s30 : Slot} {s31 : Slot} {s32 : Slot} {s33 : Slot} {s34 : Slot} {s35 : Slot} {s36 : Slot} {s37 : Slot} {s38 : Slot} {s39 : Slot} {v : Addr} (h : One s7) : storeLocals #[s0, s1, s2, s3, s4, s5, .val z6, s7, s8, s9, s10, s11, s12, s13, s14, s15, s16, s17, s18, s19, s20, s21, s22, s23, s24, s25, s26, s27, s28, s29, s30, s31, s32, s33, s34, s35, s36, s37, s38, s39] 7 (.ref v) = some #[s0, s1, s2, s3, s4, s5, .val z6, .val (.ref v), s8, s9, s10, s11, s12, s13, s14, s15, s16, s17, s18, s19, s20, s21, s22, s23, s24, s25, s26, s27, s28, s29, s30, s31, s32, s33, s34, s35, s36, s37, s38, s39] := by
  rcases h with rfl | ⟨w, rfl, hw⟩
  · rfl
  · cases w <;> first | rfl | (simp [Value.category] at hw)
set_option maxRecDepth 65536 in
set_option maxHeartbeats 40000000 in
theorem own_Bl {p : Program} {l : Launch} {e : Env} {s : State} {m : MethodId} {args : Array Value} {below : List Frame} {meth : Method} {c : Code} {T0 : State} {locs : List Loc} {Z : State} {a0 : Array Value} {h0 : Heap} (s0 : Slot) (s1 : Slot) (s2 : Slot) (s3 : Slot) (s4 : Slot) (s5 : Slot) (o6 : Addr) (s7 : Slot) (s8 : Slot) (s9 : Slot) (s10 : Slot) (s11 : Slot) (s12 : Slot) (s13 : Slot) (s14 : Slot) (s15 : Slot) (s16 : Slot) (s17 : Slot) (s18 : Slot) (s19 : Slot) (s20 : Slot) (s21 : Slot) (s22 : Slot) (s23 : Slot) (s24 : Slot) (s25 : Slot) (s26 : Slot) (s27 : Slot) (s28 : Slot) (s29 : Slot) (s30 : Slot) (s31 : Slot) (s32 : Slot) (s33 : Slot) (s34 : Slot) (s35 : Slot) (s36 : Slot) (s37 : Slot) (s38 : Slot) (s39 : Slot) (n0 : Nat) (c0 c1 c2 c3 c4 : Int32) (kc : ClassId)
    (X0 : Stand p l e room_1 s m args below meth c T0 locs 1 5) (hx : p.tables.exec = Jvm.exec) (hZ : Z.Warmed39 s.vm) (hw : ∀ d ∈ tables_1, d.before a0 Z = true) (hby : c.code = code) (hml : c.maxLocals = 40) (hown : s.vm.findClass "com/example/bandmark/bandmark/PlainDecimalReadPinLaw" = some m.cls) (e0 : T0.heap = h0) (Z0 : n0 ≤ h0.size) (N0 : Fr n0 locs) (hbb : ∀ c ∈ [c0, c1, c2, c3, c4], ¬ c < 0 ∧ ¬ (65535 : Int32) < c) (C : Arv Z h0 o6 kc .char (5 : Int32) ([c0, c1, c2, c3, c4].map Value.int) (.int 0)) (O : Old Z n0 h0) (SWz : own_SW Z Z.heap) (h25 : ∀ c ∈ [c0, c1, c2, c3, c4], ¬ (255 : Int32) < c) (hs7 : One s7) :
    ∃ (T' : State) (locs' : List Loc) (b7 : Addr) (kk nn : Nat), Stand p l e room_1 s m args below meth c T' locs' kk nn ∧ kk ≤ 5 ∧ nn ≤ 40 ∧ Fr n0 locs' ∧ Keep h0 T'.heap [] ∧ own_St Z T'.heap b7 [c0, c1, c2, c3, c4] ∧
      ∀ target, Steps p.tables e below (T'.setTop (mkF m 52 #[s0, s1, s2, s3, s4, s5, .val (.ref o6), .val (.ref b7), s8, s9, s10, s11, s12, s13, s14, s15, s16, s17, s18, s19, s20, s21, s22, s23, s24, s25, s26, s27, s28, s29, s30, s31, s32, s33, s34, s35, s36, s37, s38, s39] [])) target → Steps p.tables e below (T0.setTop (mkF m 41 #[s0, s1, s2, s3, s4, s5, .val (.ref o6), s7, s8, s9, s10, s11, s12, s13, s14, s15, s16, s17, s18, s19, s20, s21, s22, s23, s24, s25, s26, s27, s28, s29, s30, s31, s32, s33, s34, s35, s36, s37, s38, s39] [])) target := by
  obtain ⟨zc, fm, S1, hz, S2, rf, S3, S4, S5⟩ := SWz
  obtain ⟨T7, h7, X7, e7, E7, A7, D7, -, st7⟩ := newO X0 hx hZ hown (own_W hw 5 rfl) (own_W hw 6 rfl) (own_W hw 7 rfl) e0 (g := (mkF m 41 #[s0, s1, s2, s3, s4, s5, .val (.ref o6), s7, s8, s9, s10, s11, s12, s13, s14, s15, s16, s17, s18, s19, s20, s21, s22, s23, s24, s25, s26, s27, s28, s29, s30, s31, s32, s33, s34, s35, s36, s37, s38, s39] [])) rfl (hb hby at_41) (by decide) (by decide)
  obtain ⟨b7, g7⟩ : ∃ z, z = h0.size := ⟨_, rfl⟩
  rw [← g7] at A7 D7 st7
  have F_coder_b7 : Fld Z h7 b7 "java/lang/String" "coder" "B" (.int 0) := D7 (Or.inr (own_W hw 31 rfl)) (ty := .byte) (by decide)
  have F_value_b7 : Fld Z h7 b7 "java/lang/String" "value" "[B" .null := D7 (Or.inr (own_W hw 33 rfl)) (ty := (.array .byte)) (by decide)
  have E_b7 := A7
  have g_b7 : n0 ≤ b7 := Nat.le_trans Z0 (Nat.le_of_eq g7.symm)
  have sz_b7 : h0.size ≤ b7 := (Nat.le_trans (Keep.refl h0 []).1 (Nat.le_of_eq g7.symm))
  have K7 : Keep h0 h7 [] := (Keep.refl h0 []).ext E7
  obtain ⟨_, _, ⟨T8, L8, k8, n8⟩, -, X8, ⟨Lc8, hQ8, l8, y8, z8⟩, st8⟩ := X7.specialBack hx (y := (⟨"java/lang/String", "<init>", "([C)V"⟩ : MethodName)) rfl hown (mvT hZ (own_W hw 8 rfl)) (mvT hZ (own_W hw 9 rfl)) (mvT hZ (own_W hw 10 rfl)) (by decide) (StrChars.Road.backV (W := 1) (n0 := n0) hZ (fun d hd => hw d ((by decide +kernel : ∀ d ∈ StrChars.Road.words, d ∈ tables_1) d hd)) (kI := 4) (own_W hw 6 rfl) (cs := [c0, c1, c2, c3, c4]) (n := 5) g_b7 (Nat.le_trans Z0 E7.1) E_b7 F_value_b7 F_coder_b7 (C.ext E7) (S1.ext (O.ext E7).2) hz rfl rfl (by decide) (by decide) (fun c hc => ⟨(hbb c hc).1, h25 c hc⟩) rfl (by decide) (by decide)) (g := (mkF m 47 #[s0, s1, s2, s3, s4, s5, .val (.ref o6), s7, s8, s9, s10, s11, s12, s13, s14, s15, s16, s17, s18, s19, s20, s21, s22, s23, s24, s25, s26, s27, s28, s29, s30, s31, s32, s33, s34, s35, s36, s37, s38, s39] [(.ref o6), (.ref b7), (.ref b7)])) rfl (by rw [hml]; rfl) (Steps.refl _) (a := b7) (argsL := [(.ref o6)]) (rest := [(.ref b7)]) (lenOf pd_0_1 rfl) rfl (by show 2 * 0 + _ ≤ _; exact Nat.le_of_eq rfl) (hb hby at_47) (fun _ _ => ⟨rfl, e7, (by show 1 + 1 + 1 ≤ 24; decide), (by show 5 + 4 + 5 ≤ 1152; decide)⟩)
  dsimp only [Pt.U, Pt.locs, Pt.cells, Pt.slots] at X8 l8 y8 z8 st8 hQ8
  subst l8 y8 z8
  obtain ⟨rfl, N8q, K8, E8, Fc8, tt, kb, ht0, ht, hne, Fv8, V8⟩ := hQ8
  have N8 := Fr.app N0 N8q
  refine ⟨T8, _, b7, _, _, X8, by decide, by decide, N8, K7.trans K8 (allS (Or.inr sz_b7) all0), ⟨tt, kb, E8, Fv8, (by show 5 ≤ 22; decide), hbb, Or.inl ⟨Fc8, V8, h25⟩⟩, fun target kt => ?_⟩
  refine st7 _ ?_
  refine XS.dup X7.here hx rfl (hb hby at_44) rfl rfl ?_
  refine XS.aload X7.here hx rfl (hb hby at_45) rfl rfl ?_
  refine st8.trans ?_
  refine XS.astore X8.here hx rfl (hb hby at_50) rfl rfl (l' := #[s0, s1, s2, s3, s4, s5, .val (.ref o6), .val (.ref b7), s8, s9, s10, s11, s12, s13, s14, s15, s16, s17, s18, s19, s20, s21, s22, s23, s24, s25, s26, s27, s28, s29, s30, s31, s32, s33, s34, s35, s36, s37, s38, s39]) (os0_50_41 hs7) ?_
  exact kt
set_option maxRecDepth 65536 in
set_option maxHeartbeats 40000000 in
theorem own_Bw {p : Program} {l : Launch} {e : Env} {s : State} {m : MethodId} {args : Array Value} {below : List Frame} {meth : Method} {c : Code} {T0 : State} {locs : List Loc} {Z : State} {a0 : Array Value} {h0 : Heap} (s0 : Slot) (s1 : Slot) (s2 : Slot) (s3 : Slot) (s4 : Slot) (s5 : Slot) (o6 : Addr) (s7 : Slot) (s8 : Slot) (s9 : Slot) (s10 : Slot) (s11 : Slot) (s12 : Slot) (s13 : Slot) (s14 : Slot) (s15 : Slot) (s16 : Slot) (s17 : Slot) (s18 : Slot) (s19 : Slot) (s20 : Slot) (s21 : Slot) (s22 : Slot) (s23 : Slot) (s24 : Slot) (s25 : Slot) (s26 : Slot) (s27 : Slot) (s28 : Slot) (s29 : Slot) (s30 : Slot) (s31 : Slot) (s32 : Slot) (s33 : Slot) (s34 : Slot) (s35 : Slot) (s36 : Slot) (s37 : Slot) (s38 : Slot) (s39 : Slot) (n0 : Nat) (c0 c1 c2 c3 c4 : Int32) (kc : ClassId)
    (X0 : Stand p l e room_1 s m args below meth c T0 locs 1 5) (hx : p.tables.exec = Jvm.exec) (hZ : Z.Warmed39 s.vm) (hw : ∀ d ∈ tables_1, d.before a0 Z = true) (hby : c.code = code) (hml : c.maxLocals = 40) (hown : s.vm.findClass "com/example/bandmark/bandmark/PlainDecimalReadPinLaw" = some m.cls) (e0 : T0.heap = h0) (Z0 : n0 ≤ h0.size) (N0 : Fr n0 locs) (hbb : ∀ c ∈ [c0, c1, c2, c3, c4], ¬ c < 0 ∧ ¬ (65535 : Int32) < c) (C : Arv Z h0 o6 kc .char (5 : Int32) ([c0, c1, c2, c3, c4].map Value.int) (.int 0)) (O : Old Z n0 h0) (SWz : own_SW Z Z.heap) (k : Nat) (hk : k < 5) (hlo : ∀ j, j < k → ¬ (255 : Int32) < [c0, c1, c2, c3, c4].getD j 0) (hhi : (255 : Int32) < [c0, c1, c2, c3, c4].getD k 0) (hs7 : One s7) :
    ∃ (T' : State) (locs' : List Loc) (b7 : Addr) (kk nn : Nat), Stand p l e room_1 s m args below meth c T' locs' kk nn ∧ kk ≤ 5 ∧ nn ≤ 40 ∧ Fr n0 locs' ∧ Keep h0 T'.heap [] ∧ own_St Z T'.heap b7 [c0, c1, c2, c3, c4] ∧
      ∀ target, Steps p.tables e below (T'.setTop (mkF m 52 #[s0, s1, s2, s3, s4, s5, .val (.ref o6), .val (.ref b7), s8, s9, s10, s11, s12, s13, s14, s15, s16, s17, s18, s19, s20, s21, s22, s23, s24, s25, s26, s27, s28, s29, s30, s31, s32, s33, s34, s35, s36, s37, s38, s39] [])) target → Steps p.tables e below (T0.setTop (mkF m 41 #[s0, s1, s2, s3, s4, s5, .val (.ref o6), s7, s8, s9, s10, s11, s12, s13, s14, s15, s16, s17, s18, s19, s20, s21, s22, s23, s24, s25, s26, s27, s28, s29, s30, s31, s32, s33, s34, s35, s36, s37, s38, s39] [])) target := by
  obtain ⟨zc, fm, S1, hz, S2, rf, S3, S4, S5⟩ := SWz
  obtain ⟨T7, h7, X7, e7, E7, A7, D7, -, st7⟩ := newO X0 hx hZ hown (own_W hw 5 rfl) (own_W hw 6 rfl) (own_W hw 7 rfl) e0 (g := (mkF m 41 #[s0, s1, s2, s3, s4, s5, .val (.ref o6), s7, s8, s9, s10, s11, s12, s13, s14, s15, s16, s17, s18, s19, s20, s21, s22, s23, s24, s25, s26, s27, s28, s29, s30, s31, s32, s33, s34, s35, s36, s37, s38, s39] [])) rfl (hb hby at_41) (by decide) (by decide)
  obtain ⟨b7, g7⟩ : ∃ z, z = h0.size := ⟨_, rfl⟩
  rw [← g7] at A7 D7 st7
  have F_coder_b7 : Fld Z h7 b7 "java/lang/String" "coder" "B" (.int 0) := D7 (Or.inr (own_W hw 31 rfl)) (ty := .byte) (by decide)
  have F_value_b7 : Fld Z h7 b7 "java/lang/String" "value" "[B" .null := D7 (Or.inr (own_W hw 33 rfl)) (ty := (.array .byte)) (by decide)
  have E_b7 := A7
  have g_b7 : n0 ≤ b7 := Nat.le_trans Z0 (Nat.le_of_eq g7.symm)
  have sz_b7 : h0.size ≤ b7 := (Nat.le_trans (Keep.refl h0 []).1 (Nat.le_of_eq g7.symm))
  have K7 : Keep h0 h7 [] := (Keep.refl h0 []).ext E7
  obtain ⟨_, _, ⟨T8, L8, k8, n8⟩, -, X8, ⟨Lc8, hQ8, l8, y8, z8⟩, st8⟩ := X7.specialBack hx (y := (⟨"java/lang/String", "<init>", "([C)V"⟩ : MethodName)) rfl hown (mvT hZ (own_W hw 8 rfl)) (mvT hZ (own_W hw 9 rfl)) (mvT hZ (own_W hw 10 rfl)) (by decide) (backOf (W := 1) (r2 l Z a0 hw [] b7 o6 c0 c1 c2 c3 c4 k kc zc _ _ h7 n0 (Nat.le_trans Z0 E7.1) (S1.ext (O.ext E7).2) E_b7 F_coder_b7 g_b7 F_value_b7 hz hk hlo hhi hbb (C.ext E7) (O.ext E7) S3 S4 S5) hZ (own_W hw 10 rfl) (own_W hw 7 rfl) (by decide) (by decide)) (g := (mkF m 47 #[s0, s1, s2, s3, s4, s5, .val (.ref o6), s7, s8, s9, s10, s11, s12, s13, s14, s15, s16, s17, s18, s19, s20, s21, s22, s23, s24, s25, s26, s27, s28, s29, s30, s31, s32, s33, s34, s35, s36, s37, s38, s39] [(.ref o6), (.ref b7), (.ref b7)])) rfl (by rw [hml]; rfl) (Steps.refl _) (a := b7) (argsL := [(.ref o6)]) (rest := [(.ref b7)]) (lenOf pd_0_1 rfl) rfl (by show 2 * 0 + _ ≤ _; exact Nat.le_of_eq rfl) (hb hby at_47) (fun _ _ => ⟨rfl, e7, (by show 1 + 1 + 2 ≤ 24; decide), (by show 5 + 4 + 15 ≤ 1152; decide)⟩)
  dsimp only [Pt.U, Pt.locs, Pt.cells, Pt.slots] at X8 l8 y8 z8 st8 hQ8
  subst l8 y8 z8
  obtain ⟨rfl, N8q, K8, tt, kb, E8, Fv8, Fc8, V8, ht⟩ := hQ8
  have N8 := Fr.app N0 N8q
  refine ⟨T8, _, b7, _, _, X8, by decide, by decide, N8, K7.trans K8 (allS (Or.inr sz_b7) all0), ⟨tt, kb, E8, Fv8, (by show 5 ≤ 22; decide), hbb, Or.inr ⟨Fc8, V8⟩⟩, fun target kt => ?_⟩
  refine st7 _ ?_
  refine XS.dup X7.here hx rfl (hb hby at_44) rfl rfl ?_
  refine XS.aload X7.here hx rfl (hb hby at_45) rfl rfl ?_
  refine st8.trans ?_
  refine XS.astore X8.here hx rfl (hb hby at_50) rfl rfl (l' := #[s0, s1, s2, s3, s4, s5, .val (.ref o6), .val (.ref b7), s8, s9, s10, s11, s12, s13, s14, s15, s16, s17, s18, s19, s20, s21, s22, s23, s24, s25, s26, s27, s28, s29, s30, s31, s32, s33, s34, s35, s36, s37, s38, s39]) (os0_50_41 hs7) ?_
  exact kt
theorem os0_60_own_C1 {s0 : Slot} {s1 : Slot} {s2 : Slot} {s3 : Slot} {s4 : Slot} {z5 : Value} {s6 : Slot} {s7 : Slot} {s8 : Slot} {s9 : Slot} {s10 : Slot} {s11 : Slot} {s12 : Slot} {s13 : Slot} {s14 : Slot} {s15 : Slot} {s16 : Slot} {s17 : Slot} {s18 : Slot} {s19 : Slot} {s20 : Slot} {s21 : Slot} {s22 : Slot} {s23 : Slot} {s24 : Slot} {s25 : Slot} {s26 : Slot} {s27 : Slot} {s28 : Slot} {s29 : Slot} {s30 : Slot} {s31 : Slot} {s32 : Slot} {s33 : Slot} {s34 : Slot} {s35 : Slot} {s36 : Slot} {s37 : Slot} {s38 : Slot} {s39 : Slot} {v : Int32} (h : One s8) : storeLocals #[s0, s1, s2, s3, s4, .val z5, s6, s7, s8, s9, s10, s11, s12, s13, s14, s15, s16, s17, s18, s19, s20, s21, s22, s23, s24, s25, s26, s27, s28, s29, s30, s31, s32, s33, s34, s35, s36, s37, s38, s39] 8 (.int v) = some #[s0, s1, s2, s3, s4, .val z5, s6, s7, .val (.int v), s9, s10, s11, s12, s13, s14, s15, s16, s17, s18, s19, s20, s21, s22, s23, s24, s25, s26, s27, s28, s29, s30, s31, s32, s33, s34, s35, s36, s37, s38, s39] := by
  rcases h with rfl | ⟨w, rfl, hw⟩
  · rfl
  · cases w <;> first | rfl | (simp [Value.category] at hw)
theorem os0_79_own_C1 {s0 : Slot} {s1 : Slot} {s2 : Slot} {s3 : Slot} {s4 : Slot} {z5 : Value} {s6 : Slot} {s7 : Slot} {z8 : Value} {s9 : Slot} {s10 : Slot} {s11 : Slot} {s12 : Slot} {s13 : Slot} {s14 : Slot} {s15 : Slot} {s16 : Slot} {s17 : Slot} {s18 : Slot} {s19 : Slot} {s20 : Slot} {s21 : Slot} {s22 : Slot} {s23 : Slot} {s24 : Slot} {s25 : Slot} {s26 : Slot} {s27 : Slot} {s28 : Slot} {s29 : Slot} {s30 : Slot} {s31 : Slot} {s32 : Slot} {s33 : Slot} {s34 : Slot} {s35 : Slot} {s36 : Slot} {s37 : Slot} {s38 : Slot} {s39 : Slot} {v : Int32} (h : One s9) : storeLocals #[s0, s1, s2, s3, s4, .val z5, s6, s7, .val z8, s9, s10, s11, s12, s13, s14, s15, s16, s17, s18, s19, s20, s21, s22, s23, s24, s25, s26, s27, s28, s29, s30, s31, s32, s33, s34, s35, s36, s37, s38, s39] 9 (.int v) = some #[s0, s1, s2, s3, s4, .val z5, s6, s7, .val z8, .val (.int v), s10, s11, s12, s13, s14, s15, s16, s17, s18, s19, s20, s21, s22, s23, s24, s25, s26, s27, s28, s29, s30, s31, s32, s33, s34, s35, s36, s37, s38, s39] := by
  rcases h with rfl | ⟨w, rfl, hw⟩
  · rfl
  · cases w <;> first | rfl | (simp [Value.category] at hw)
set_option maxRecDepth 65536 in
set_option maxHeartbeats 40000000 in
theorem own_C1 {p : Program} {l : Launch} {e : Env} {s : State} {m : MethodId} {args : Array Value} {below : List Frame} {meth : Method} {c : Code} {T0 : State} {locs : List Loc} {cells slots : Nat} {Z : State} {a0 : Array Value} {h0 : Heap} (s0 : Slot) (s1 : Slot) (s2 : Slot) (s3 : Slot) (s4 : Slot) (i5 : Int32) (s6 : Slot) (s7 : Slot) (s8 : Slot) (s9 : Slot) (s10 : Slot) (s11 : Slot) (s12 : Slot) (s13 : Slot) (s14 : Slot) (s15 : Slot) (s16 : Slot) (s17 : Slot) (s18 : Slot) (s19 : Slot) (s20 : Slot) (s21 : Slot) (s22 : Slot) (s23 : Slot) (s24 : Slot) (s25 : Slot) (s26 : Slot) (s27 : Slot) (s28 : Slot) (s29 : Slot) (s30 : Slot) (s31 : Slot) (s32 : Slot) (s33 : Slot) (s34 : Slot) (s35 : Slot) (s36 : Slot) (s37 : Slot) (s38 : Slot) (s39 : Slot)
    (X0 : Stand p l e room_1 s m args below meth c T0 locs cells slots) (hx : p.tables.exec = Jvm.exec) (hZ : Z.Warmed39 s.vm) (hw : ∀ d ∈ tables_1, d.before a0 Z = true) (hby : c.code = code) (hml : c.maxLocals = 40) (hown : s.vm.findClass "com/example/bandmark/bandmark/PlainDecimalReadPinLaw" = some m.cls) (e0 : T0.heap = h0) (hs8 : One s8) (hs9 : One s9) (hnz59 : ¬ ((6 : Int32) = (0 : Int32))) (hnz77 : ¬ (((6 : Int32) - (HMod.hMod (i5 &&& (2147483647 : Int32)) (6 : Int32))) = (0 : Int32))) :
    ∃ (T' : State), Stand p l e room_1 s m args below meth c T' locs cells slots ∧ T'.heap = h0 ∧
      ∀ target, Steps p.tables e below (T'.setTop (mkF m 81 #[s0, s1, s2, s3, s4, .val (.int i5), s6, s7, .val (.int (HMod.hMod (i5 &&& (2147483647 : Int32)) (6 : Int32))), .val (.int ((HMod.hMod (i5 &&& (2147483647 : Int32)) (6 : Int32)) + (HMod.hMod (((i5.toUInt32 >>> ((8 : Int32) &&& 31).toUInt32).toInt32) &&& (8388607 : Int32)) ((6 : Int32) - (HMod.hMod (i5 &&& (2147483647 : Int32)) (6 : Int32)))))), s10, s11, s12, s13, s14, s15, s16, s17, s18, s19, s20, s21, s22, s23, s24, s25, s26, s27, s28, s29, s30, s31, s32, s33, s34, s35, s36, s37, s38, s39] [])) target → Steps p.tables e below (T0.setTop (mkF m 52 #[s0, s1, s2, s3, s4, .val (.int i5), s6, s7, s8, s9, s10, s11, s12, s13, s14, s15, s16, s17, s18, s19, s20, s21, s22, s23, s24, s25, s26, s27, s28, s29, s30, s31, s32, s33, s34, s35, s36, s37, s38, s39] [])) target := by
  refine ⟨T0, X0, e0, fun target kt => ?_⟩
  refine XS.iload X0.here hx rfl (hb hby at_52) rfl ?_
  refine X0.ldcInt hx hown (mvT hZ (own_W hw 34 rfl)) (g := (mkF m 54 #[s0, s1, s2, s3, s4, .val (.int i5), s6, s7, s8, s9, s10, s11, s12, s13, s14, s15, s16, s17, s18, s19, s20, s21, s22, s23, s24, s25, s26, s27, s28, s29, s30, s31, s32, s33, s34, s35, s36, s37, s38, s39] [(.int i5)])) rfl (hb hby at_54) _ ?_
  refine XS.iand X0.here hx rfl (hb hby at_56) rfl ?_
  refine XS.bipush X0.here hx rfl (hb hby at_57) ?_
  refine Jvm.RoadKit.iremM X0 hx rfl (hb hby at_59) rfl hnz59 ?_
  refine XS.istore X0.here hx rfl (hb hby at_60) rfl (l' := #[s0, s1, s2, s3, s4, .val (.int i5), s6, s7, .val (.int (HMod.hMod (i5 &&& (2147483647 : Int32)) (6 : Int32))), s9, s10, s11, s12, s13, s14, s15, s16, s17, s18, s19, s20, s21, s22, s23, s24, s25, s26, s27, s28, s29, s30, s31, s32, s33, s34, s35, s36, s37, s38, s39]) (os0_60_own_C1 hs8) ?_
  refine XS.iload X0.here hx rfl (hb hby at_62) rfl ?_
  refine XS.iload X0.here hx rfl (hb hby at_64) rfl ?_
  refine XS.bipush X0.here hx rfl (hb hby at_66) ?_
  refine XS.iushr X0.here hx rfl (hb hby at_68) rfl ?_
  refine X0.ldcInt hx hown (mvT hZ (own_W hw 35 rfl)) (g := (mkF m 69 #[s0, s1, s2, s3, s4, .val (.int i5), s6, s7, .val (.int (HMod.hMod (i5 &&& (2147483647 : Int32)) (6 : Int32))), s9, s10, s11, s12, s13, s14, s15, s16, s17, s18, s19, s20, s21, s22, s23, s24, s25, s26, s27, s28, s29, s30, s31, s32, s33, s34, s35, s36, s37, s38, s39] [(.int ((i5.toUInt32 >>> ((8 : Int32) &&& 31).toUInt32).toInt32)), (.int (HMod.hMod (i5 &&& (2147483647 : Int32)) (6 : Int32)))])) rfl (hb hby at_69) _ ?_
  refine XS.iand X0.here hx rfl (hb hby at_71) rfl ?_
  refine XS.bipush X0.here hx rfl (hb hby at_72) ?_
  refine XS.iload X0.here hx rfl (hb hby at_74) rfl ?_
  refine XS.isub X0.here hx rfl (hb hby at_76) rfl ?_
  refine Jvm.RoadKit.iremM X0 hx rfl (hb hby at_77) rfl hnz77 ?_
  refine XS.iadd X0.here hx rfl (hb hby at_78) rfl ?_
  refine XS.istore X0.here hx rfl (hb hby at_79) rfl (l' := #[s0, s1, s2, s3, s4, .val (.int i5), s6, s7, .val (.int (HMod.hMod (i5 &&& (2147483647 : Int32)) (6 : Int32))), .val (.int ((HMod.hMod (i5 &&& (2147483647 : Int32)) (6 : Int32)) + (HMod.hMod (((i5.toUInt32 >>> ((8 : Int32) &&& 31).toUInt32).toInt32) &&& (8388607 : Int32)) ((6 : Int32) - (HMod.hMod (i5 &&& (2147483647 : Int32)) (6 : Int32)))))), s10, s11, s12, s13, s14, s15, s16, s17, s18, s19, s20, s21, s22, s23, s24, s25, s26, s27, s28, s29, s30, s31, s32, s33, s34, s35, s36, s37, s38, s39]) (os0_79_own_C1 hs9) ?_
  exact kt
theorem os0_103_own_C2a {s0 : Slot} {s1 : Slot} {s2 : Slot} {s3 : Slot} {s4 : Slot} {s5 : Slot} {s6 : Slot} {s7 : Slot} {z8 : Value} {z9 : Value} {s10 : Slot} {s11 : Slot} {s12 : Slot} {s13 : Slot} {s14 : Slot} {s15 : Slot} {s16 : Slot} {s17 : Slot} {s18 : Slot} {s19 : Slot} {s20 : Slot} {s21 : Slot} {s22 : Slot} {s23 : Slot} {s24 : Slot} {s25 : Slot} {s26 : Slot} {s27 : Slot} {s28 : Slot} {s29 : Slot} {s30 : Slot} {s31 : Slot} {s32 : Slot} {s33 : Slot} {s34 : Slot} {s35 : Slot} {s36 : Slot} {s37 : Slot} {s38 : Slot} {s39 : Slot} {v : Int32} (h : One s10) : storeLocals #[s0, s1, s2, s3, s4, s5, s6, s7, .val z8, .val z9, s10, s11, s12, s13, s14, s15, s16, s17, s18, s19, s20, s21, s22, s23, s24, s25, s26, s27, s28, s29, s30, s31, s32, s33, s34, s35, s36, s37, s38, s39] 10 (.int v) = some #[s0, s1, s2, s3, s4, s5, s6, s7, .val z8, .val z9, .val (.int v), s11, s12, s13, s14, s15, s16, s17, s18, s19, s20, s21, s22, s23, s24, s25, s26, s27, s28, s29, s30, s31, s32, s33, s34, s35, s36, s37, s38, s39] := by
  rcases h with rfl | ⟨w, rfl, hw⟩
  · rfl
  · cases w <;> first | rfl | (simp [Value.category] at hw)
theorem os0_137_own_C2a {s0 : Slot} {s1 : Slot} {s2 : Slot} {s3 : Slot} {s4 : Slot} {s5 : Slot} {s6 : Slot} {s7 : Slot} {z8 : Value} {z9 : Value} {z10 : Value} {s11 : Slot} {s12 : Slot} {s13 : Slot} {s14 : Slot} {s15 : Slot} {s16 : Slot} {s17 : Slot} {s18 : Slot} {s19 : Slot} {s20 : Slot} {s21 : Slot} {s22 : Slot} {s23 : Slot} {s24 : Slot} {s25 : Slot} {s26 : Slot} {s27 : Slot} {s28 : Slot} {s29 : Slot} {s30 : Slot} {s31 : Slot} {s32 : Slot} {s33 : Slot} {s34 : Slot} {s35 : Slot} {s36 : Slot} {s37 : Slot} {s38 : Slot} {s39 : Slot} {v : Int32} (h : One s11) : storeLocals #[s0, s1, s2, s3, s4, s5, s6, s7, .val z8, .val z9, .val z10, s11, s12, s13, s14, s15, s16, s17, s18, s19, s20, s21, s22, s23, s24, s25, s26, s27, s28, s29, s30, s31, s32, s33, s34, s35, s36, s37, s38, s39] 11 (.int v) = some #[s0, s1, s2, s3, s4, s5, s6, s7, .val z8, .val z9, .val z10, .val (.int v), s12, s13, s14, s15, s16, s17, s18, s19, s20, s21, s22, s23, s24, s25, s26, s27, s28, s29, s30, s31, s32, s33, s34, s35, s36, s37, s38, s39] := by
  rcases h with rfl | ⟨w, rfl, hw⟩
  · rfl
  · cases w <;> first | rfl | (simp [Value.category] at hw)
theorem os0_153_own_C2a {s0 : Slot} {s1 : Slot} {s2 : Slot} {s3 : Slot} {s4 : Slot} {s5 : Slot} {s6 : Slot} {s7 : Slot} {z8 : Value} {z9 : Value} {z10 : Value} {z11 : Value} {s12 : Slot} {s13 : Slot} {s14 : Slot} {s15 : Slot} {s16 : Slot} {s17 : Slot} {s18 : Slot} {s19 : Slot} {s20 : Slot} {s21 : Slot} {s22 : Slot} {s23 : Slot} {s24 : Slot} {s25 : Slot} {s26 : Slot} {s27 : Slot} {s28 : Slot} {s29 : Slot} {s30 : Slot} {s31 : Slot} {s32 : Slot} {s33 : Slot} {s34 : Slot} {s35 : Slot} {s36 : Slot} {s37 : Slot} {s38 : Slot} {s39 : Slot} {v : Int32} (h : One s12) : storeLocals #[s0, s1, s2, s3, s4, s5, s6, s7, .val z8, .val z9, .val z10, .val z11, s12, s13, s14, s15, s16, s17, s18, s19, s20, s21, s22, s23, s24, s25, s26, s27, s28, s29, s30, s31, s32, s33, s34, s35, s36, s37, s38, s39] 12 (.int v) = some #[s0, s1, s2, s3, s4, s5, s6, s7, .val z8, .val z9, .val z10, .val z11, .val (.int v), s13, s14, s15, s16, s17, s18, s19, s20, s21, s22, s23, s24, s25, s26, s27, s28, s29, s30, s31, s32, s33, s34, s35, s36, s37, s38, s39] := by
  rcases h with rfl | ⟨w, rfl, hw⟩
  · rfl
  · cases w <;> first | rfl | (simp [Value.category] at hw)
set_option maxRecDepth 65536 in
set_option maxHeartbeats 40000000 in
theorem own_C2a {p : Program} {l : Launch} {e : Env} {s : State} {m : MethodId} {args : Array Value} {below : List Frame} {meth : Method} {c : Code} {T0 : State} {locs : List Loc} {cells slots : Nat} {Z : State} {a0 : Array Value} {h0 : Heap} (s0 : Slot) (s1 : Slot) (s2 : Slot) (s3 : Slot) (s4 : Slot) (s5 : Slot) (s6 : Slot) (s7 : Slot) (i8 : Int32) (i9 : Int32) (s10 : Slot) (s11 : Slot) (s12 : Slot) (s13 : Slot) (s14 : Slot) (s15 : Slot) (s16 : Slot) (s17 : Slot) (s18 : Slot) (s19 : Slot) (s20 : Slot) (s21 : Slot) (s22 : Slot) (s23 : Slot) (s24 : Slot) (s25 : Slot) (s26 : Slot) (s27 : Slot) (s28 : Slot) (s29 : Slot) (s30 : Slot) (s31 : Slot) (s32 : Slot) (s33 : Slot) (s34 : Slot) (s35 : Slot) (s36 : Slot) (s37 : Slot) (s38 : Slot) (s39 : Slot)
    (X0 : Stand p l e room_1 s m args below meth c T0 locs cells slots) (hx : p.tables.exec = Jvm.exec) (hZ : Z.Warmed39 s.vm) (hw : ∀ d ∈ tables_1, d.before a0 Z = true) (hby : c.code = code) (hml : c.maxLocals = 40) (hown : s.vm.findClass "com/example/bandmark/bandmark/PlainDecimalReadPinLaw" = some m.cls) (e0 : T0.heap = h0) (hs10 : One s10) (hs11 : One s11) (hs12 : One s12) (hc85 : ¬ (i8 < i9)) (hc109 : ¬ (i8 < i9)) :
    ∃ (T' : State), Stand p l e room_1 s m args below meth c T' locs cells slots ∧ T'.heap = h0 ∧
      ∀ target, Steps p.tables e below (T'.setTop (mkF m 155 #[s0, s1, s2, s3, s4, s5, s6, s7, .val (.int i8), .val (.int i9), .val (.int 0), .val (.int 0), .val (.int i8), s13, s14, s15, s16, s17, s18, s19, s20, s21, s22, s23, s24, s25, s26, s27, s28, s29, s30, s31, s32, s33, s34, s35, s36, s37, s38, s39] [])) target → Steps p.tables e below (T0.setTop (mkF m 81 #[s0, s1, s2, s3, s4, s5, s6, s7, .val (.int i8), .val (.int i9), s10, s11, s12, s13, s14, s15, s16, s17, s18, s19, s20, s21, s22, s23, s24, s25, s26, s27, s28, s29, s30, s31, s32, s33, s34, s35, s36, s37, s38, s39] [])) target := by
  refine ⟨T0, X0, e0, fun target kt => ?_⟩
  refine XS.iload X0.here hx rfl (hb hby at_81) rfl ?_
  refine XS.iload X0.here hx rfl (hb hby at_83) rfl ?_
  refine XS.icmpYes X0.here hx rfl (pc0 := 85) (pc' := 102) rfl (hb hby at_85) rfl (flt hc85).2.1 (by decide) (by decide) ?_
  refine XS.iconst X0.here hx rfl (hb hby at_102) ?_
  refine XS.istore X0.here hx rfl (hb hby at_103) rfl (l' := #[s0, s1, s2, s3, s4, s5, s6, s7, .val (.int i8), .val (.int i9), .val (.int 0), s11, s12, s13, s14, s15, s16, s17, s18, s19, s20, s21, s22, s23, s24, s25, s26, s27, s28, s29, s30, s31, s32, s33, s34, s35, s36, s37, s38, s39]) (os0_103_own_C2a hs10) ?_
  refine XS.iload X0.here hx rfl (hb hby at_105) rfl ?_
  refine XS.iload X0.here hx rfl (hb hby at_107) rfl ?_
  refine XS.icmpYes X0.here hx rfl (pc0 := 109) (pc' := 136) rfl (hb hby at_109) rfl (flt hc109).2.1 (by decide) (by decide) ?_
  refine XS.iconst X0.here hx rfl (hb hby at_136) ?_
  refine XS.istore X0.here hx rfl (hb hby at_137) rfl (l' := #[s0, s1, s2, s3, s4, s5, s6, s7, .val (.int i8), .val (.int i9), .val (.int 0), .val (.int 0), s12, s13, s14, s15, s16, s17, s18, s19, s20, s21, s22, s23, s24, s25, s26, s27, s28, s29, s30, s31, s32, s33, s34, s35, s36, s37, s38, s39]) (os0_137_own_C2a hs11) ?_
  refine XS.iload X0.here hx rfl (hb hby at_139) rfl ?_
  refine XS.ifYes X0.here hx rfl (pc0 := 141) (pc' := 151) rfl (hb hby at_141) rfl ((if0 _ _).trans (teq (rfl : (0 : Int32) = (0 : Int32))).1) (by decide) (by decide) ?_
  refine XS.iload X0.here hx rfl (hb hby at_151) rfl ?_
  refine XS.istore X0.here hx rfl (hb hby at_153) rfl (l' := #[s0, s1, s2, s3, s4, s5, s6, s7, .val (.int i8), .val (.int i9), .val (.int 0), .val (.int 0), .val (.int i8), s13, s14, s15, s16, s17, s18, s19, s20, s21, s22, s23, s24, s25, s26, s27, s28, s29, s30, s31, s32, s33, s34, s35, s36, s37, s38, s39]) (os0_153_own_C2a hs12) ?_
  exact kt
theorem os0_103_own_C2b {s0 : Slot} {s1 : Slot} {s2 : Slot} {s3 : Slot} {s4 : Slot} {s5 : Slot} {z6 : Value} {s7 : Slot} {z8 : Value} {z9 : Value} {s10 : Slot} {s11 : Slot} {s12 : Slot} {s13 : Slot} {s14 : Slot} {s15 : Slot} {s16 : Slot} {s17 : Slot} {s18 : Slot} {s19 : Slot} {s20 : Slot} {s21 : Slot} {s22 : Slot} {s23 : Slot} {s24 : Slot} {s25 : Slot} {s26 : Slot} {s27 : Slot} {s28 : Slot} {s29 : Slot} {s30 : Slot} {s31 : Slot} {s32 : Slot} {s33 : Slot} {s34 : Slot} {s35 : Slot} {s36 : Slot} {s37 : Slot} {s38 : Slot} {s39 : Slot} {v : Int32} (h : One s10) : storeLocals #[s0, s1, s2, s3, s4, s5, .val z6, s7, .val z8, .val z9, s10, s11, s12, s13, s14, s15, s16, s17, s18, s19, s20, s21, s22, s23, s24, s25, s26, s27, s28, s29, s30, s31, s32, s33, s34, s35, s36, s37, s38, s39] 10 (.int v) = some #[s0, s1, s2, s3, s4, s5, .val z6, s7, .val z8, .val z9, .val (.int v), s11, s12, s13, s14, s15, s16, s17, s18, s19, s20, s21, s22, s23, s24, s25, s26, s27, s28, s29, s30, s31, s32, s33, s34, s35, s36, s37, s38, s39] := by
  rcases h with rfl | ⟨w, rfl, hw⟩
  · rfl
  · cases w <;> first | rfl | (simp [Value.category] at hw)
theorem os0_137_own_C2b {s0 : Slot} {s1 : Slot} {s2 : Slot} {s3 : Slot} {s4 : Slot} {s5 : Slot} {z6 : Value} {s7 : Slot} {z8 : Value} {z9 : Value} {z10 : Value} {s11 : Slot} {s12 : Slot} {s13 : Slot} {s14 : Slot} {s15 : Slot} {s16 : Slot} {s17 : Slot} {s18 : Slot} {s19 : Slot} {s20 : Slot} {s21 : Slot} {s22 : Slot} {s23 : Slot} {s24 : Slot} {s25 : Slot} {s26 : Slot} {s27 : Slot} {s28 : Slot} {s29 : Slot} {s30 : Slot} {s31 : Slot} {s32 : Slot} {s33 : Slot} {s34 : Slot} {s35 : Slot} {s36 : Slot} {s37 : Slot} {s38 : Slot} {s39 : Slot} {v : Int32} (h : One s11) : storeLocals #[s0, s1, s2, s3, s4, s5, .val z6, s7, .val z8, .val z9, .val z10, s11, s12, s13, s14, s15, s16, s17, s18, s19, s20, s21, s22, s23, s24, s25, s26, s27, s28, s29, s30, s31, s32, s33, s34, s35, s36, s37, s38, s39] 11 (.int v) = some #[s0, s1, s2, s3, s4, s5, .val z6, s7, .val z8, .val z9, .val z10, .val (.int v), s12, s13, s14, s15, s16, s17, s18, s19, s20, s21, s22, s23, s24, s25, s26, s27, s28, s29, s30, s31, s32, s33, s34, s35, s36, s37, s38, s39] := by
  rcases h with rfl | ⟨w, rfl, hw⟩
  · rfl
  · cases w <;> first | rfl | (simp [Value.category] at hw)
theorem os0_153_own_C2b {s0 : Slot} {s1 : Slot} {s2 : Slot} {s3 : Slot} {s4 : Slot} {s5 : Slot} {z6 : Value} {s7 : Slot} {z8 : Value} {z9 : Value} {z10 : Value} {z11 : Value} {s12 : Slot} {s13 : Slot} {s14 : Slot} {s15 : Slot} {s16 : Slot} {s17 : Slot} {s18 : Slot} {s19 : Slot} {s20 : Slot} {s21 : Slot} {s22 : Slot} {s23 : Slot} {s24 : Slot} {s25 : Slot} {s26 : Slot} {s27 : Slot} {s28 : Slot} {s29 : Slot} {s30 : Slot} {s31 : Slot} {s32 : Slot} {s33 : Slot} {s34 : Slot} {s35 : Slot} {s36 : Slot} {s37 : Slot} {s38 : Slot} {s39 : Slot} {v : Int32} (h : One s12) : storeLocals #[s0, s1, s2, s3, s4, s5, .val z6, s7, .val z8, .val z9, .val z10, .val z11, s12, s13, s14, s15, s16, s17, s18, s19, s20, s21, s22, s23, s24, s25, s26, s27, s28, s29, s30, s31, s32, s33, s34, s35, s36, s37, s38, s39] 12 (.int v) = some #[s0, s1, s2, s3, s4, s5, .val z6, s7, .val z8, .val z9, .val z10, .val z11, .val (.int v), s13, s14, s15, s16, s17, s18, s19, s20, s21, s22, s23, s24, s25, s26, s27, s28, s29, s30, s31, s32, s33, s34, s35, s36, s37, s38, s39] := by
  rcases h with rfl | ⟨w, rfl, hw⟩
  · rfl
  · cases w <;> first | rfl | (simp [Value.category] at hw)
set_option maxRecDepth 65536 in
set_option maxHeartbeats 40000000 in
theorem own_C2b {p : Program} {l : Launch} {e : Env} {s : State} {m : MethodId} {args : Array Value} {below : List Frame} {meth : Method} {c : Code} {T0 : State} {locs : List Loc} {cells slots : Nat} {Z : State} {a0 : Array Value} {h0 : Heap} (s0 : Slot) (s1 : Slot) (s2 : Slot) (s3 : Slot) (s4 : Slot) (s5 : Slot) (o6 : Addr) (s7 : Slot) (i8 : Int32) (i9 : Int32) (s10 : Slot) (s11 : Slot) (s12 : Slot) (s13 : Slot) (s14 : Slot) (s15 : Slot) (s16 : Slot) (s17 : Slot) (s18 : Slot) (s19 : Slot) (s20 : Slot) (s21 : Slot) (s22 : Slot) (s23 : Slot) (s24 : Slot) (s25 : Slot) (s26 : Slot) (s27 : Slot) (s28 : Slot) (s29 : Slot) (s30 : Slot) (s31 : Slot) (s32 : Slot) (s33 : Slot) (s34 : Slot) (s35 : Slot) (s36 : Slot) (s37 : Slot) (s38 : Slot) (s39 : Slot) (w7 : Int32) (cl_o6 : Cell) (w8 : Int32)
    (X0 : Stand p l e room_1 s m args below meth c T0 locs cells slots) (hx : p.tables.exec = Jvm.exec) (hZ : Z.Warmed39 s.vm) (hw : ∀ d ∈ tables_1, d.before a0 Z = true) (hby : c.code = code) (hml : c.maxLocals = 40) (hown : s.vm.findClass "com/example/bandmark/bandmark/PlainDecimalReadPinLaw" = some m.cls) (e0 : T0.heap = h0) (Ar_o6 : Arr Z h0 o6 cl_o6 .char) (hin92 : ¬ (i8 < 0 ∨ cl_o6.slots.size ≤ (i8).toNatClampNeg)) (hat92 : cl_o6.slots[(i8).toNatClampNeg]? = some (.int w7)) (hs10 : One s10) (hin116 : ¬ (i8 < 0 ∨ cl_o6.slots.size ≤ (i8).toNatClampNeg)) (hat116 : cl_o6.slots[(i8).toNatClampNeg]? = some (.int w8)) (hs11 : One s11) (hs12 : One s12) (hc85 : i8 < i9) (hc95 : w7 = (45 : Int32)) (hc109 : i8 < i9) (hc119 : w8 = (45 : Int32)) (hc141 : ¬ ((1 : Int32) = (0 : Int32))) :
    ∃ (T' : State), Stand p l e room_1 s m args below meth c T' locs cells slots ∧ T'.heap = h0 ∧
      ∀ target, Steps p.tables e below (T'.setTop (mkF m 155 #[s0, s1, s2, s3, s4, s5, .val (.ref o6), s7, .val (.int i8), .val (.int i9), .val (.int 1), .val (.int 1), .val (.int (i8 + (1 : Int32))), s13, s14, s15, s16, s17, s18, s19, s20, s21, s22, s23, s24, s25, s26, s27, s28, s29, s30, s31, s32, s33, s34, s35, s36, s37, s38, s39] [])) target → Steps p.tables e below (T0.setTop (mkF m 81 #[s0, s1, s2, s3, s4, s5, .val (.ref o6), s7, .val (.int i8), .val (.int i9), s10, s11, s12, s13, s14, s15, s16, s17, s18, s19, s20, s21, s22, s23, s24, s25, s26, s27, s28, s29, s30, s31, s32, s33, s34, s35, s36, s37, s38, s39] [])) target := by
  refine ⟨T0, X0, e0, fun target kt => ?_⟩
  refine XS.iload X0.here hx rfl (hb hby at_81) rfl ?_
  refine XS.iload X0.here hx rfl (hb hby at_83) rfl ?_
  refine XS.icmpNo X0.here hx rfl (hb hby at_85) rfl (tlt hc85).2.1 ?_
  refine XS.aload X0.here hx rfl (hb hby at_88) rfl rfl ?_
  refine XS.iload X0.here hx rfl (hb hby at_90) rfl ?_
  refine X0.caload hx (j := i8) (v := (.int w7)) (by rw [e0]; exact Ar_o6.1) (State.isArrayOf_alike hZ.alike Ar_o6.2.1) Ar_o6.2.2 hin92 hat92 (g := (mkF m 92 #[s0, s1, s2, s3, s4, s5, .val (.ref o6), s7, .val (.int i8), .val (.int i9), s10, s11, s12, s13, s14, s15, s16, s17, s18, s19, s20, s21, s22, s23, s24, s25, s26, s27, s28, s29, s30, s31, s32, s33, s34, s35, s36, s37, s38, s39] [(.int i8), (.ref o6)])) rfl rfl (hb hby at_92) _ ?_
  refine XS.bipush X0.here hx rfl (hb hby at_93) ?_
  refine XS.icmpNo X0.here hx rfl (hb hby at_95) rfl (teq hc95).2 ?_
  refine XS.iconst X0.here hx rfl (hb hby at_98) ?_
  refine XS.goto X0.here hx rfl (pc0 := 99) (pc' := 103) rfl (hb hby at_99) (by decide) (by decide) ?_
  refine XS.istore X0.here hx rfl (hb hby at_103) rfl (l' := #[s0, s1, s2, s3, s4, s5, .val (.ref o6), s7, .val (.int i8), .val (.int i9), .val (.int 1), s11, s12, s13, s14, s15, s16, s17, s18, s19, s20, s21, s22, s23, s24, s25, s26, s27, s28, s29, s30, s31, s32, s33, s34, s35, s36, s37, s38, s39]) (os0_103_own_C2b hs10) ?_
  refine XS.iload X0.here hx rfl (hb hby at_105) rfl ?_
  refine XS.iload X0.here hx rfl (hb hby at_107) rfl ?_
  refine XS.icmpNo X0.here hx rfl (hb hby at_109) rfl (tlt hc109).2.1 ?_
  refine XS.aload X0.here hx rfl (hb hby at_112) rfl rfl ?_
  refine XS.iload X0.here hx rfl (hb hby at_114) rfl ?_
  refine X0.caload hx (j := i8) (v := (.int w8)) (by rw [e0]; exact Ar_o6.1) (State.isArrayOf_alike hZ.alike Ar_o6.2.1) Ar_o6.2.2 hin116 hat116 (g := (mkF m 116 #[s0, s1, s2, s3, s4, s5, .val (.ref o6), s7, .val (.int i8), .val (.int i9), .val (.int 1), s11, s12, s13, s14, s15, s16, s17, s18, s19, s20, s21, s22, s23, s24, s25, s26, s27, s28, s29, s30, s31, s32, s33, s34, s35, s36, s37, s38, s39] [(.int i8), (.ref o6)])) rfl rfl (hb hby at_116) _ ?_
  refine XS.bipush X0.here hx rfl (hb hby at_117) ?_
  refine XS.icmpYes X0.here hx rfl (pc0 := 119) (pc' := 132) rfl (hb hby at_119) rfl (teq hc119).1 (by decide) (by decide) ?_
  refine XS.iconst X0.here hx rfl (hb hby at_132) ?_
  refine XS.goto X0.here hx rfl (pc0 := 133) (pc' := 137) rfl (hb hby at_133) (by decide) (by decide) ?_
  refine XS.istore X0.here hx rfl (hb hby at_137) rfl (l' := #[s0, s1, s2, s3, s4, s5, .val (.ref o6), s7, .val (.int i8), .val (.int i9), .val (.int 1), .val (.int 1), s12, s13, s14, s15, s16, s17, s18, s19, s20, s21, s22, s23, s24, s25, s26, s27, s28, s29, s30, s31, s32, s33, s34, s35, s36, s37, s38, s39]) (os0_137_own_C2b hs11) ?_
  refine XS.iload X0.here hx rfl (hb hby at_139) rfl ?_
  refine XS.ifNo X0.here hx rfl (hb hby at_141) rfl ((if0 _ _).trans (feq hc141).1) ?_
  refine XS.iload X0.here hx rfl (hb hby at_144) rfl ?_
  refine XS.iconst X0.here hx rfl (hb hby at_146) ?_
  refine XS.iadd X0.here hx rfl (hb hby at_147) rfl ?_
  refine XS.goto X0.here hx rfl (pc0 := 148) (pc' := 153) rfl (hb hby at_148) (by decide) (by decide) ?_
  refine XS.istore X0.here hx rfl (hb hby at_153) rfl (l' := #[s0, s1, s2, s3, s4, s5, .val (.ref o6), s7, .val (.int i8), .val (.int i9), .val (.int 1), .val (.int 1), .val (.int (i8 + (1 : Int32))), s13, s14, s15, s16, s17, s18, s19, s20, s21, s22, s23, s24, s25, s26, s27, s28, s29, s30, s31, s32, s33, s34, s35, s36, s37, s38, s39]) (os0_153_own_C2b hs12) ?_
  exact kt
theorem os0_103_own_C2c {s0 : Slot} {s1 : Slot} {s2 : Slot} {s3 : Slot} {s4 : Slot} {s5 : Slot} {z6 : Value} {s7 : Slot} {z8 : Value} {z9 : Value} {s10 : Slot} {s11 : Slot} {s12 : Slot} {s13 : Slot} {s14 : Slot} {s15 : Slot} {s16 : Slot} {s17 : Slot} {s18 : Slot} {s19 : Slot} {s20 : Slot} {s21 : Slot} {s22 : Slot} {s23 : Slot} {s24 : Slot} {s25 : Slot} {s26 : Slot} {s27 : Slot} {s28 : Slot} {s29 : Slot} {s30 : Slot} {s31 : Slot} {s32 : Slot} {s33 : Slot} {s34 : Slot} {s35 : Slot} {s36 : Slot} {s37 : Slot} {s38 : Slot} {s39 : Slot} {v : Int32} (h : One s10) : storeLocals #[s0, s1, s2, s3, s4, s5, .val z6, s7, .val z8, .val z9, s10, s11, s12, s13, s14, s15, s16, s17, s18, s19, s20, s21, s22, s23, s24, s25, s26, s27, s28, s29, s30, s31, s32, s33, s34, s35, s36, s37, s38, s39] 10 (.int v) = some #[s0, s1, s2, s3, s4, s5, .val z6, s7, .val z8, .val z9, .val (.int v), s11, s12, s13, s14, s15, s16, s17, s18, s19, s20, s21, s22, s23, s24, s25, s26, s27, s28, s29, s30, s31, s32, s33, s34, s35, s36, s37, s38, s39] := by
  rcases h with rfl | ⟨w, rfl, hw⟩
  · rfl
  · cases w <;> first | rfl | (simp [Value.category] at hw)
theorem os0_137_own_C2c {s0 : Slot} {s1 : Slot} {s2 : Slot} {s3 : Slot} {s4 : Slot} {s5 : Slot} {z6 : Value} {s7 : Slot} {z8 : Value} {z9 : Value} {z10 : Value} {s11 : Slot} {s12 : Slot} {s13 : Slot} {s14 : Slot} {s15 : Slot} {s16 : Slot} {s17 : Slot} {s18 : Slot} {s19 : Slot} {s20 : Slot} {s21 : Slot} {s22 : Slot} {s23 : Slot} {s24 : Slot} {s25 : Slot} {s26 : Slot} {s27 : Slot} {s28 : Slot} {s29 : Slot} {s30 : Slot} {s31 : Slot} {s32 : Slot} {s33 : Slot} {s34 : Slot} {s35 : Slot} {s36 : Slot} {s37 : Slot} {s38 : Slot} {s39 : Slot} {v : Int32} (h : One s11) : storeLocals #[s0, s1, s2, s3, s4, s5, .val z6, s7, .val z8, .val z9, .val z10, s11, s12, s13, s14, s15, s16, s17, s18, s19, s20, s21, s22, s23, s24, s25, s26, s27, s28, s29, s30, s31, s32, s33, s34, s35, s36, s37, s38, s39] 11 (.int v) = some #[s0, s1, s2, s3, s4, s5, .val z6, s7, .val z8, .val z9, .val z10, .val (.int v), s12, s13, s14, s15, s16, s17, s18, s19, s20, s21, s22, s23, s24, s25, s26, s27, s28, s29, s30, s31, s32, s33, s34, s35, s36, s37, s38, s39] := by
  rcases h with rfl | ⟨w, rfl, hw⟩
  · rfl
  · cases w <;> first | rfl | (simp [Value.category] at hw)
theorem os0_153_own_C2c {s0 : Slot} {s1 : Slot} {s2 : Slot} {s3 : Slot} {s4 : Slot} {s5 : Slot} {z6 : Value} {s7 : Slot} {z8 : Value} {z9 : Value} {z10 : Value} {z11 : Value} {s12 : Slot} {s13 : Slot} {s14 : Slot} {s15 : Slot} {s16 : Slot} {s17 : Slot} {s18 : Slot} {s19 : Slot} {s20 : Slot} {s21 : Slot} {s22 : Slot} {s23 : Slot} {s24 : Slot} {s25 : Slot} {s26 : Slot} {s27 : Slot} {s28 : Slot} {s29 : Slot} {s30 : Slot} {s31 : Slot} {s32 : Slot} {s33 : Slot} {s34 : Slot} {s35 : Slot} {s36 : Slot} {s37 : Slot} {s38 : Slot} {s39 : Slot} {v : Int32} (h : One s12) : storeLocals #[s0, s1, s2, s3, s4, s5, .val z6, s7, .val z8, .val z9, .val z10, .val z11, s12, s13, s14, s15, s16, s17, s18, s19, s20, s21, s22, s23, s24, s25, s26, s27, s28, s29, s30, s31, s32, s33, s34, s35, s36, s37, s38, s39] 12 (.int v) = some #[s0, s1, s2, s3, s4, s5, .val z6, s7, .val z8, .val z9, .val z10, .val z11, .val (.int v), s13, s14, s15, s16, s17, s18, s19, s20, s21, s22, s23, s24, s25, s26, s27, s28, s29, s30, s31, s32, s33, s34, s35, s36, s37, s38, s39] := by
  rcases h with rfl | ⟨w, rfl, hw⟩
  · rfl
  · cases w <;> first | rfl | (simp [Value.category] at hw)
set_option maxRecDepth 65536 in
set_option maxHeartbeats 40000000 in
theorem own_C2c {p : Program} {l : Launch} {e : Env} {s : State} {m : MethodId} {args : Array Value} {below : List Frame} {meth : Method} {c : Code} {T0 : State} {locs : List Loc} {cells slots : Nat} {Z : State} {a0 : Array Value} {h0 : Heap} (s0 : Slot) (s1 : Slot) (s2 : Slot) (s3 : Slot) (s4 : Slot) (s5 : Slot) (o6 : Addr) (s7 : Slot) (i8 : Int32) (i9 : Int32) (s10 : Slot) (s11 : Slot) (s12 : Slot) (s13 : Slot) (s14 : Slot) (s15 : Slot) (s16 : Slot) (s17 : Slot) (s18 : Slot) (s19 : Slot) (s20 : Slot) (s21 : Slot) (s22 : Slot) (s23 : Slot) (s24 : Slot) (s25 : Slot) (s26 : Slot) (s27 : Slot) (s28 : Slot) (s29 : Slot) (s30 : Slot) (s31 : Slot) (s32 : Slot) (s33 : Slot) (s34 : Slot) (s35 : Slot) (s36 : Slot) (s37 : Slot) (s38 : Slot) (s39 : Slot) (w7 : Int32) (cl_o6 : Cell) (w8 : Int32) (w9 : Int32)
    (X0 : Stand p l e room_1 s m args below meth c T0 locs cells slots) (hx : p.tables.exec = Jvm.exec) (hZ : Z.Warmed39 s.vm) (hw : ∀ d ∈ tables_1, d.before a0 Z = true) (hby : c.code = code) (hml : c.maxLocals = 40) (hown : s.vm.findClass "com/example/bandmark/bandmark/PlainDecimalReadPinLaw" = some m.cls) (e0 : T0.heap = h0) (Ar_o6 : Arr Z h0 o6 cl_o6 .char) (hin92 : ¬ (i8 < 0 ∨ cl_o6.slots.size ≤ (i8).toNatClampNeg)) (hat92 : cl_o6.slots[(i8).toNatClampNeg]? = some (.int w7)) (hs10 : One s10) (hin116 : ¬ (i8 < 0 ∨ cl_o6.slots.size ≤ (i8).toNatClampNeg)) (hat116 : cl_o6.slots[(i8).toNatClampNeg]? = some (.int w8)) (hin126 : ¬ (i8 < 0 ∨ cl_o6.slots.size ≤ (i8).toNatClampNeg)) (hat126 : cl_o6.slots[(i8).toNatClampNeg]? = some (.int w9)) (hs11 : One s11) (hs12 : One s12) (hc85 : i8 < i9) (hc95 : ¬ (w7 = (45 : Int32))) (hc109 : i8 < i9) (hc119 : ¬ (w8 = (45 : Int32))) (hc129 : w9 = (43 : Int32)) (hc141 : ¬ ((1 : Int32) = (0 : Int32))) :
    ∃ (T' : State), Stand p l e room_1 s m args below meth c T' locs cells slots ∧ T'.heap = h0 ∧
      ∀ target, Steps p.tables e below (T'.setTop (mkF m 155 #[s0, s1, s2, s3, s4, s5, .val (.ref o6), s7, .val (.int i8), .val (.int i9), .val (.int 0), .val (.int 1), .val (.int (i8 + (1 : Int32))), s13, s14, s15, s16, s17, s18, s19, s20, s21, s22, s23, s24, s25, s26, s27, s28, s29, s30, s31, s32, s33, s34, s35, s36, s37, s38, s39] [])) target → Steps p.tables e below (T0.setTop (mkF m 81 #[s0, s1, s2, s3, s4, s5, .val (.ref o6), s7, .val (.int i8), .val (.int i9), s10, s11, s12, s13, s14, s15, s16, s17, s18, s19, s20, s21, s22, s23, s24, s25, s26, s27, s28, s29, s30, s31, s32, s33, s34, s35, s36, s37, s38, s39] [])) target := by
  refine ⟨T0, X0, e0, fun target kt => ?_⟩
  refine XS.iload X0.here hx rfl (hb hby at_81) rfl ?_
  refine XS.iload X0.here hx rfl (hb hby at_83) rfl ?_
  refine XS.icmpNo X0.here hx rfl (hb hby at_85) rfl (tlt hc85).2.1 ?_
  refine XS.aload X0.here hx rfl (hb hby at_88) rfl rfl ?_
  refine XS.iload X0.here hx rfl (hb hby at_90) rfl ?_
  refine X0.caload hx (j := i8) (v := (.int w7)) (by rw [e0]; exact Ar_o6.1) (State.isArrayOf_alike hZ.alike Ar_o6.2.1) Ar_o6.2.2 hin92 hat92 (g := (mkF m 92 #[s0, s1, s2, s3, s4, s5, .val (.ref o6), s7, .val (.int i8), .val (.int i9), s10, s11, s12, s13, s14, s15, s16, s17, s18, s19, s20, s21, s22, s23, s24, s25, s26, s27, s28, s29, s30, s31, s32, s33, s34, s35, s36, s37, s38, s39] [(.int i8), (.ref o6)])) rfl rfl (hb hby at_92) _ ?_
  refine XS.bipush X0.here hx rfl (hb hby at_93) ?_
  refine XS.icmpYes X0.here hx rfl (pc0 := 95) (pc' := 102) rfl (hb hby at_95) rfl (feq hc95).2 (by decide) (by decide) ?_
  refine XS.iconst X0.here hx rfl (hb hby at_102) ?_
  refine XS.istore X0.here hx rfl (hb hby at_103) rfl (l' := #[s0, s1, s2, s3, s4, s5, .val (.ref o6), s7, .val (.int i8), .val (.int i9), .val (.int 0), s11, s12, s13, s14, s15, s16, s17, s18, s19, s20, s21, s22, s23, s24, s25, s26, s27, s28, s29, s30, s31, s32, s33, s34, s35, s36, s37, s38, s39]) (os0_103_own_C2c hs10) ?_
  refine XS.iload X0.here hx rfl (hb hby at_105) rfl ?_
  refine XS.iload X0.here hx rfl (hb hby at_107) rfl ?_
  refine XS.icmpNo X0.here hx rfl (hb hby at_109) rfl (tlt hc109).2.1 ?_
  refine XS.aload X0.here hx rfl (hb hby at_112) rfl rfl ?_
  refine XS.iload X0.here hx rfl (hb hby at_114) rfl ?_
  refine X0.caload hx (j := i8) (v := (.int w8)) (by rw [e0]; exact Ar_o6.1) (State.isArrayOf_alike hZ.alike Ar_o6.2.1) Ar_o6.2.2 hin116 hat116 (g := (mkF m 116 #[s0, s1, s2, s3, s4, s5, .val (.ref o6), s7, .val (.int i8), .val (.int i9), .val (.int 0), s11, s12, s13, s14, s15, s16, s17, s18, s19, s20, s21, s22, s23, s24, s25, s26, s27, s28, s29, s30, s31, s32, s33, s34, s35, s36, s37, s38, s39] [(.int i8), (.ref o6)])) rfl rfl (hb hby at_116) _ ?_
  refine XS.bipush X0.here hx rfl (hb hby at_117) ?_
  refine XS.icmpNo X0.here hx rfl (hb hby at_119) rfl (feq hc119).1 ?_
  refine XS.aload X0.here hx rfl (hb hby at_122) rfl rfl ?_
  refine XS.iload X0.here hx rfl (hb hby at_124) rfl ?_
  refine X0.caload hx (j := i8) (v := (.int w9)) (by rw [e0]; exact Ar_o6.1) (State.isArrayOf_alike hZ.alike Ar_o6.2.1) Ar_o6.2.2 hin126 hat126 (g := (mkF m 126 #[s0, s1, s2, s3, s4, s5, .val (.ref o6), s7, .val (.int i8), .val (.int i9), .val (.int 0), s11, s12, s13, s14, s15, s16, s17, s18, s19, s20, s21, s22, s23, s24, s25, s26, s27, s28, s29, s30, s31, s32, s33, s34, s35, s36, s37, s38, s39] [(.int i8), (.ref o6)])) rfl rfl (hb hby at_126) _ ?_
  refine XS.bipush X0.here hx rfl (hb hby at_127) ?_
  refine XS.icmpNo X0.here hx rfl (hb hby at_129) rfl (teq hc129).2 ?_
  refine XS.iconst X0.here hx rfl (hb hby at_132) ?_
  refine XS.goto X0.here hx rfl (pc0 := 133) (pc' := 137) rfl (hb hby at_133) (by decide) (by decide) ?_
  refine XS.istore X0.here hx rfl (hb hby at_137) rfl (l' := #[s0, s1, s2, s3, s4, s5, .val (.ref o6), s7, .val (.int i8), .val (.int i9), .val (.int 0), .val (.int 1), s12, s13, s14, s15, s16, s17, s18, s19, s20, s21, s22, s23, s24, s25, s26, s27, s28, s29, s30, s31, s32, s33, s34, s35, s36, s37, s38, s39]) (os0_137_own_C2c hs11) ?_
  refine XS.iload X0.here hx rfl (hb hby at_139) rfl ?_
  refine XS.ifNo X0.here hx rfl (hb hby at_141) rfl ((if0 _ _).trans (feq hc141).1) ?_
  refine XS.iload X0.here hx rfl (hb hby at_144) rfl ?_
  refine XS.iconst X0.here hx rfl (hb hby at_146) ?_
  refine XS.iadd X0.here hx rfl (hb hby at_147) rfl ?_
  refine XS.goto X0.here hx rfl (pc0 := 148) (pc' := 153) rfl (hb hby at_148) (by decide) (by decide) ?_
  refine XS.istore X0.here hx rfl (hb hby at_153) rfl (l' := #[s0, s1, s2, s3, s4, s5, .val (.ref o6), s7, .val (.int i8), .val (.int i9), .val (.int 0), .val (.int 1), .val (.int (i8 + (1 : Int32))), s13, s14, s15, s16, s17, s18, s19, s20, s21, s22, s23, s24, s25, s26, s27, s28, s29, s30, s31, s32, s33, s34, s35, s36, s37, s38, s39]) (os0_153_own_C2c hs12) ?_
  exact kt
theorem os0_103_own_C2d {s0 : Slot} {s1 : Slot} {s2 : Slot} {s3 : Slot} {s4 : Slot} {s5 : Slot} {z6 : Value} {s7 : Slot} {z8 : Value} {z9 : Value} {s10 : Slot} {s11 : Slot} {s12 : Slot} {s13 : Slot} {s14 : Slot} {s15 : Slot} {s16 : Slot} {s17 : Slot} {s18 : Slot} {s19 : Slot} {s20 : Slot} {s21 : Slot} {s22 : Slot} {s23 : Slot} {s24 : Slot} {s25 : Slot} {s26 : Slot} {s27 : Slot} {s28 : Slot} {s29 : Slot} {s30 : Slot} {s31 : Slot} {s32 : Slot} {s33 : Slot} {s34 : Slot} {s35 : Slot} {s36 : Slot} {s37 : Slot} {s38 : Slot} {s39 : Slot} {v : Int32} (h : One s10) : storeLocals #[s0, s1, s2, s3, s4, s5, .val z6, s7, .val z8, .val z9, s10, s11, s12, s13, s14, s15, s16, s17, s18, s19, s20, s21, s22, s23, s24, s25, s26, s27, s28, s29, s30, s31, s32, s33, s34, s35, s36, s37, s38, s39] 10 (.int v) = some #[s0, s1, s2, s3, s4, s5, .val z6, s7, .val z8, .val z9, .val (.int v), s11, s12, s13, s14, s15, s16, s17, s18, s19, s20, s21, s22, s23, s24, s25, s26, s27, s28, s29, s30, s31, s32, s33, s34, s35, s36, s37, s38, s39] := by
  rcases h with rfl | ⟨w, rfl, hw⟩
  · rfl
  · cases w <;> first | rfl | (simp [Value.category] at hw)
theorem os0_137_own_C2d {s0 : Slot} {s1 : Slot} {s2 : Slot} {s3 : Slot} {s4 : Slot} {s5 : Slot} {z6 : Value} {s7 : Slot} {z8 : Value} {z9 : Value} {z10 : Value} {s11 : Slot} {s12 : Slot} {s13 : Slot} {s14 : Slot} {s15 : Slot} {s16 : Slot} {s17 : Slot} {s18 : Slot} {s19 : Slot} {s20 : Slot} {s21 : Slot} {s22 : Slot} {s23 : Slot} {s24 : Slot} {s25 : Slot} {s26 : Slot} {s27 : Slot} {s28 : Slot} {s29 : Slot} {s30 : Slot} {s31 : Slot} {s32 : Slot} {s33 : Slot} {s34 : Slot} {s35 : Slot} {s36 : Slot} {s37 : Slot} {s38 : Slot} {s39 : Slot} {v : Int32} (h : One s11) : storeLocals #[s0, s1, s2, s3, s4, s5, .val z6, s7, .val z8, .val z9, .val z10, s11, s12, s13, s14, s15, s16, s17, s18, s19, s20, s21, s22, s23, s24, s25, s26, s27, s28, s29, s30, s31, s32, s33, s34, s35, s36, s37, s38, s39] 11 (.int v) = some #[s0, s1, s2, s3, s4, s5, .val z6, s7, .val z8, .val z9, .val z10, .val (.int v), s12, s13, s14, s15, s16, s17, s18, s19, s20, s21, s22, s23, s24, s25, s26, s27, s28, s29, s30, s31, s32, s33, s34, s35, s36, s37, s38, s39] := by
  rcases h with rfl | ⟨w, rfl, hw⟩
  · rfl
  · cases w <;> first | rfl | (simp [Value.category] at hw)
theorem os0_153_own_C2d {s0 : Slot} {s1 : Slot} {s2 : Slot} {s3 : Slot} {s4 : Slot} {s5 : Slot} {z6 : Value} {s7 : Slot} {z8 : Value} {z9 : Value} {z10 : Value} {z11 : Value} {s12 : Slot} {s13 : Slot} {s14 : Slot} {s15 : Slot} {s16 : Slot} {s17 : Slot} {s18 : Slot} {s19 : Slot} {s20 : Slot} {s21 : Slot} {s22 : Slot} {s23 : Slot} {s24 : Slot} {s25 : Slot} {s26 : Slot} {s27 : Slot} {s28 : Slot} {s29 : Slot} {s30 : Slot} {s31 : Slot} {s32 : Slot} {s33 : Slot} {s34 : Slot} {s35 : Slot} {s36 : Slot} {s37 : Slot} {s38 : Slot} {s39 : Slot} {v : Int32} (h : One s12) : storeLocals #[s0, s1, s2, s3, s4, s5, .val z6, s7, .val z8, .val z9, .val z10, .val z11, s12, s13, s14, s15, s16, s17, s18, s19, s20, s21, s22, s23, s24, s25, s26, s27, s28, s29, s30, s31, s32, s33, s34, s35, s36, s37, s38, s39] 12 (.int v) = some #[s0, s1, s2, s3, s4, s5, .val z6, s7, .val z8, .val z9, .val z10, .val z11, .val (.int v), s13, s14, s15, s16, s17, s18, s19, s20, s21, s22, s23, s24, s25, s26, s27, s28, s29, s30, s31, s32, s33, s34, s35, s36, s37, s38, s39] := by
  rcases h with rfl | ⟨w, rfl, hw⟩
  · rfl
  · cases w <;> first | rfl | (simp [Value.category] at hw)
set_option maxRecDepth 65536 in
set_option maxHeartbeats 40000000 in
theorem own_C2d {p : Program} {l : Launch} {e : Env} {s : State} {m : MethodId} {args : Array Value} {below : List Frame} {meth : Method} {c : Code} {T0 : State} {locs : List Loc} {cells slots : Nat} {Z : State} {a0 : Array Value} {h0 : Heap} (s0 : Slot) (s1 : Slot) (s2 : Slot) (s3 : Slot) (s4 : Slot) (s5 : Slot) (o6 : Addr) (s7 : Slot) (i8 : Int32) (i9 : Int32) (s10 : Slot) (s11 : Slot) (s12 : Slot) (s13 : Slot) (s14 : Slot) (s15 : Slot) (s16 : Slot) (s17 : Slot) (s18 : Slot) (s19 : Slot) (s20 : Slot) (s21 : Slot) (s22 : Slot) (s23 : Slot) (s24 : Slot) (s25 : Slot) (s26 : Slot) (s27 : Slot) (s28 : Slot) (s29 : Slot) (s30 : Slot) (s31 : Slot) (s32 : Slot) (s33 : Slot) (s34 : Slot) (s35 : Slot) (s36 : Slot) (s37 : Slot) (s38 : Slot) (s39 : Slot) (w7 : Int32) (cl_o6 : Cell) (w8 : Int32) (w9 : Int32)
    (X0 : Stand p l e room_1 s m args below meth c T0 locs cells slots) (hx : p.tables.exec = Jvm.exec) (hZ : Z.Warmed39 s.vm) (hw : ∀ d ∈ tables_1, d.before a0 Z = true) (hby : c.code = code) (hml : c.maxLocals = 40) (hown : s.vm.findClass "com/example/bandmark/bandmark/PlainDecimalReadPinLaw" = some m.cls) (e0 : T0.heap = h0) (Ar_o6 : Arr Z h0 o6 cl_o6 .char) (hin92 : ¬ (i8 < 0 ∨ cl_o6.slots.size ≤ (i8).toNatClampNeg)) (hat92 : cl_o6.slots[(i8).toNatClampNeg]? = some (.int w7)) (hs10 : One s10) (hin116 : ¬ (i8 < 0 ∨ cl_o6.slots.size ≤ (i8).toNatClampNeg)) (hat116 : cl_o6.slots[(i8).toNatClampNeg]? = some (.int w8)) (hin126 : ¬ (i8 < 0 ∨ cl_o6.slots.size ≤ (i8).toNatClampNeg)) (hat126 : cl_o6.slots[(i8).toNatClampNeg]? = some (.int w9)) (hs11 : One s11) (hs12 : One s12) (hc85 : i8 < i9) (hc95 : ¬ (w7 = (45 : Int32))) (hc109 : i8 < i9) (hc119 : ¬ (w8 = (45 : Int32))) (hc129 : ¬ (w9 = (43 : Int32))) :
    ∃ (T' : State), Stand p l e room_1 s m args below meth c T' locs cells slots ∧ T'.heap = h0 ∧
      ∀ target, Steps p.tables e below (T'.setTop (mkF m 155 #[s0, s1, s2, s3, s4, s5, .val (.ref o6), s7, .val (.int i8), .val (.int i9), .val (.int 0), .val (.int 0), .val (.int i8), s13, s14, s15, s16, s17, s18, s19, s20, s21, s22, s23, s24, s25, s26, s27, s28, s29, s30, s31, s32, s33, s34, s35, s36, s37, s38, s39] [])) target → Steps p.tables e below (T0.setTop (mkF m 81 #[s0, s1, s2, s3, s4, s5, .val (.ref o6), s7, .val (.int i8), .val (.int i9), s10, s11, s12, s13, s14, s15, s16, s17, s18, s19, s20, s21, s22, s23, s24, s25, s26, s27, s28, s29, s30, s31, s32, s33, s34, s35, s36, s37, s38, s39] [])) target := by
  refine ⟨T0, X0, e0, fun target kt => ?_⟩
  refine XS.iload X0.here hx rfl (hb hby at_81) rfl ?_
  refine XS.iload X0.here hx rfl (hb hby at_83) rfl ?_
  refine XS.icmpNo X0.here hx rfl (hb hby at_85) rfl (tlt hc85).2.1 ?_
  refine XS.aload X0.here hx rfl (hb hby at_88) rfl rfl ?_
  refine XS.iload X0.here hx rfl (hb hby at_90) rfl ?_
  refine X0.caload hx (j := i8) (v := (.int w7)) (by rw [e0]; exact Ar_o6.1) (State.isArrayOf_alike hZ.alike Ar_o6.2.1) Ar_o6.2.2 hin92 hat92 (g := (mkF m 92 #[s0, s1, s2, s3, s4, s5, .val (.ref o6), s7, .val (.int i8), .val (.int i9), s10, s11, s12, s13, s14, s15, s16, s17, s18, s19, s20, s21, s22, s23, s24, s25, s26, s27, s28, s29, s30, s31, s32, s33, s34, s35, s36, s37, s38, s39] [(.int i8), (.ref o6)])) rfl rfl (hb hby at_92) _ ?_
  refine XS.bipush X0.here hx rfl (hb hby at_93) ?_
  refine XS.icmpYes X0.here hx rfl (pc0 := 95) (pc' := 102) rfl (hb hby at_95) rfl (feq hc95).2 (by decide) (by decide) ?_
  refine XS.iconst X0.here hx rfl (hb hby at_102) ?_
  refine XS.istore X0.here hx rfl (hb hby at_103) rfl (l' := #[s0, s1, s2, s3, s4, s5, .val (.ref o6), s7, .val (.int i8), .val (.int i9), .val (.int 0), s11, s12, s13, s14, s15, s16, s17, s18, s19, s20, s21, s22, s23, s24, s25, s26, s27, s28, s29, s30, s31, s32, s33, s34, s35, s36, s37, s38, s39]) (os0_103_own_C2d hs10) ?_
  refine XS.iload X0.here hx rfl (hb hby at_105) rfl ?_
  refine XS.iload X0.here hx rfl (hb hby at_107) rfl ?_
  refine XS.icmpNo X0.here hx rfl (hb hby at_109) rfl (tlt hc109).2.1 ?_
  refine XS.aload X0.here hx rfl (hb hby at_112) rfl rfl ?_
  refine XS.iload X0.here hx rfl (hb hby at_114) rfl ?_
  refine X0.caload hx (j := i8) (v := (.int w8)) (by rw [e0]; exact Ar_o6.1) (State.isArrayOf_alike hZ.alike Ar_o6.2.1) Ar_o6.2.2 hin116 hat116 (g := (mkF m 116 #[s0, s1, s2, s3, s4, s5, .val (.ref o6), s7, .val (.int i8), .val (.int i9), .val (.int 0), s11, s12, s13, s14, s15, s16, s17, s18, s19, s20, s21, s22, s23, s24, s25, s26, s27, s28, s29, s30, s31, s32, s33, s34, s35, s36, s37, s38, s39] [(.int i8), (.ref o6)])) rfl rfl (hb hby at_116) _ ?_
  refine XS.bipush X0.here hx rfl (hb hby at_117) ?_
  refine XS.icmpNo X0.here hx rfl (hb hby at_119) rfl (feq hc119).1 ?_
  refine XS.aload X0.here hx rfl (hb hby at_122) rfl rfl ?_
  refine XS.iload X0.here hx rfl (hb hby at_124) rfl ?_
  refine X0.caload hx (j := i8) (v := (.int w9)) (by rw [e0]; exact Ar_o6.1) (State.isArrayOf_alike hZ.alike Ar_o6.2.1) Ar_o6.2.2 hin126 hat126 (g := (mkF m 126 #[s0, s1, s2, s3, s4, s5, .val (.ref o6), s7, .val (.int i8), .val (.int i9), .val (.int 0), s11, s12, s13, s14, s15, s16, s17, s18, s19, s20, s21, s22, s23, s24, s25, s26, s27, s28, s29, s30, s31, s32, s33, s34, s35, s36, s37, s38, s39] [(.int i8), (.ref o6)])) rfl rfl (hb hby at_126) _ ?_
  refine XS.bipush X0.here hx rfl (hb hby at_127) ?_
  refine XS.icmpYes X0.here hx rfl (pc0 := 129) (pc' := 136) rfl (hb hby at_129) rfl (feq hc129).2 (by decide) (by decide) ?_
  refine XS.iconst X0.here hx rfl (hb hby at_136) ?_
  refine XS.istore X0.here hx rfl (hb hby at_137) rfl (l' := #[s0, s1, s2, s3, s4, s5, .val (.ref o6), s7, .val (.int i8), .val (.int i9), .val (.int 0), .val (.int 0), s12, s13, s14, s15, s16, s17, s18, s19, s20, s21, s22, s23, s24, s25, s26, s27, s28, s29, s30, s31, s32, s33, s34, s35, s36, s37, s38, s39]) (os0_137_own_C2d hs11) ?_
  refine XS.iload X0.here hx rfl (hb hby at_139) rfl ?_
  refine XS.ifYes X0.here hx rfl (pc0 := 141) (pc' := 151) rfl (hb hby at_141) rfl ((if0 _ _).trans (teq (rfl : (0 : Int32) = (0 : Int32))).1) (by decide) (by decide) ?_
  refine XS.iload X0.here hx rfl (hb hby at_151) rfl ?_
  refine XS.istore X0.here hx rfl (hb hby at_153) rfl (l' := #[s0, s1, s2, s3, s4, s5, .val (.ref o6), s7, .val (.int i8), .val (.int i9), .val (.int 0), .val (.int 0), .val (.int i8), s13, s14, s15, s16, s17, s18, s19, s20, s21, s22, s23, s24, s25, s26, s27, s28, s29, s30, s31, s32, s33, s34, s35, s36, s37, s38, s39]) (os0_153_own_C2d hs12) ?_
  exact kt
theorem own_C {p : Program} {l : Launch} {e : Env} {s : State} {m : MethodId} {args : Array Value} {below : List Frame} {meth : Method} {c : Code} {T0 : State} {locs : List Loc} {cells slots : Nat} {Z : State} {a0 : Array Value} {h0 : Heap} (s0 s1 s2 s3 s4 s5 s7 s13 s14 s15 s16 s17 s18 s19 s20 s21 s22 s23 s24 s25 s26 s27 s28 s29 s30 s31 s32 s33 s34 s35 s36 s37 s38 s39 : Slot) (o6 : Addr) (cs : List Int32) (a b : Nat) (kc : ClassId)
    (X0 : Stand p l e room_1 s m args below meth c T0 locs cells slots) (hx : p.tables.exec = Jvm.exec) (hZ : Z.Warmed39 s.vm) (hw : ∀ d ∈ tables_1, d.before a0 Z = true) (hby : c.code = code) (hml : c.maxLocals = 40) (hown : s.vm.findClass "com/example/bandmark/bandmark/PlainDecimalReadPinLaw" = some m.cls) (e0 : T0.heap = h0) (hab : a ≤ b) (hb5 : b ≤ 5) (hcs : cs.length = 5) (C : Arv Z h0 o6 kc .char (5 : Int32) (cs.map Value.int) (.int 0)) :
    ∃ (T' : State) (sg : Bool), Stand p l e room_1 s m args below meth c T' locs cells slots ∧ T'.heap = h0 ∧ ∀ target, Steps p.tables e below (T'.setTop (mkF m 155 #[s0, s1, s2, s3, s4, s5, .val (.ref o6), s7, .val (.int (Int32.ofNat a)), .val (.int (Int32.ofNat b)), .val (.int (own_b (own_neg (fun j => cs.getD j 0) a b))), .val (.int (own_b sg)), .val (.int (Int32.ofNat (own_start (fun j => cs.getD j 0) a b))), s13, s14, s15, s16, s17, s18, s19, s20, s21, s22, s23, s24, s25, s26, s27, s28, s29, s30, s31, s32, s33, s34, s35, s36, s37, s38, s39] [])) target → Steps p.tables e below (T0.setTop (mkF m 81 #[s0, s1, s2, s3, s4, s5, .val (.ref o6), s7, .val (.int (Int32.ofNat a)), .val (.int (Int32.ofNat b)), .unset, .unset, .unset, s13, s14, s15, s16, s17, s18, s19, s20, s21, s22, s23, s24, s25, s26, s27, s28, s29, s30, s31, s32, s33, s34, s35, s36, s37, s38, s39] [])) target := by
  by_cases hlt : a < b
  · have hl : Int32.ofNat a < Int32.ofNat b := (own_lt a b (by omega) (by omega)).mpr hlt
    obtain ⟨cl, Ar, qc, S, N, H, G⟩ := C
    have x1 : (Int32.ofNat a).toNatClampNeg = a := own_cl a (by omega)
    have hI : ¬ (Int32.ofNat a < 0 ∨ cl.slots.size ≤ (Int32.ofNat a).toNatClampNeg) := fun q => q.elim (own_nn a (by omega)) (by rw [x1, S]; show ¬ 5 ≤ a; omega)
    have hA : cl.slots[(Int32.ofNat a).toNatClampNeg]? = some (.int (cs.getD a 0)) := by
      rw [x1, H a (by rw [S]; show a < 5; omega)]
      simp [List.getD_eq_getElem?_getD, List.getElem?_eq_getElem (show a < cs.length by omega)]
    by_cases h45 : cs.getD a 0 = 45
    · have q : own_start (fun j => cs.getD j 0) a b = a + 1 := if_pos ⟨hlt, Or.inl h45⟩
      have q2 : own_neg (fun j => cs.getD j 0) a b = true := decide_eq_true ⟨hlt, h45⟩
      rw [q, q2, ← own_succ a (by omega)]
      obtain ⟨T1, X1, e1, st1⟩ := own_C2b s0 s1 s2 s3 s4 s5 o6 s7 (Int32.ofNat a) (Int32.ofNat b) .unset .unset .unset s13 s14 s15 s16 s17 s18 s19 s20 s21 s22 s23 s24 s25 s26 s27 s28 s29 s30 s31 s32 s33 s34 s35 s36 s37 s38 s39 (cs.getD a 0) cl (cs.getD a 0) X0 hx hZ hw hby hml hown e0 Ar hI hA One.u hI hA One.u One.u hl h45 hl h45 (by decide)
      exact ⟨T1, true, X1, e1, st1⟩
    · have q2 : own_neg (fun j => cs.getD j 0) a b = false := decide_eq_false (fun z => h45 z.2)
      by_cases h43 : cs.getD a 0 = 43
      · have q : own_start (fun j => cs.getD j 0) a b = a + 1 := if_pos ⟨hlt, Or.inr h43⟩
        rw [q, q2, ← own_succ a (by omega)]
        obtain ⟨T1, X1, e1, st1⟩ := own_C2c s0 s1 s2 s3 s4 s5 o6 s7 (Int32.ofNat a) (Int32.ofNat b) .unset .unset .unset s13 s14 s15 s16 s17 s18 s19 s20 s21 s22 s23 s24 s25 s26 s27 s28 s29 s30 s31 s32 s33 s34 s35 s36 s37 s38 s39 (cs.getD a 0) cl (cs.getD a 0) (cs.getD a 0) X0 hx hZ hw hby hml hown e0 Ar hI hA One.u hI hA hI hA One.u One.u hl h45 hl h45 h43 (by decide)
        exact ⟨T1, true, X1, e1, st1⟩
      · have q : own_start (fun j => cs.getD j 0) a b = a := if_neg (fun z => z.2.elim h45 h43)
        rw [q, q2]
        obtain ⟨T1, X1, e1, st1⟩ := own_C2d s0 s1 s2 s3 s4 s5 o6 s7 (Int32.ofNat a) (Int32.ofNat b) .unset .unset .unset s13 s14 s15 s16 s17 s18 s19 s20 s21 s22 s23 s24 s25 s26 s27 s28 s29 s30 s31 s32 s33 s34 s35 s36 s37 s38 s39 (cs.getD a 0) cl (cs.getD a 0) (cs.getD a 0) X0 hx hZ hw hby hml hown e0 Ar hI hA One.u hI hA hI hA One.u One.u hl h45 hl h45 h43
        exact ⟨T1, false, X1, e1, st1⟩
  · have hl : ¬ Int32.ofNat a < Int32.ofNat b := fun q => hlt ((own_lt a b (by omega) (by omega)).mp q)
    have q : own_start (fun j => cs.getD j 0) a b = a := if_neg (fun z => hlt z.1)
    have q2 : own_neg (fun j => cs.getD j 0) a b = false := decide_eq_false (fun z => hlt z.1)
    rw [q, q2]
    obtain ⟨T1, X1, e1, st1⟩ := own_C2a s0 s1 s2 s3 s4 s5 (.val (.ref o6)) s7 (Int32.ofNat a) (Int32.ofNat b) .unset .unset .unset s13 s14 s15 s16 s17 s18 s19 s20 s21 s22 s23 s24 s25 s26 s27 s28 s29 s30 s31 s32 s33 s34 s35 s36 s37 s38 s39 X0 hx hZ hw hby hml hown e0 One.u One.u One.u hl hl
    exact ⟨T1, false, X1, e1, st1⟩
theorem pd_0_7 : parseMethodDescriptor "([CIII)I" = some ⟨[(.array .char), .int, .int, .int], some .int⟩ := by decide +kernel
theorem os0_165_own_D0 {s0 : Slot} {s1 : Slot} {s2 : Slot} {s3 : Slot} {s4 : Slot} {s5 : Slot} {z6 : Value} {s7 : Slot} {s8 : Slot} {z9 : Value} {s10 : Slot} {s11 : Slot} {z12 : Value} {s13 : Slot} {s14 : Slot} {s15 : Slot} {s16 : Slot} {s17 : Slot} {s18 : Slot} {s19 : Slot} {s20 : Slot} {s21 : Slot} {s22 : Slot} {s23 : Slot} {s24 : Slot} {s25 : Slot} {s26 : Slot} {s27 : Slot} {s28 : Slot} {s29 : Slot} {s30 : Slot} {s31 : Slot} {s32 : Slot} {s33 : Slot} {s34 : Slot} {s35 : Slot} {s36 : Slot} {s37 : Slot} {s38 : Slot} {s39 : Slot} {v : Int32} (h : One s13) : storeLocals #[s0, s1, s2, s3, s4, s5, .val z6, s7, s8, .val z9, s10, s11, .val z12, s13, s14, s15, s16, s17, s18, s19, s20, s21, s22, s23, s24, s25, s26, s27, s28, s29, s30, s31, s32, s33, s34, s35, s36, s37, s38, s39] 13 (.int v) = some #[s0, s1, s2, s3, s4, s5, .val z6, s7, s8, .val z9, s10, s11, .val z12, .val (.int v), s14, s15, s16, s17, s18, s19, s20, s21, s22, s23, s24, s25, s26, s27, s28, s29, s30, s31, s32, s33, s34, s35, s36, s37, s38, s39] := by
  rcases h with rfl | ⟨w, rfl, hw⟩
  · rfl
  · cases w <;> first | rfl | (simp [Value.category] at hw)
set_option maxRecDepth 65536 in
set_option maxHeartbeats 40000000 in
theorem own_D0 {p : Program} {l : Launch} {e : Env} {s : State} {m : MethodId} {args : Array Value} {below : List Frame} {meth : Method} {c : Code} {T0 : State} {locs : List Loc} {cells slots : Nat} {Z : State} {a0 : Array Value} {h0 : Heap} (s0 : Slot) (s1 : Slot) (s2 : Slot) (s3 : Slot) (s4 : Slot) (s5 : Slot) (o6 : Addr) (s7 : Slot) (s8 : Slot) (i9 : Int32) (s10 : Slot) (s11 : Slot) (i12 : Int32) (s13 : Slot) (s14 : Slot) (s15 : Slot) (s16 : Slot) (s17 : Slot) (s18 : Slot) (s19 : Slot) (s20 : Slot) (s21 : Slot) (s22 : Slot) (s23 : Slot) (s24 : Slot) (s25 : Slot) (s26 : Slot) (s27 : Slot) (s28 : Slot) (s29 : Slot) (s30 : Slot) (s31 : Slot) (s32 : Slot) (s33 : Slot) (s34 : Slot) (s35 : Slot) (s36 : Slot) (s37 : Slot) (s38 : Slot) (s39 : Slot) (cs : List Int32) (st b : Nat) (kc : ClassId) (n0 : Nat)
    (X0 : Stand p l e room_1 s m args below meth c T0 locs cells slots) (hx : p.tables.exec = Jvm.exec) (hZ : Z.Warmed39 s.vm) (hw : ∀ d ∈ tables_1, d.before a0 Z = true) (hby : c.code = code) (hml : c.maxLocals = 40) (hown : s.vm.findClass "com/example/bandmark/bandmark/PlainDecimalReadPinLaw" = some m.cls) (e0 : T0.heap = h0) (h12 : i12 = Int32.ofNat st) (h9 : i9 = Int32.ofNat b) (hcs : cs.length = 5) (hs : st < 32) (hb3 : b < 32) (C : Arv Z h0 o6 kc .char (5 : Int32) (cs.map Value.int) (.int 0)) (Z0 : n0 ≤ h0.size) (N0 : Fr n0 locs) (hcl : cells ≤ room_1.cells) (hsl : slots ≤ room_1.slots) (hs13 : One s13) :
    ∃ (T' : State) (locs' : List Loc), Stand p l e room_1 s m args below meth c T' locs' cells slots ∧ Fr n0 locs' ∧ T'.heap = h0 ∧
      ∀ target, Steps p.tables e below (T'.setTop (mkF m 167 #[s0, s1, s2, s3, s4, s5, .val (.ref o6), s7, s8, .val (.int i9), s10, s11, .val (.int i12), .val (.int (own_b (own_vd cs 0 st b))), s14, s15, s16, s17, s18, s19, s20, s21, s22, s23, s24, s25, s26, s27, s28, s29, s30, s31, s32, s33, s34, s35, s36, s37, s38, s39] [])) target → Steps p.tables e below (T0.setTop (mkF m 155 #[s0, s1, s2, s3, s4, s5, .val (.ref o6), s7, s8, .val (.int i9), s10, s11, .val (.int i12), s13, s14, s15, s16, s17, s18, s19, s20, s21, s22, s23, s24, s25, s26, s27, s28, s29, s30, s31, s32, s33, s34, s35, s36, s37, s38, s39] [])) target := by
  obtain ⟨_, _, ⟨T7, L7, k7, n7⟩, -, X7, ⟨Lc7, hQ7, l7, y7, z7⟩, st7⟩ := Jvm.LawKit.callS X0 hx (y := (⟨"com/example/bandmark/bandmark/PlainDecimalReadPinLaw", "dig", "([CIII)I"⟩ : MethodName)) hown (mvT hZ (own_W hw 36 rfl)) (mvT hZ (own_W hw 37 rfl)) (mvT hZ (own_W hw 3 rfl)) (mvT hZ (own_W hw 38 rfl)) (by decide) (backOf (W := 0) (r8w l Z a0 hw [] o6 (0 : Int32) i12 i9 cs 0 st b kc h0 n0 Z0 rfl h12 h9 hcs (by decide) hs hb3 C) hZ (own_W hw 38 rfl) (own_W hw 3 rfl) (by decide) (by decide)) (g := (mkF m 162 #[s0, s1, s2, s3, s4, s5, .val (.ref o6), s7, s8, .val (.int i9), s10, s11, .val (.int i12), s13, s14, s15, s16, s17, s18, s19, s20, s21, s22, s23, s24, s25, s26, s27, s28, s29, s30, s31, s32, s33, s34, s35, s36, s37, s38, s39] [(.int i9), (.int i12), (.int 0), (.ref o6)])) rfl (by rw [hml]; rfl) (argsL := [(.ref o6), (.int 0), (.int i12), (.int i9)]) (rest := []) (lenOf pd_0_7 rfl) rfl (by show 2 * 0 + _ ≤ _; exact Nat.le_of_eq rfl) (hb hby at_162) (fun _ _ => ⟨rfl, e0, hcl, hsl⟩)
  dsimp only [Pt.U, Pt.locs, Pt.cells, Pt.slots] at X7 l7 y7 z7 st7 hQ7
  subst l7 y7 z7
  obtain ⟨rfl, N7q, e7⟩ := hQ7
  have N7 := Fr.app N0 N7q
  refine ⟨T7, _, X7, N7, e7, fun target kt => ?_⟩
  refine XS.aload X0.here hx rfl (hb hby at_155) rfl rfl ?_
  refine XS.iconst X0.here hx rfl (hb hby at_157) ?_
  refine XS.iload X0.here hx rfl (hb hby at_158) rfl ?_
  refine XS.iload X0.here hx rfl (hb hby at_160) rfl ?_
  refine st7 _ ?_
  refine XS.istore X7.here hx rfl (hb hby at_165) rfl (l' := #[s0, s1, s2, s3, s4, s5, .val (.ref o6), s7, s8, .val (.int i9), s10, s11, .val (.int i12), .val (.int (own_b (own_vd cs 0 st b))), s14, s15, s16, s17, s18, s19, s20, s21, s22, s23, s24, s25, s26, s27, s28, s29, s30, s31, s32, s33, s34, s35, s36, s37, s38, s39]) (os0_165_own_D0 hs13) ?_
  exact kt
theorem os0_177_own_D1 {s0 : Slot} {s1 : Slot} {s2 : Slot} {s3 : Slot} {s4 : Slot} {s5 : Slot} {z6 : Value} {s7 : Slot} {s8 : Slot} {z9 : Value} {s10 : Slot} {s11 : Slot} {z12 : Value} {s13 : Slot} {s14 : Slot} {s15 : Slot} {s16 : Slot} {s17 : Slot} {s18 : Slot} {s19 : Slot} {s20 : Slot} {s21 : Slot} {s22 : Slot} {s23 : Slot} {s24 : Slot} {s25 : Slot} {s26 : Slot} {s27 : Slot} {s28 : Slot} {s29 : Slot} {s30 : Slot} {s31 : Slot} {s32 : Slot} {s33 : Slot} {s34 : Slot} {s35 : Slot} {s36 : Slot} {s37 : Slot} {s38 : Slot} {s39 : Slot} {v : Int32} (h : One s14) : storeLocals #[s0, s1, s2, s3, s4, s5, .val z6, s7, s8, .val z9, s10, s11, .val z12, s13, s14, s15, s16, s17, s18, s19, s20, s21, s22, s23, s24, s25, s26, s27, s28, s29, s30, s31, s32, s33, s34, s35, s36, s37, s38, s39] 14 (.int v) = some #[s0, s1, s2, s3, s4, s5, .val z6, s7, s8, .val z9, s10, s11, .val z12, s13, .val (.int v), s15, s16, s17, s18, s19, s20, s21, s22, s23, s24, s25, s26, s27, s28, s29, s30, s31, s32, s33, s34, s35, s36, s37, s38, s39] := by
  rcases h with rfl | ⟨w, rfl, hw⟩
  · rfl
  · cases w <;> first | rfl | (simp [Value.category] at hw)
set_option maxRecDepth 65536 in
set_option maxHeartbeats 40000000 in
theorem own_D1 {p : Program} {l : Launch} {e : Env} {s : State} {m : MethodId} {args : Array Value} {below : List Frame} {meth : Method} {c : Code} {T0 : State} {locs : List Loc} {cells slots : Nat} {Z : State} {a0 : Array Value} {h0 : Heap} (s0 : Slot) (s1 : Slot) (s2 : Slot) (s3 : Slot) (s4 : Slot) (s5 : Slot) (o6 : Addr) (s7 : Slot) (s8 : Slot) (i9 : Int32) (s10 : Slot) (s11 : Slot) (i12 : Int32) (s13 : Slot) (s14 : Slot) (s15 : Slot) (s16 : Slot) (s17 : Slot) (s18 : Slot) (s19 : Slot) (s20 : Slot) (s21 : Slot) (s22 : Slot) (s23 : Slot) (s24 : Slot) (s25 : Slot) (s26 : Slot) (s27 : Slot) (s28 : Slot) (s29 : Slot) (s30 : Slot) (s31 : Slot) (s32 : Slot) (s33 : Slot) (s34 : Slot) (s35 : Slot) (s36 : Slot) (s37 : Slot) (s38 : Slot) (s39 : Slot) (cs : List Int32) (st b : Nat) (kc : ClassId) (n0 : Nat)
    (X0 : Stand p l e room_1 s m args below meth c T0 locs cells slots) (hx : p.tables.exec = Jvm.exec) (hZ : Z.Warmed39 s.vm) (hw : ∀ d ∈ tables_1, d.before a0 Z = true) (hby : c.code = code) (hml : c.maxLocals = 40) (hown : s.vm.findClass "com/example/bandmark/bandmark/PlainDecimalReadPinLaw" = some m.cls) (e0 : T0.heap = h0) (h12 : i12 = Int32.ofNat st) (h9 : i9 = Int32.ofNat b) (hcs : cs.length = 5) (hs : st < 32) (hb3 : b < 32) (C : Arv Z h0 o6 kc .char (5 : Int32) (cs.map Value.int) (.int 0)) (Z0 : n0 ≤ h0.size) (N0 : Fr n0 locs) (hcl : cells ≤ room_1.cells) (hsl : slots ≤ room_1.slots) (hs14 : One s14) :
    ∃ (T' : State) (locs' : List Loc), Stand p l e room_1 s m args below meth c T' locs' cells slots ∧ Fr n0 locs' ∧ T'.heap = h0 ∧
      ∀ target, Steps p.tables e below (T'.setTop (mkF m 179 #[s0, s1, s2, s3, s4, s5, .val (.ref o6), s7, s8, .val (.int i9), s10, s11, .val (.int i12), s13, .val (.int (own_b (own_vd cs 1 st b))), s15, s16, s17, s18, s19, s20, s21, s22, s23, s24, s25, s26, s27, s28, s29, s30, s31, s32, s33, s34, s35, s36, s37, s38, s39] [])) target → Steps p.tables e below (T0.setTop (mkF m 167 #[s0, s1, s2, s3, s4, s5, .val (.ref o6), s7, s8, .val (.int i9), s10, s11, .val (.int i12), s13, s14, s15, s16, s17, s18, s19, s20, s21, s22, s23, s24, s25, s26, s27, s28, s29, s30, s31, s32, s33, s34, s35, s36, s37, s38, s39] [])) target := by
  obtain ⟨_, _, ⟨T7, L7, k7, n7⟩, -, X7, ⟨Lc7, hQ7, l7, y7, z7⟩, st7⟩ := Jvm.LawKit.callS X0 hx (y := (⟨"com/example/bandmark/bandmark/PlainDecimalReadPinLaw", "dig", "([CIII)I"⟩ : MethodName)) hown (mvT hZ (own_W hw 36 rfl)) (mvT hZ (own_W hw 37 rfl)) (mvT hZ (own_W hw 3 rfl)) (mvT hZ (own_W hw 38 rfl)) (by decide) (backOf (W := 0) (r8w l Z a0 hw [] o6 (1 : Int32) i12 i9 cs 1 st b kc h0 n0 Z0 rfl h12 h9 hcs (by decide) hs hb3 C) hZ (own_W hw 38 rfl) (own_W hw 3 rfl) (by decide) (by decide)) (g := (mkF m 174 #[s0, s1, s2, s3, s4, s5, .val (.ref o6), s7, s8, .val (.int i9), s10, s11, .val (.int i12), s13, s14, s15, s16, s17, s18, s19, s20, s21, s22, s23, s24, s25, s26, s27, s28, s29, s30, s31, s32, s33, s34, s35, s36, s37, s38, s39] [(.int i9), (.int i12), (.int 1), (.ref o6)])) rfl (by rw [hml]; rfl) (argsL := [(.ref o6), (.int 1), (.int i12), (.int i9)]) (rest := []) (lenOf pd_0_7 rfl) rfl (by show 2 * 0 + _ ≤ _; exact Nat.le_of_eq rfl) (hb hby at_174) (fun _ _ => ⟨rfl, e0, hcl, hsl⟩)
  dsimp only [Pt.U, Pt.locs, Pt.cells, Pt.slots] at X7 l7 y7 z7 st7 hQ7
  subst l7 y7 z7
  obtain ⟨rfl, N7q, e7⟩ := hQ7
  have N7 := Fr.app N0 N7q
  refine ⟨T7, _, X7, N7, e7, fun target kt => ?_⟩
  refine XS.aload X0.here hx rfl (hb hby at_167) rfl rfl ?_
  refine XS.iconst X0.here hx rfl (hb hby at_169) ?_
  refine XS.iload X0.here hx rfl (hb hby at_170) rfl ?_
  refine XS.iload X0.here hx rfl (hb hby at_172) rfl ?_
  refine st7 _ ?_
  refine XS.istore X7.here hx rfl (hb hby at_177) rfl (l' := #[s0, s1, s2, s3, s4, s5, .val (.ref o6), s7, s8, .val (.int i9), s10, s11, .val (.int i12), s13, .val (.int (own_b (own_vd cs 1 st b))), s15, s16, s17, s18, s19, s20, s21, s22, s23, s24, s25, s26, s27, s28, s29, s30, s31, s32, s33, s34, s35, s36, s37, s38, s39]) (os0_177_own_D1 hs14) ?_
  exact kt
theorem os0_189_own_D2 {s0 : Slot} {s1 : Slot} {s2 : Slot} {s3 : Slot} {s4 : Slot} {s5 : Slot} {z6 : Value} {s7 : Slot} {s8 : Slot} {z9 : Value} {s10 : Slot} {s11 : Slot} {z12 : Value} {s13 : Slot} {s14 : Slot} {s15 : Slot} {s16 : Slot} {s17 : Slot} {s18 : Slot} {s19 : Slot} {s20 : Slot} {s21 : Slot} {s22 : Slot} {s23 : Slot} {s24 : Slot} {s25 : Slot} {s26 : Slot} {s27 : Slot} {s28 : Slot} {s29 : Slot} {s30 : Slot} {s31 : Slot} {s32 : Slot} {s33 : Slot} {s34 : Slot} {s35 : Slot} {s36 : Slot} {s37 : Slot} {s38 : Slot} {s39 : Slot} {v : Int32} (h : One s15) : storeLocals #[s0, s1, s2, s3, s4, s5, .val z6, s7, s8, .val z9, s10, s11, .val z12, s13, s14, s15, s16, s17, s18, s19, s20, s21, s22, s23, s24, s25, s26, s27, s28, s29, s30, s31, s32, s33, s34, s35, s36, s37, s38, s39] 15 (.int v) = some #[s0, s1, s2, s3, s4, s5, .val z6, s7, s8, .val z9, s10, s11, .val z12, s13, s14, .val (.int v), s16, s17, s18, s19, s20, s21, s22, s23, s24, s25, s26, s27, s28, s29, s30, s31, s32, s33, s34, s35, s36, s37, s38, s39] := by
  rcases h with rfl | ⟨w, rfl, hw⟩
  · rfl
  · cases w <;> first | rfl | (simp [Value.category] at hw)
set_option maxRecDepth 65536 in
set_option maxHeartbeats 40000000 in
theorem own_D2 {p : Program} {l : Launch} {e : Env} {s : State} {m : MethodId} {args : Array Value} {below : List Frame} {meth : Method} {c : Code} {T0 : State} {locs : List Loc} {cells slots : Nat} {Z : State} {a0 : Array Value} {h0 : Heap} (s0 : Slot) (s1 : Slot) (s2 : Slot) (s3 : Slot) (s4 : Slot) (s5 : Slot) (o6 : Addr) (s7 : Slot) (s8 : Slot) (i9 : Int32) (s10 : Slot) (s11 : Slot) (i12 : Int32) (s13 : Slot) (s14 : Slot) (s15 : Slot) (s16 : Slot) (s17 : Slot) (s18 : Slot) (s19 : Slot) (s20 : Slot) (s21 : Slot) (s22 : Slot) (s23 : Slot) (s24 : Slot) (s25 : Slot) (s26 : Slot) (s27 : Slot) (s28 : Slot) (s29 : Slot) (s30 : Slot) (s31 : Slot) (s32 : Slot) (s33 : Slot) (s34 : Slot) (s35 : Slot) (s36 : Slot) (s37 : Slot) (s38 : Slot) (s39 : Slot) (cs : List Int32) (st b : Nat) (kc : ClassId) (n0 : Nat)
    (X0 : Stand p l e room_1 s m args below meth c T0 locs cells slots) (hx : p.tables.exec = Jvm.exec) (hZ : Z.Warmed39 s.vm) (hw : ∀ d ∈ tables_1, d.before a0 Z = true) (hby : c.code = code) (hml : c.maxLocals = 40) (hown : s.vm.findClass "com/example/bandmark/bandmark/PlainDecimalReadPinLaw" = some m.cls) (e0 : T0.heap = h0) (h12 : i12 = Int32.ofNat st) (h9 : i9 = Int32.ofNat b) (hcs : cs.length = 5) (hs : st < 32) (hb3 : b < 32) (C : Arv Z h0 o6 kc .char (5 : Int32) (cs.map Value.int) (.int 0)) (Z0 : n0 ≤ h0.size) (N0 : Fr n0 locs) (hcl : cells ≤ room_1.cells) (hsl : slots ≤ room_1.slots) (hs15 : One s15) :
    ∃ (T' : State) (locs' : List Loc), Stand p l e room_1 s m args below meth c T' locs' cells slots ∧ Fr n0 locs' ∧ T'.heap = h0 ∧
      ∀ target, Steps p.tables e below (T'.setTop (mkF m 191 #[s0, s1, s2, s3, s4, s5, .val (.ref o6), s7, s8, .val (.int i9), s10, s11, .val (.int i12), s13, s14, .val (.int (own_b (own_vd cs 2 st b))), s16, s17, s18, s19, s20, s21, s22, s23, s24, s25, s26, s27, s28, s29, s30, s31, s32, s33, s34, s35, s36, s37, s38, s39] [])) target → Steps p.tables e below (T0.setTop (mkF m 179 #[s0, s1, s2, s3, s4, s5, .val (.ref o6), s7, s8, .val (.int i9), s10, s11, .val (.int i12), s13, s14, s15, s16, s17, s18, s19, s20, s21, s22, s23, s24, s25, s26, s27, s28, s29, s30, s31, s32, s33, s34, s35, s36, s37, s38, s39] [])) target := by
  obtain ⟨_, _, ⟨T7, L7, k7, n7⟩, -, X7, ⟨Lc7, hQ7, l7, y7, z7⟩, st7⟩ := Jvm.LawKit.callS X0 hx (y := (⟨"com/example/bandmark/bandmark/PlainDecimalReadPinLaw", "dig", "([CIII)I"⟩ : MethodName)) hown (mvT hZ (own_W hw 36 rfl)) (mvT hZ (own_W hw 37 rfl)) (mvT hZ (own_W hw 3 rfl)) (mvT hZ (own_W hw 38 rfl)) (by decide) (backOf (W := 0) (r8w l Z a0 hw [] o6 (2 : Int32) i12 i9 cs 2 st b kc h0 n0 Z0 rfl h12 h9 hcs (by decide) hs hb3 C) hZ (own_W hw 38 rfl) (own_W hw 3 rfl) (by decide) (by decide)) (g := (mkF m 186 #[s0, s1, s2, s3, s4, s5, .val (.ref o6), s7, s8, .val (.int i9), s10, s11, .val (.int i12), s13, s14, s15, s16, s17, s18, s19, s20, s21, s22, s23, s24, s25, s26, s27, s28, s29, s30, s31, s32, s33, s34, s35, s36, s37, s38, s39] [(.int i9), (.int i12), (.int 2), (.ref o6)])) rfl (by rw [hml]; rfl) (argsL := [(.ref o6), (.int 2), (.int i12), (.int i9)]) (rest := []) (lenOf pd_0_7 rfl) rfl (by show 2 * 0 + _ ≤ _; exact Nat.le_of_eq rfl) (hb hby at_186) (fun _ _ => ⟨rfl, e0, hcl, hsl⟩)
  dsimp only [Pt.U, Pt.locs, Pt.cells, Pt.slots] at X7 l7 y7 z7 st7 hQ7
  subst l7 y7 z7
  obtain ⟨rfl, N7q, e7⟩ := hQ7
  have N7 := Fr.app N0 N7q
  refine ⟨T7, _, X7, N7, e7, fun target kt => ?_⟩
  refine XS.aload X0.here hx rfl (hb hby at_179) rfl rfl ?_
  refine XS.iconst X0.here hx rfl (hb hby at_181) ?_
  refine XS.iload X0.here hx rfl (hb hby at_182) rfl ?_
  refine XS.iload X0.here hx rfl (hb hby at_184) rfl ?_
  refine st7 _ ?_
  refine XS.istore X7.here hx rfl (hb hby at_189) rfl (l' := #[s0, s1, s2, s3, s4, s5, .val (.ref o6), s7, s8, .val (.int i9), s10, s11, .val (.int i12), s13, s14, .val (.int (own_b (own_vd cs 2 st b))), s16, s17, s18, s19, s20, s21, s22, s23, s24, s25, s26, s27, s28, s29, s30, s31, s32, s33, s34, s35, s36, s37, s38, s39]) (os0_189_own_D2 hs15) ?_
  exact kt
theorem os0_201_own_D3 {s0 : Slot} {s1 : Slot} {s2 : Slot} {s3 : Slot} {s4 : Slot} {s5 : Slot} {z6 : Value} {s7 : Slot} {s8 : Slot} {z9 : Value} {s10 : Slot} {s11 : Slot} {z12 : Value} {s13 : Slot} {s14 : Slot} {s15 : Slot} {s16 : Slot} {s17 : Slot} {s18 : Slot} {s19 : Slot} {s20 : Slot} {s21 : Slot} {s22 : Slot} {s23 : Slot} {s24 : Slot} {s25 : Slot} {s26 : Slot} {s27 : Slot} {s28 : Slot} {s29 : Slot} {s30 : Slot} {s31 : Slot} {s32 : Slot} {s33 : Slot} {s34 : Slot} {s35 : Slot} {s36 : Slot} {s37 : Slot} {s38 : Slot} {s39 : Slot} {v : Int32} (h : One s16) : storeLocals #[s0, s1, s2, s3, s4, s5, .val z6, s7, s8, .val z9, s10, s11, .val z12, s13, s14, s15, s16, s17, s18, s19, s20, s21, s22, s23, s24, s25, s26, s27, s28, s29, s30, s31, s32, s33, s34, s35, s36, s37, s38, s39] 16 (.int v) = some #[s0, s1, s2, s3, s4, s5, .val z6, s7, s8, .val z9, s10, s11, .val z12, s13, s14, s15, .val (.int v), s17, s18, s19, s20, s21, s22, s23, s24, s25, s26, s27, s28, s29, s30, s31, s32, s33, s34, s35, s36, s37, s38, s39] := by
  rcases h with rfl | ⟨w, rfl, hw⟩
  · rfl
  · cases w <;> first | rfl | (simp [Value.category] at hw)
set_option maxRecDepth 65536 in
set_option maxHeartbeats 40000000 in
theorem own_D3 {p : Program} {l : Launch} {e : Env} {s : State} {m : MethodId} {args : Array Value} {below : List Frame} {meth : Method} {c : Code} {T0 : State} {locs : List Loc} {cells slots : Nat} {Z : State} {a0 : Array Value} {h0 : Heap} (s0 : Slot) (s1 : Slot) (s2 : Slot) (s3 : Slot) (s4 : Slot) (s5 : Slot) (o6 : Addr) (s7 : Slot) (s8 : Slot) (i9 : Int32) (s10 : Slot) (s11 : Slot) (i12 : Int32) (s13 : Slot) (s14 : Slot) (s15 : Slot) (s16 : Slot) (s17 : Slot) (s18 : Slot) (s19 : Slot) (s20 : Slot) (s21 : Slot) (s22 : Slot) (s23 : Slot) (s24 : Slot) (s25 : Slot) (s26 : Slot) (s27 : Slot) (s28 : Slot) (s29 : Slot) (s30 : Slot) (s31 : Slot) (s32 : Slot) (s33 : Slot) (s34 : Slot) (s35 : Slot) (s36 : Slot) (s37 : Slot) (s38 : Slot) (s39 : Slot) (cs : List Int32) (st b : Nat) (kc : ClassId) (n0 : Nat)
    (X0 : Stand p l e room_1 s m args below meth c T0 locs cells slots) (hx : p.tables.exec = Jvm.exec) (hZ : Z.Warmed39 s.vm) (hw : ∀ d ∈ tables_1, d.before a0 Z = true) (hby : c.code = code) (hml : c.maxLocals = 40) (hown : s.vm.findClass "com/example/bandmark/bandmark/PlainDecimalReadPinLaw" = some m.cls) (e0 : T0.heap = h0) (h12 : i12 = Int32.ofNat st) (h9 : i9 = Int32.ofNat b) (hcs : cs.length = 5) (hs : st < 32) (hb3 : b < 32) (C : Arv Z h0 o6 kc .char (5 : Int32) (cs.map Value.int) (.int 0)) (Z0 : n0 ≤ h0.size) (N0 : Fr n0 locs) (hcl : cells ≤ room_1.cells) (hsl : slots ≤ room_1.slots) (hs16 : One s16) :
    ∃ (T' : State) (locs' : List Loc), Stand p l e room_1 s m args below meth c T' locs' cells slots ∧ Fr n0 locs' ∧ T'.heap = h0 ∧
      ∀ target, Steps p.tables e below (T'.setTop (mkF m 203 #[s0, s1, s2, s3, s4, s5, .val (.ref o6), s7, s8, .val (.int i9), s10, s11, .val (.int i12), s13, s14, s15, .val (.int (own_b (own_vd cs 3 st b))), s17, s18, s19, s20, s21, s22, s23, s24, s25, s26, s27, s28, s29, s30, s31, s32, s33, s34, s35, s36, s37, s38, s39] [])) target → Steps p.tables e below (T0.setTop (mkF m 191 #[s0, s1, s2, s3, s4, s5, .val (.ref o6), s7, s8, .val (.int i9), s10, s11, .val (.int i12), s13, s14, s15, s16, s17, s18, s19, s20, s21, s22, s23, s24, s25, s26, s27, s28, s29, s30, s31, s32, s33, s34, s35, s36, s37, s38, s39] [])) target := by
  obtain ⟨_, _, ⟨T7, L7, k7, n7⟩, -, X7, ⟨Lc7, hQ7, l7, y7, z7⟩, st7⟩ := Jvm.LawKit.callS X0 hx (y := (⟨"com/example/bandmark/bandmark/PlainDecimalReadPinLaw", "dig", "([CIII)I"⟩ : MethodName)) hown (mvT hZ (own_W hw 36 rfl)) (mvT hZ (own_W hw 37 rfl)) (mvT hZ (own_W hw 3 rfl)) (mvT hZ (own_W hw 38 rfl)) (by decide) (backOf (W := 0) (r8w l Z a0 hw [] o6 (3 : Int32) i12 i9 cs 3 st b kc h0 n0 Z0 rfl h12 h9 hcs (by decide) hs hb3 C) hZ (own_W hw 38 rfl) (own_W hw 3 rfl) (by decide) (by decide)) (g := (mkF m 198 #[s0, s1, s2, s3, s4, s5, .val (.ref o6), s7, s8, .val (.int i9), s10, s11, .val (.int i12), s13, s14, s15, s16, s17, s18, s19, s20, s21, s22, s23, s24, s25, s26, s27, s28, s29, s30, s31, s32, s33, s34, s35, s36, s37, s38, s39] [(.int i9), (.int i12), (.int 3), (.ref o6)])) rfl (by rw [hml]; rfl) (argsL := [(.ref o6), (.int 3), (.int i12), (.int i9)]) (rest := []) (lenOf pd_0_7 rfl) rfl (by show 2 * 0 + _ ≤ _; exact Nat.le_of_eq rfl) (hb hby at_198) (fun _ _ => ⟨rfl, e0, hcl, hsl⟩)
  dsimp only [Pt.U, Pt.locs, Pt.cells, Pt.slots] at X7 l7 y7 z7 st7 hQ7
  subst l7 y7 z7
  obtain ⟨rfl, N7q, e7⟩ := hQ7
  have N7 := Fr.app N0 N7q
  refine ⟨T7, _, X7, N7, e7, fun target kt => ?_⟩
  refine XS.aload X0.here hx rfl (hb hby at_191) rfl rfl ?_
  refine XS.iconst X0.here hx rfl (hb hby at_193) ?_
  refine XS.iload X0.here hx rfl (hb hby at_194) rfl ?_
  refine XS.iload X0.here hx rfl (hb hby at_196) rfl ?_
  refine st7 _ ?_
  refine XS.istore X7.here hx rfl (hb hby at_201) rfl (l' := #[s0, s1, s2, s3, s4, s5, .val (.ref o6), s7, s8, .val (.int i9), s10, s11, .val (.int i12), s13, s14, s15, .val (.int (own_b (own_vd cs 3 st b))), s17, s18, s19, s20, s21, s22, s23, s24, s25, s26, s27, s28, s29, s30, s31, s32, s33, s34, s35, s36, s37, s38, s39]) (os0_201_own_D3 hs16) ?_
  exact kt
theorem os0_213_own_D4 {s0 : Slot} {s1 : Slot} {s2 : Slot} {s3 : Slot} {s4 : Slot} {s5 : Slot} {z6 : Value} {s7 : Slot} {s8 : Slot} {z9 : Value} {s10 : Slot} {s11 : Slot} {z12 : Value} {s13 : Slot} {s14 : Slot} {s15 : Slot} {s16 : Slot} {s17 : Slot} {s18 : Slot} {s19 : Slot} {s20 : Slot} {s21 : Slot} {s22 : Slot} {s23 : Slot} {s24 : Slot} {s25 : Slot} {s26 : Slot} {s27 : Slot} {s28 : Slot} {s29 : Slot} {s30 : Slot} {s31 : Slot} {s32 : Slot} {s33 : Slot} {s34 : Slot} {s35 : Slot} {s36 : Slot} {s37 : Slot} {s38 : Slot} {s39 : Slot} {v : Int32} (h : One s17) : storeLocals #[s0, s1, s2, s3, s4, s5, .val z6, s7, s8, .val z9, s10, s11, .val z12, s13, s14, s15, s16, s17, s18, s19, s20, s21, s22, s23, s24, s25, s26, s27, s28, s29, s30, s31, s32, s33, s34, s35, s36, s37, s38, s39] 17 (.int v) = some #[s0, s1, s2, s3, s4, s5, .val z6, s7, s8, .val z9, s10, s11, .val z12, s13, s14, s15, s16, .val (.int v), s18, s19, s20, s21, s22, s23, s24, s25, s26, s27, s28, s29, s30, s31, s32, s33, s34, s35, s36, s37, s38, s39] := by
  rcases h with rfl | ⟨w, rfl, hw⟩
  · rfl
  · cases w <;> first | rfl | (simp [Value.category] at hw)
set_option maxRecDepth 65536 in
set_option maxHeartbeats 40000000 in
theorem own_D4 {p : Program} {l : Launch} {e : Env} {s : State} {m : MethodId} {args : Array Value} {below : List Frame} {meth : Method} {c : Code} {T0 : State} {locs : List Loc} {cells slots : Nat} {Z : State} {a0 : Array Value} {h0 : Heap} (s0 : Slot) (s1 : Slot) (s2 : Slot) (s3 : Slot) (s4 : Slot) (s5 : Slot) (o6 : Addr) (s7 : Slot) (s8 : Slot) (i9 : Int32) (s10 : Slot) (s11 : Slot) (i12 : Int32) (s13 : Slot) (s14 : Slot) (s15 : Slot) (s16 : Slot) (s17 : Slot) (s18 : Slot) (s19 : Slot) (s20 : Slot) (s21 : Slot) (s22 : Slot) (s23 : Slot) (s24 : Slot) (s25 : Slot) (s26 : Slot) (s27 : Slot) (s28 : Slot) (s29 : Slot) (s30 : Slot) (s31 : Slot) (s32 : Slot) (s33 : Slot) (s34 : Slot) (s35 : Slot) (s36 : Slot) (s37 : Slot) (s38 : Slot) (s39 : Slot) (cs : List Int32) (st b : Nat) (kc : ClassId) (n0 : Nat)
    (X0 : Stand p l e room_1 s m args below meth c T0 locs cells slots) (hx : p.tables.exec = Jvm.exec) (hZ : Z.Warmed39 s.vm) (hw : ∀ d ∈ tables_1, d.before a0 Z = true) (hby : c.code = code) (hml : c.maxLocals = 40) (hown : s.vm.findClass "com/example/bandmark/bandmark/PlainDecimalReadPinLaw" = some m.cls) (e0 : T0.heap = h0) (h12 : i12 = Int32.ofNat st) (h9 : i9 = Int32.ofNat b) (hcs : cs.length = 5) (hs : st < 32) (hb3 : b < 32) (C : Arv Z h0 o6 kc .char (5 : Int32) (cs.map Value.int) (.int 0)) (Z0 : n0 ≤ h0.size) (N0 : Fr n0 locs) (hcl : cells ≤ room_1.cells) (hsl : slots ≤ room_1.slots) (hs17 : One s17) :
    ∃ (T' : State) (locs' : List Loc), Stand p l e room_1 s m args below meth c T' locs' cells slots ∧ Fr n0 locs' ∧ T'.heap = h0 ∧
      ∀ target, Steps p.tables e below (T'.setTop (mkF m 215 #[s0, s1, s2, s3, s4, s5, .val (.ref o6), s7, s8, .val (.int i9), s10, s11, .val (.int i12), s13, s14, s15, s16, .val (.int (own_b (own_vd cs 4 st b))), s18, s19, s20, s21, s22, s23, s24, s25, s26, s27, s28, s29, s30, s31, s32, s33, s34, s35, s36, s37, s38, s39] [])) target → Steps p.tables e below (T0.setTop (mkF m 203 #[s0, s1, s2, s3, s4, s5, .val (.ref o6), s7, s8, .val (.int i9), s10, s11, .val (.int i12), s13, s14, s15, s16, s17, s18, s19, s20, s21, s22, s23, s24, s25, s26, s27, s28, s29, s30, s31, s32, s33, s34, s35, s36, s37, s38, s39] [])) target := by
  obtain ⟨_, _, ⟨T7, L7, k7, n7⟩, -, X7, ⟨Lc7, hQ7, l7, y7, z7⟩, st7⟩ := Jvm.LawKit.callS X0 hx (y := (⟨"com/example/bandmark/bandmark/PlainDecimalReadPinLaw", "dig", "([CIII)I"⟩ : MethodName)) hown (mvT hZ (own_W hw 36 rfl)) (mvT hZ (own_W hw 37 rfl)) (mvT hZ (own_W hw 3 rfl)) (mvT hZ (own_W hw 38 rfl)) (by decide) (backOf (W := 0) (r8w l Z a0 hw [] o6 (4 : Int32) i12 i9 cs 4 st b kc h0 n0 Z0 rfl h12 h9 hcs (by decide) hs hb3 C) hZ (own_W hw 38 rfl) (own_W hw 3 rfl) (by decide) (by decide)) (g := (mkF m 210 #[s0, s1, s2, s3, s4, s5, .val (.ref o6), s7, s8, .val (.int i9), s10, s11, .val (.int i12), s13, s14, s15, s16, s17, s18, s19, s20, s21, s22, s23, s24, s25, s26, s27, s28, s29, s30, s31, s32, s33, s34, s35, s36, s37, s38, s39] [(.int i9), (.int i12), (.int 4), (.ref o6)])) rfl (by rw [hml]; rfl) (argsL := [(.ref o6), (.int 4), (.int i12), (.int i9)]) (rest := []) (lenOf pd_0_7 rfl) rfl (by show 2 * 0 + _ ≤ _; exact Nat.le_of_eq rfl) (hb hby at_210) (fun _ _ => ⟨rfl, e0, hcl, hsl⟩)
  dsimp only [Pt.U, Pt.locs, Pt.cells, Pt.slots] at X7 l7 y7 z7 st7 hQ7
  subst l7 y7 z7
  obtain ⟨rfl, N7q, e7⟩ := hQ7
  have N7 := Fr.app N0 N7q
  refine ⟨T7, _, X7, N7, e7, fun target kt => ?_⟩
  refine XS.aload X0.here hx rfl (hb hby at_203) rfl rfl ?_
  refine XS.iconst X0.here hx rfl (hb hby at_205) ?_
  refine XS.iload X0.here hx rfl (hb hby at_206) rfl ?_
  refine XS.iload X0.here hx rfl (hb hby at_208) rfl ?_
  refine st7 _ ?_
  refine XS.istore X7.here hx rfl (hb hby at_213) rfl (l' := #[s0, s1, s2, s3, s4, s5, .val (.ref o6), s7, s8, .val (.int i9), s10, s11, .val (.int i12), s13, s14, s15, s16, .val (.int (own_b (own_vd cs 4 st b))), s18, s19, s20, s21, s22, s23, s24, s25, s26, s27, s28, s29, s30, s31, s32, s33, s34, s35, s36, s37, s38, s39]) (os0_213_own_D4 hs17) ?_
  exact kt
theorem os0_216_own_Da {s0 : Slot} {s1 : Slot} {s2 : Slot} {s3 : Slot} {s4 : Slot} {s5 : Slot} {s6 : Slot} {s7 : Slot} {s8 : Slot} {s9 : Slot} {s10 : Slot} {s11 : Slot} {s12 : Slot} {z13 : Value} {z14 : Value} {z15 : Value} {z16 : Value} {z17 : Value} {s18 : Slot} {s19 : Slot} {s20 : Slot} {s21 : Slot} {s22 : Slot} {s23 : Slot} {s24 : Slot} {s25 : Slot} {s26 : Slot} {s27 : Slot} {s28 : Slot} {s29 : Slot} {s30 : Slot} {s31 : Slot} {s32 : Slot} {s33 : Slot} {s34 : Slot} {s35 : Slot} {s36 : Slot} {s37 : Slot} {s38 : Slot} {s39 : Slot} {v : Int32} (h : One s18) : storeLocals #[s0, s1, s2, s3, s4, s5, s6, s7, s8, s9, s10, s11, s12, .val z13, .val z14, .val z15, .val z16, .val z17, s18, s19, s20, s21, s22, s23, s24, s25, s26, s27, s28, s29, s30, s31, s32, s33, s34, s35, s36, s37, s38, s39] 18 (.int v) = some #[s0, s1, s2, s3, s4, s5, s6, s7, s8, s9, s10, s11, s12, .val z13, .val z14, .val z15, .val z16, .val z17, .val (.int v), s19, s20, s21, s22, s23, s24, s25, s26, s27, s28, s29, s30, s31, s32, s33, s34, s35, s36, s37, s38, s39] := by
  rcases h with rfl | ⟨w, rfl, hw⟩
  · rfl
  · cases w <;> first | rfl | (simp [Value.category] at hw)
theorem os0_220_own_Da {s0 : Slot} {s1 : Slot} {s2 : Slot} {s3 : Slot} {s4 : Slot} {s5 : Slot} {s6 : Slot} {s7 : Slot} {s8 : Slot} {s9 : Slot} {s10 : Slot} {s11 : Slot} {s12 : Slot} {z13 : Value} {z14 : Value} {z15 : Value} {z16 : Value} {z17 : Value} {z18 : Value} {s19 : Slot} {s20 : Slot} {s21 : Slot} {s22 : Slot} {s23 : Slot} {s24 : Slot} {s25 : Slot} {s26 : Slot} {s27 : Slot} {s28 : Slot} {s29 : Slot} {s30 : Slot} {s31 : Slot} {s32 : Slot} {s33 : Slot} {s34 : Slot} {s35 : Slot} {s36 : Slot} {s37 : Slot} {s38 : Slot} {s39 : Slot} {v : Int32} (h : One s19) : storeLocals #[s0, s1, s2, s3, s4, s5, s6, s7, s8, s9, s10, s11, s12, .val z13, .val z14, .val z15, .val z16, .val z17, .val z18, s19, s20, s21, s22, s23, s24, s25, s26, s27, s28, s29, s30, s31, s32, s33, s34, s35, s36, s37, s38, s39] 19 (.int v) = some #[s0, s1, s2, s3, s4, s5, s6, s7, s8, s9, s10, s11, s12, .val z13, .val z14, .val z15, .val z16, .val z17, .val z18, .val (.int v), s20, s21, s22, s23, s24, s25, s26, s27, s28, s29, s30, s31, s32, s33, s34, s35, s36, s37, s38, s39] := by
  rcases h with rfl | ⟨w, rfl, hw⟩
  · rfl
  · cases w <;> first | rfl | (simp [Value.category] at hw)
theorem os0_227_own_Da {s0 : Slot} {s1 : Slot} {s2 : Slot} {s3 : Slot} {s4 : Slot} {s5 : Slot} {s6 : Slot} {s7 : Slot} {s8 : Slot} {s9 : Slot} {s10 : Slot} {s11 : Slot} {s12 : Slot} {z13 : Value} {z14 : Value} {z15 : Value} {z16 : Value} {z17 : Value} {z18 : Value} {z19 : Value} {s20 : Slot} {s21 : Slot} {s22 : Slot} {s23 : Slot} {s24 : Slot} {s25 : Slot} {s26 : Slot} {s27 : Slot} {s28 : Slot} {s29 : Slot} {s30 : Slot} {s31 : Slot} {s32 : Slot} {s33 : Slot} {s34 : Slot} {s35 : Slot} {s36 : Slot} {s37 : Slot} {s38 : Slot} {s39 : Slot} {v : Int32} (h : One s20) : storeLocals #[s0, s1, s2, s3, s4, s5, s6, s7, s8, s9, s10, s11, s12, .val z13, .val z14, .val z15, .val z16, .val z17, .val z18, .val z19, s20, s21, s22, s23, s24, s25, s26, s27, s28, s29, s30, s31, s32, s33, s34, s35, s36, s37, s38, s39] 20 (.int v) = some #[s0, s1, s2, s3, s4, s5, s6, s7, s8, s9, s10, s11, s12, .val z13, .val z14, .val z15, .val z16, .val z17, .val z18, .val z19, .val (.int v), s21, s22, s23, s24, s25, s26, s27, s28, s29, s30, s31, s32, s33, s34, s35, s36, s37, s38, s39] := by
  rcases h with rfl | ⟨w, rfl, hw⟩
  · rfl
  · cases w <;> first | rfl | (simp [Value.category] at hw)
theorem os0_234_own_Da {s0 : Slot} {s1 : Slot} {s2 : Slot} {s3 : Slot} {s4 : Slot} {s5 : Slot} {s6 : Slot} {s7 : Slot} {s8 : Slot} {s9 : Slot} {s10 : Slot} {s11 : Slot} {s12 : Slot} {z13 : Value} {z14 : Value} {z15 : Value} {z16 : Value} {z17 : Value} {z18 : Value} {z19 : Value} {z20 : Value} {s21 : Slot} {s22 : Slot} {s23 : Slot} {s24 : Slot} {s25 : Slot} {s26 : Slot} {s27 : Slot} {s28 : Slot} {s29 : Slot} {s30 : Slot} {s31 : Slot} {s32 : Slot} {s33 : Slot} {s34 : Slot} {s35 : Slot} {s36 : Slot} {s37 : Slot} {s38 : Slot} {s39 : Slot} {v : Int32} (h : One s21) : storeLocals #[s0, s1, s2, s3, s4, s5, s6, s7, s8, s9, s10, s11, s12, .val z13, .val z14, .val z15, .val z16, .val z17, .val z18, .val z19, .val z20, s21, s22, s23, s24, s25, s26, s27, s28, s29, s30, s31, s32, s33, s34, s35, s36, s37, s38, s39] 21 (.int v) = some #[s0, s1, s2, s3, s4, s5, s6, s7, s8, s9, s10, s11, s12, .val z13, .val z14, .val z15, .val z16, .val z17, .val z18, .val z19, .val z20, .val (.int v), s22, s23, s24, s25, s26, s27, s28, s29, s30, s31, s32, s33, s34, s35, s36, s37, s38, s39] := by
  rcases h with rfl | ⟨w, rfl, hw⟩
  · rfl
  · cases w <;> first | rfl | (simp [Value.category] at hw)
theorem os0_241_own_Da {s0 : Slot} {s1 : Slot} {s2 : Slot} {s3 : Slot} {s4 : Slot} {s5 : Slot} {s6 : Slot} {s7 : Slot} {s8 : Slot} {s9 : Slot} {s10 : Slot} {s11 : Slot} {s12 : Slot} {z13 : Value} {z14 : Value} {z15 : Value} {z16 : Value} {z17 : Value} {z18 : Value} {z19 : Value} {z20 : Value} {z21 : Value} {s22 : Slot} {s23 : Slot} {s24 : Slot} {s25 : Slot} {s26 : Slot} {s27 : Slot} {s28 : Slot} {s29 : Slot} {s30 : Slot} {s31 : Slot} {s32 : Slot} {s33 : Slot} {s34 : Slot} {s35 : Slot} {s36 : Slot} {s37 : Slot} {s38 : Slot} {s39 : Slot} {v : Int32} (h : One s22) : storeLocals #[s0, s1, s2, s3, s4, s5, s6, s7, s8, s9, s10, s11, s12, .val z13, .val z14, .val z15, .val z16, .val z17, .val z18, .val z19, .val z20, .val z21, s22, s23, s24, s25, s26, s27, s28, s29, s30, s31, s32, s33, s34, s35, s36, s37, s38, s39] 22 (.int v) = some #[s0, s1, s2, s3, s4, s5, s6, s7, s8, s9, s10, s11, s12, .val z13, .val z14, .val z15, .val z16, .val z17, .val z18, .val z19, .val z20, .val z21, .val (.int v), s23, s24, s25, s26, s27, s28, s29, s30, s31, s32, s33, s34, s35, s36, s37, s38, s39] := by
  rcases h with rfl | ⟨w, rfl, hw⟩
  · rfl
  · cases w <;> first | rfl | (simp [Value.category] at hw)
theorem os0_248_own_Da {s0 : Slot} {s1 : Slot} {s2 : Slot} {s3 : Slot} {s4 : Slot} {s5 : Slot} {s6 : Slot} {s7 : Slot} {s8 : Slot} {s9 : Slot} {s10 : Slot} {s11 : Slot} {s12 : Slot} {z13 : Value} {z14 : Value} {z15 : Value} {z16 : Value} {z17 : Value} {z18 : Value} {z19 : Value} {z20 : Value} {z21 : Value} {z22 : Value} {s23 : Slot} {s24 : Slot} {s25 : Slot} {s26 : Slot} {s27 : Slot} {s28 : Slot} {s29 : Slot} {s30 : Slot} {s31 : Slot} {s32 : Slot} {s33 : Slot} {s34 : Slot} {s35 : Slot} {s36 : Slot} {s37 : Slot} {s38 : Slot} {s39 : Slot} {v : Int32} (h : One s23) : storeLocals #[s0, s1, s2, s3, s4, s5, s6, s7, s8, s9, s10, s11, s12, .val z13, .val z14, .val z15, .val z16, .val z17, .val z18, .val z19, .val z20, .val z21, .val z22, s23, s24, s25, s26, s27, s28, s29, s30, s31, s32, s33, s34, s35, s36, s37, s38, s39] 23 (.int v) = some #[s0, s1, s2, s3, s4, s5, s6, s7, s8, s9, s10, s11, s12, .val z13, .val z14, .val z15, .val z16, .val z17, .val z18, .val z19, .val z20, .val z21, .val z22, .val (.int v), s24, s25, s26, s27, s28, s29, s30, s31, s32, s33, s34, s35, s36, s37, s38, s39] := by
  rcases h with rfl | ⟨w, rfl, hw⟩
  · rfl
  · cases w <;> first | rfl | (simp [Value.category] at hw)
set_option maxRecDepth 65536 in
set_option maxHeartbeats 40000000 in
theorem own_Da {p : Program} {l : Launch} {e : Env} {s : State} {m : MethodId} {args : Array Value} {below : List Frame} {meth : Method} {c : Code} {T0 : State} {locs : List Loc} {cells slots : Nat} {Z : State} {a0 : Array Value} {h0 : Heap} (s0 : Slot) (s1 : Slot) (s2 : Slot) (s3 : Slot) (s4 : Slot) (s5 : Slot) (s6 : Slot) (s7 : Slot) (s8 : Slot) (s9 : Slot) (s10 : Slot) (s11 : Slot) (s12 : Slot) (i13 : Int32) (i14 : Int32) (i15 : Int32) (i16 : Int32) (i17 : Int32) (s18 : Slot) (s19 : Slot) (s20 : Slot) (s21 : Slot) (s22 : Slot) (s23 : Slot) (s24 : Slot) (s25 : Slot) (s26 : Slot) (s27 : Slot) (s28 : Slot) (s29 : Slot) (s30 : Slot) (s31 : Slot) (s32 : Slot) (s33 : Slot) (s34 : Slot) (s35 : Slot) (s36 : Slot) (s37 : Slot) (s38 : Slot) (s39 : Slot)
    (X0 : Stand p l e room_1 s m args below meth c T0 locs cells slots) (hx : p.tables.exec = Jvm.exec) (hZ : Z.Warmed39 s.vm) (hw : ∀ d ∈ tables_1, d.before a0 Z = true) (hby : c.code = code) (hml : c.maxLocals = 40) (hown : s.vm.findClass "com/example/bandmark/bandmark/PlainDecimalReadPinLaw" = some m.cls) (e0 : T0.heap = h0) (hs18 : One s18) (hs19 : One s19) (hs20 : One s20) (hs21 : One s21) (hs22 : One s22) (hs23 : One s23) :
    ∃ (T' : State), Stand p l e room_1 s m args below meth c T' locs cells slots ∧ T'.heap = h0 ∧
      ∀ target, Steps p.tables e below (T'.setTop (mkF m 250 #[s0, s1, s2, s3, s4, s5, s6, s7, s8, s9, s10, s11, s12, .val (.int i13), .val (.int i14), .val (.int i15), .val (.int i16), .val (.int i17), .val (.int 0), .val (.int i17), .val (.int (i16 + i17)), .val (.int (i15 + (i16 + i17))), .val (.int (i14 + (i15 + (i16 + i17)))), .val (.int (i13 + (i14 + (i15 + (i16 + i17))))), s24, s25, s26, s27, s28, s29, s30, s31, s32, s33, s34, s35, s36, s37, s38, s39] [])) target → Steps p.tables e below (T0.setTop (mkF m 215 #[s0, s1, s2, s3, s4, s5, s6, s7, s8, s9, s10, s11, s12, .val (.int i13), .val (.int i14), .val (.int i15), .val (.int i16), .val (.int i17), s18, s19, s20, s21, s22, s23, s24, s25, s26, s27, s28, s29, s30, s31, s32, s33, s34, s35, s36, s37, s38, s39] [])) target := by
  refine ⟨T0, X0, e0, fun target kt => ?_⟩
  refine XS.iconst X0.here hx rfl (hb hby at_215) ?_
  refine XS.istore X0.here hx rfl (hb hby at_216) rfl (l' := #[s0, s1, s2, s3, s4, s5, s6, s7, s8, s9, s10, s11, s12, .val (.int i13), .val (.int i14), .val (.int i15), .val (.int i16), .val (.int i17), .val (.int 0), s19, s20, s21, s22, s23, s24, s25, s26, s27, s28, s29, s30, s31, s32, s33, s34, s35, s36, s37, s38, s39]) (os0_216_own_Da hs18) ?_
  refine XS.iload X0.here hx rfl (hb hby at_218) rfl ?_
  refine XS.istore X0.here hx rfl (hb hby at_220) rfl (l' := #[s0, s1, s2, s3, s4, s5, s6, s7, s8, s9, s10, s11, s12, .val (.int i13), .val (.int i14), .val (.int i15), .val (.int i16), .val (.int i17), .val (.int 0), .val (.int i17), s20, s21, s22, s23, s24, s25, s26, s27, s28, s29, s30, s31, s32, s33, s34, s35, s36, s37, s38, s39]) (os0_220_own_Da hs19) ?_
  refine XS.iload X0.here hx rfl (hb hby at_222) rfl ?_
  refine XS.iload X0.here hx rfl (hb hby at_224) rfl ?_
  refine XS.iadd X0.here hx rfl (hb hby at_226) rfl ?_
  refine XS.istore X0.here hx rfl (hb hby at_227) rfl (l' := #[s0, s1, s2, s3, s4, s5, s6, s7, s8, s9, s10, s11, s12, .val (.int i13), .val (.int i14), .val (.int i15), .val (.int i16), .val (.int i17), .val (.int 0), .val (.int i17), .val (.int (i16 + i17)), s21, s22, s23, s24, s25, s26, s27, s28, s29, s30, s31, s32, s33, s34, s35, s36, s37, s38, s39]) (os0_227_own_Da hs20) ?_
  refine XS.iload X0.here hx rfl (hb hby at_229) rfl ?_
  refine XS.iload X0.here hx rfl (hb hby at_231) rfl ?_
  refine XS.iadd X0.here hx rfl (hb hby at_233) rfl ?_
  refine XS.istore X0.here hx rfl (hb hby at_234) rfl (l' := #[s0, s1, s2, s3, s4, s5, s6, s7, s8, s9, s10, s11, s12, .val (.int i13), .val (.int i14), .val (.int i15), .val (.int i16), .val (.int i17), .val (.int 0), .val (.int i17), .val (.int (i16 + i17)), .val (.int (i15 + (i16 + i17))), s22, s23, s24, s25, s26, s27, s28, s29, s30, s31, s32, s33, s34, s35, s36, s37, s38, s39]) (os0_234_own_Da hs21) ?_
  refine XS.iload X0.here hx rfl (hb hby at_236) rfl ?_
  refine XS.iload X0.here hx rfl (hb hby at_238) rfl ?_
  refine XS.iadd X0.here hx rfl (hb hby at_240) rfl ?_
  refine XS.istore X0.here hx rfl (hb hby at_241) rfl (l' := #[s0, s1, s2, s3, s4, s5, s6, s7, s8, s9, s10, s11, s12, .val (.int i13), .val (.int i14), .val (.int i15), .val (.int i16), .val (.int i17), .val (.int 0), .val (.int i17), .val (.int (i16 + i17)), .val (.int (i15 + (i16 + i17))), .val (.int (i14 + (i15 + (i16 + i17)))), s23, s24, s25, s26, s27, s28, s29, s30, s31, s32, s33, s34, s35, s36, s37, s38, s39]) (os0_241_own_Da hs22) ?_
  refine XS.iload X0.here hx rfl (hb hby at_243) rfl ?_
  refine XS.iload X0.here hx rfl (hb hby at_245) rfl ?_
  refine XS.iadd X0.here hx rfl (hb hby at_247) rfl ?_
  refine XS.istore X0.here hx rfl (hb hby at_248) rfl (l' := #[s0, s1, s2, s3, s4, s5, s6, s7, s8, s9, s10, s11, s12, .val (.int i13), .val (.int i14), .val (.int i15), .val (.int i16), .val (.int i17), .val (.int 0), .val (.int i17), .val (.int (i16 + i17)), .val (.int (i15 + (i16 + i17))), .val (.int (i14 + (i15 + (i16 + i17)))), .val (.int (i13 + (i14 + (i15 + (i16 + i17))))), s24, s25, s26, s27, s28, s29, s30, s31, s32, s33, s34, s35, s36, s37, s38, s39]) (os0_248_own_Da hs23) ?_
  exact kt
theorem os0_304_own_Dp {s0 : Slot} {s1 : Slot} {s2 : Slot} {s3 : Slot} {s4 : Slot} {s5 : Slot} {z6 : Value} {s7 : Slot} {s8 : Slot} {z9 : Value} {s10 : Slot} {s11 : Slot} {z12 : Value} {s13 : Slot} {s14 : Slot} {s15 : Slot} {s16 : Slot} {s17 : Slot} {s18 : Slot} {s19 : Slot} {s20 : Slot} {s21 : Slot} {s22 : Slot} {s23 : Slot} {s24 : Slot} {s25 : Slot} {s26 : Slot} {s27 : Slot} {s28 : Slot} {s29 : Slot} {s30 : Slot} {s31 : Slot} {s32 : Slot} {s33 : Slot} {s34 : Slot} {s35 : Slot} {s36 : Slot} {s37 : Slot} {s38 : Slot} {s39 : Slot} {v : Int32} (h : One s24) : storeLocals #[s0, s1, s2, s3, s4, s5, .val z6, s7, s8, .val z9, s10, s11, .val z12, s13, s14, s15, s16, s17, s18, s19, s20, s21, s22, s23, s24, s25, s26, s27, s28, s29, s30, s31, s32, s33, s34, s35, s36, s37, s38, s39] 24 (.int v) = some #[s0, s1, s2, s3, s4, s5, .val z6, s7, s8, .val z9, s10, s11, .val z12, s13, s14, s15, s16, s17, s18, s19, s20, s21, s22, s23, .val (.int v), s25, s26, s27, s28, s29, s30, s31, s32, s33, s34, s35, s36, s37, s38, s39] := by
  rcases h with rfl | ⟨w, rfl, hw⟩
  · rfl
  · cases w <;> first | rfl | (simp [Value.category] at hw)
set_option maxRecDepth 65536 in
set_option maxHeartbeats 40000000 in
theorem own_Dp {p : Program} {l : Launch} {e : Env} {s : State} {m : MethodId} {args : Array Value} {below : List Frame} {meth : Method} {c : Code} {T0 : State} {locs : List Loc} {cells slots : Nat} {Z : State} {a0 : Array Value} {h0 : Heap} (s0 : Slot) (s1 : Slot) (s2 : Slot) (s3 : Slot) (s4 : Slot) (s5 : Slot) (o6 : Addr) (s7 : Slot) (s8 : Slot) (i9 : Int32) (s10 : Slot) (s11 : Slot) (i12 : Int32) (s13 : Slot) (s14 : Slot) (s15 : Slot) (s16 : Slot) (s17 : Slot) (s18 : Slot) (s19 : Slot) (s20 : Slot) (s21 : Slot) (s22 : Slot) (s23 : Slot) (s24 : Slot) (s25 : Slot) (s26 : Slot) (s27 : Slot) (s28 : Slot) (s29 : Slot) (s30 : Slot) (s31 : Slot) (s32 : Slot) (s33 : Slot) (s34 : Slot) (s35 : Slot) (s36 : Slot) (s37 : Slot) (s38 : Slot) (s39 : Slot) (cs : List Int32) (st b : Nat) (kc : ClassId) (n0 : Nat)
    (X0 : Stand p l e room_1 s m args below meth c T0 locs cells slots) (hx : p.tables.exec = Jvm.exec) (hZ : Z.Warmed39 s.vm) (hw : ∀ d ∈ tables_1, d.before a0 Z = true) (hby : c.code = code) (hml : c.maxLocals = 40) (hown : s.vm.findClass "com/example/bandmark/bandmark/PlainDecimalReadPinLaw" = some m.cls) (e0 : T0.heap = h0) (h12 : i12 = Int32.ofNat st) (h9 : i9 = Int32.ofNat b) (hcs : cs.length = 5) (hs : st < 32) (hb3 : b < 32) (C : Arv Z h0 o6 kc .char (5 : Int32) (cs.map Value.int) (.int 0)) (Z0 : n0 ≤ h0.size) (N0 : Fr n0 locs) (hcl : cells ≤ room_1.cells) (hsl : slots ≤ room_1.slots) (hs24 : One s24) :
    ∃ (T' : State) (locs' : List Loc), Stand p l e room_1 s m args below meth c T' locs' cells slots ∧ Fr n0 locs' ∧ T'.heap = h0 ∧
      ∀ target, Steps p.tables e below (T'.setTop (mkF m 306 #[s0, s1, s2, s3, s4, s5, .val (.ref o6), s7, s8, .val (.int i9), s10, s11, .val (.int i12), s13, s14, s15, s16, s17, s18, s19, s20, s21, s22, s23, .val (.int (((((own_b (own_vp cs 0 st b)) + (own_b (own_vp cs 1 st b))) + (own_b (own_vp cs 2 st b))) + (own_b (own_vp cs 3 st b))) + (own_b (own_vp cs 4 st b)))), s25, s26, s27, s28, s29, s30, s31, s32, s33, s34, s35, s36, s37, s38, s39] [])) target → Steps p.tables e below (T0.setTop (mkF m 250 #[s0, s1, s2, s3, s4, s5, .val (.ref o6), s7, s8, .val (.int i9), s10, s11, .val (.int i12), s13, s14, s15, s16, s17, s18, s19, s20, s21, s22, s23, s24, s25, s26, s27, s28, s29, s30, s31, s32, s33, s34, s35, s36, s37, s38, s39] [])) target := by
  obtain ⟨_, _, ⟨T7, L7, k7, n7⟩, -, X7, ⟨Lc7, hQ7, l7, y7, z7⟩, st7⟩ := Jvm.LawKit.callS X0 hx (y := (⟨"com/example/bandmark/bandmark/PlainDecimalReadPinLaw", "pt", "([CIII)I"⟩ : MethodName)) hown (mvT hZ (own_W hw 42 rfl)) (mvT hZ (own_W hw 43 rfl)) (mvT hZ (own_W hw 3 rfl)) (mvT hZ (own_W hw 44 rfl)) (by decide) (backOf (W := 0) (r10w l Z a0 hw [] o6 (0 : Int32) i12 i9 cs 0 st b kc h0 n0 Z0 rfl h12 h9 hcs (by decide) hs hb3 C) hZ (own_W hw 44 rfl) (own_W hw 3 rfl) (by decide) (by decide)) (g := (mkF m 257 #[s0, s1, s2, s3, s4, s5, .val (.ref o6), s7, s8, .val (.int i9), s10, s11, .val (.int i12), s13, s14, s15, s16, s17, s18, s19, s20, s21, s22, s23, s24, s25, s26, s27, s28, s29, s30, s31, s32, s33, s34, s35, s36, s37, s38, s39] [(.int i9), (.int i12), (.int 0), (.ref o6)])) rfl (by rw [hml]; rfl) (argsL := [(.ref o6), (.int 0), (.int i12), (.int i9)]) (rest := []) (lenOf pd_0_7 rfl) rfl (by show 2 * 0 + _ ≤ _; exact Nat.le_of_eq rfl) (hb hby at_257) (fun _ _ => ⟨rfl, e0, hcl, hsl⟩)
  dsimp only [Pt.U, Pt.locs, Pt.cells, Pt.slots] at X7 l7 y7 z7 st7 hQ7
  subst l7 y7 z7
  obtain ⟨rfl, N7q, e7⟩ := hQ7
  have N7 := Fr.app N0 N7q
  obtain ⟨_, _, ⟨T8, L8, k8, n8⟩, -, X8, ⟨Lc8, hQ8, l8, y8, z8⟩, st8⟩ := Jvm.LawKit.callS X7 hx (y := (⟨"com/example/bandmark/bandmark/PlainDecimalReadPinLaw", "pt", "([CIII)I"⟩ : MethodName)) hown (mvT hZ (own_W hw 42 rfl)) (mvT hZ (own_W hw 43 rfl)) (mvT hZ (own_W hw 3 rfl)) (mvT hZ (own_W hw 44 rfl)) (by decide) (backOf (W := 1) (r10w l Z a0 hw [] o6 (1 : Int32) i12 i9 cs 1 st b kc h0 n0 Z0 rfl h12 h9 hcs (by decide) hs hb3 C) hZ (own_W hw 44 rfl) (own_W hw 3 rfl) (by decide) (by decide)) (g := (mkF m 267 #[s0, s1, s2, s3, s4, s5, .val (.ref o6), s7, s8, .val (.int i9), s10, s11, .val (.int i12), s13, s14, s15, s16, s17, s18, s19, s20, s21, s22, s23, s24, s25, s26, s27, s28, s29, s30, s31, s32, s33, s34, s35, s36, s37, s38, s39] [(.int i9), (.int i12), (.int 1), (.ref o6), (.int (own_b (own_vp cs 0 st b)))])) rfl (by rw [hml]; rfl) (argsL := [(.ref o6), (.int 1), (.int i12), (.int i9)]) (rest := [(.int (own_b (own_vp cs 0 st b)))]) (lenOf pd_0_7 rfl) rfl (by show 2 * 0 + _ ≤ _; exact Nat.le_of_eq rfl) (hb hby at_267) (fun _ _ => ⟨rfl, e7, hcl, hsl⟩)
  dsimp only [Pt.U, Pt.locs, Pt.cells, Pt.slots] at X8 l8 y8 z8 st8 hQ8
  subst l8 y8 z8
  obtain ⟨rfl, N8q, e8⟩ := hQ8
  have N8 := Fr.app N7 N8q
  obtain ⟨_, _, ⟨T9, L9, k9, n9⟩, -, X9, ⟨Lc9, hQ9, l9, y9, z9⟩, st9⟩ := Jvm.LawKit.callS X8 hx (y := (⟨"com/example/bandmark/bandmark/PlainDecimalReadPinLaw", "pt", "([CIII)I"⟩ : MethodName)) hown (mvT hZ (own_W hw 42 rfl)) (mvT hZ (own_W hw 43 rfl)) (mvT hZ (own_W hw 3 rfl)) (mvT hZ (own_W hw 44 rfl)) (by decide) (backOf (W := 1) (r10w l Z a0 hw [] o6 (2 : Int32) i12 i9 cs 2 st b kc h0 n0 Z0 rfl h12 h9 hcs (by decide) hs hb3 C) hZ (own_W hw 44 rfl) (own_W hw 3 rfl) (by decide) (by decide)) (g := (mkF m 278 #[s0, s1, s2, s3, s4, s5, .val (.ref o6), s7, s8, .val (.int i9), s10, s11, .val (.int i12), s13, s14, s15, s16, s17, s18, s19, s20, s21, s22, s23, s24, s25, s26, s27, s28, s29, s30, s31, s32, s33, s34, s35, s36, s37, s38, s39] [(.int i9), (.int i12), (.int 2), (.ref o6), (.int ((own_b (own_vp cs 0 st b)) + (own_b (own_vp cs 1 st b))))])) rfl (by rw [hml]; rfl) (argsL := [(.ref o6), (.int 2), (.int i12), (.int i9)]) (rest := [(.int ((own_b (own_vp cs 0 st b)) + (own_b (own_vp cs 1 st b))))]) (lenOf pd_0_7 rfl) rfl (by show 2 * 0 + _ ≤ _; exact Nat.le_of_eq rfl) (hb hby at_278) (fun _ _ => ⟨rfl, e8, hcl, hsl⟩)
  dsimp only [Pt.U, Pt.locs, Pt.cells, Pt.slots] at X9 l9 y9 z9 st9 hQ9
  subst l9 y9 z9
  obtain ⟨rfl, N9q, e9⟩ := hQ9
  have N9 := Fr.app N8 N9q
  obtain ⟨_, _, ⟨T10, L10, k10, n10⟩, -, X10, ⟨Lc10, hQ10, l10, y10, z10⟩, st10⟩ := Jvm.LawKit.callS X9 hx (y := (⟨"com/example/bandmark/bandmark/PlainDecimalReadPinLaw", "pt", "([CIII)I"⟩ : MethodName)) hown (mvT hZ (own_W hw 42 rfl)) (mvT hZ (own_W hw 43 rfl)) (mvT hZ (own_W hw 3 rfl)) (mvT hZ (own_W hw 44 rfl)) (by decide) (backOf (W := 1) (r10w l Z a0 hw [] o6 (3 : Int32) i12 i9 cs 3 st b kc h0 n0 Z0 rfl h12 h9 hcs (by decide) hs hb3 C) hZ (own_W hw 44 rfl) (own_W hw 3 rfl) (by decide) (by decide)) (g := (mkF m 289 #[s0, s1, s2, s3, s4, s5, .val (.ref o6), s7, s8, .val (.int i9), s10, s11, .val (.int i12), s13, s14, s15, s16, s17, s18, s19, s20, s21, s22, s23, s24, s25, s26, s27, s28, s29, s30, s31, s32, s33, s34, s35, s36, s37, s38, s39] [(.int i9), (.int i12), (.int 3), (.ref o6), (.int (((own_b (own_vp cs 0 st b)) + (own_b (own_vp cs 1 st b))) + (own_b (own_vp cs 2 st b))))])) rfl (by rw [hml]; rfl) (argsL := [(.ref o6), (.int 3), (.int i12), (.int i9)]) (rest := [(.int (((own_b (own_vp cs 0 st b)) + (own_b (own_vp cs 1 st b))) + (own_b (own_vp cs 2 st b))))]) (lenOf pd_0_7 rfl) rfl (by show 2 * 0 + _ ≤ _; exact Nat.le_of_eq rfl) (hb hby at_289) (fun _ _ => ⟨rfl, e9, hcl, hsl⟩)
  dsimp only [Pt.U, Pt.locs, Pt.cells, Pt.slots] at X10 l10 y10 z10 st10 hQ10
  subst l10 y10 z10
  obtain ⟨rfl, N10q, e10⟩ := hQ10
  have N10 := Fr.app N9 N10q
  obtain ⟨_, _, ⟨T11, L11, k11, n11⟩, -, X11, ⟨Lc11, hQ11, l11, y11, z11⟩, st11⟩ := Jvm.LawKit.callS X10 hx (y := (⟨"com/example/bandmark/bandmark/PlainDecimalReadPinLaw", "pt", "([CIII)I"⟩ : MethodName)) hown (mvT hZ (own_W hw 42 rfl)) (mvT hZ (own_W hw 43 rfl)) (mvT hZ (own_W hw 3 rfl)) (mvT hZ (own_W hw 44 rfl)) (by decide) (backOf (W := 1) (r10w l Z a0 hw [] o6 (4 : Int32) i12 i9 cs 4 st b kc h0 n0 Z0 rfl h12 h9 hcs (by decide) hs hb3 C) hZ (own_W hw 44 rfl) (own_W hw 3 rfl) (by decide) (by decide)) (g := (mkF m 300 #[s0, s1, s2, s3, s4, s5, .val (.ref o6), s7, s8, .val (.int i9), s10, s11, .val (.int i12), s13, s14, s15, s16, s17, s18, s19, s20, s21, s22, s23, s24, s25, s26, s27, s28, s29, s30, s31, s32, s33, s34, s35, s36, s37, s38, s39] [(.int i9), (.int i12), (.int 4), (.ref o6), (.int ((((own_b (own_vp cs 0 st b)) + (own_b (own_vp cs 1 st b))) + (own_b (own_vp cs 2 st b))) + (own_b (own_vp cs 3 st b))))])) rfl (by rw [hml]; rfl) (argsL := [(.ref o6), (.int 4), (.int i12), (.int i9)]) (rest := [(.int ((((own_b (own_vp cs 0 st b)) + (own_b (own_vp cs 1 st b))) + (own_b (own_vp cs 2 st b))) + (own_b (own_vp cs 3 st b))))]) (lenOf pd_0_7 rfl) rfl (by show 2 * 0 + _ ≤ _; exact Nat.le_of_eq rfl) (hb hby at_300) (fun _ _ => ⟨rfl, e10, hcl, hsl⟩)
  dsimp only [Pt.U, Pt.locs, Pt.cells, Pt.slots] at X11 l11 y11 z11 st11 hQ11
  subst l11 y11 z11
  obtain ⟨rfl, N11q, e11⟩ := hQ11
  have N11 := Fr.app N10 N11q
  refine ⟨T11, _, X11, N11, e11, fun target kt => ?_⟩
  refine XS.aload X0.here hx rfl (hb hby at_250) rfl rfl ?_
  refine XS.iconst X0.here hx rfl (hb hby at_252) ?_
  refine XS.iload X0.here hx rfl (hb hby at_253) rfl ?_
  refine XS.iload X0.here hx rfl (hb hby at_255) rfl ?_
  refine st7 _ ?_
  refine XS.aload X7.here hx rfl (hb hby at_260) rfl rfl ?_
  refine XS.iconst X7.here hx rfl (hb hby at_262) ?_
  refine XS.iload X7.here hx rfl (hb hby at_263) rfl ?_
  refine XS.iload X7.here hx rfl (hb hby at_265) rfl ?_
  refine st8 _ ?_
  refine XS.iadd X8.here hx rfl (hb hby at_270) rfl ?_
  refine XS.aload X8.here hx rfl (hb hby at_271) rfl rfl ?_
  refine XS.iconst X8.here hx rfl (hb hby at_273) ?_
  refine XS.iload X8.here hx rfl (hb hby at_274) rfl ?_
  refine XS.iload X8.here hx rfl (hb hby at_276) rfl ?_
  refine st9 _ ?_
  refine XS.iadd X9.here hx rfl (hb hby at_281) rfl ?_
  refine XS.aload X9.here hx rfl (hb hby at_282) rfl rfl ?_
  refine XS.iconst X9.here hx rfl (hb hby at_284) ?_
  refine XS.iload X9.here hx rfl (hb hby at_285) rfl ?_
  refine XS.iload X9.here hx rfl (hb hby at_287) rfl ?_
  refine st10 _ ?_
  refine XS.iadd X10.here hx rfl (hb hby at_292) rfl ?_
  refine XS.aload X10.here hx rfl (hb hby at_293) rfl rfl ?_
  refine XS.iconst X10.here hx rfl (hb hby at_295) ?_
  refine XS.iload X10.here hx rfl (hb hby at_296) rfl ?_
  refine XS.iload X10.here hx rfl (hb hby at_298) rfl ?_
  refine st11 _ ?_
  refine XS.iadd X11.here hx rfl (hb hby at_303) rfl ?_
  refine XS.istore X11.here hx rfl (hb hby at_304) rfl (l' := #[s0, s1, s2, s3, s4, s5, .val (.ref o6), s7, s8, .val (.int i9), s10, s11, .val (.int i12), s13, s14, s15, s16, s17, s18, s19, s20, s21, s22, s23, .val (.int (((((own_b (own_vp cs 0 st b)) + (own_b (own_vp cs 1 st b))) + (own_b (own_vp cs 2 st b))) + (own_b (own_vp cs 3 st b))) + (own_b (own_vp cs 4 st b)))), s25, s26, s27, s28, s29, s30, s31, s32, s33, s34, s35, s36, s37, s38, s39]) (os0_304_own_Dp hs24) ?_
  exact kt
theorem os0_360_own_Db {s0 : Slot} {s1 : Slot} {s2 : Slot} {s3 : Slot} {s4 : Slot} {s5 : Slot} {z6 : Value} {s7 : Slot} {s8 : Slot} {z9 : Value} {s10 : Slot} {s11 : Slot} {z12 : Value} {s13 : Slot} {s14 : Slot} {s15 : Slot} {s16 : Slot} {s17 : Slot} {s18 : Slot} {s19 : Slot} {s20 : Slot} {s21 : Slot} {s22 : Slot} {s23 : Slot} {s24 : Slot} {s25 : Slot} {s26 : Slot} {s27 : Slot} {s28 : Slot} {s29 : Slot} {s30 : Slot} {s31 : Slot} {s32 : Slot} {s33 : Slot} {s34 : Slot} {s35 : Slot} {s36 : Slot} {s37 : Slot} {s38 : Slot} {s39 : Slot} {v : Int32} (h : One s25) : storeLocals #[s0, s1, s2, s3, s4, s5, .val z6, s7, s8, .val z9, s10, s11, .val z12, s13, s14, s15, s16, s17, s18, s19, s20, s21, s22, s23, s24, s25, s26, s27, s28, s29, s30, s31, s32, s33, s34, s35, s36, s37, s38, s39] 25 (.int v) = some #[s0, s1, s2, s3, s4, s5, .val z6, s7, s8, .val z9, s10, s11, .val z12, s13, s14, s15, s16, s17, s18, s19, s20, s21, s22, s23, s24, .val (.int v), s26, s27, s28, s29, s30, s31, s32, s33, s34, s35, s36, s37, s38, s39] := by
  rcases h with rfl | ⟨w, rfl, hw⟩
  · rfl
  · cases w <;> first | rfl | (simp [Value.category] at hw)
set_option maxRecDepth 65536 in
set_option maxHeartbeats 40000000 in
theorem own_Db {p : Program} {l : Launch} {e : Env} {s : State} {m : MethodId} {args : Array Value} {below : List Frame} {meth : Method} {c : Code} {T0 : State} {locs : List Loc} {cells slots : Nat} {Z : State} {a0 : Array Value} {h0 : Heap} (s0 : Slot) (s1 : Slot) (s2 : Slot) (s3 : Slot) (s4 : Slot) (s5 : Slot) (o6 : Addr) (s7 : Slot) (s8 : Slot) (i9 : Int32) (s10 : Slot) (s11 : Slot) (i12 : Int32) (s13 : Slot) (s14 : Slot) (s15 : Slot) (s16 : Slot) (s17 : Slot) (s18 : Slot) (s19 : Slot) (s20 : Slot) (s21 : Slot) (s22 : Slot) (s23 : Slot) (s24 : Slot) (s25 : Slot) (s26 : Slot) (s27 : Slot) (s28 : Slot) (s29 : Slot) (s30 : Slot) (s31 : Slot) (s32 : Slot) (s33 : Slot) (s34 : Slot) (s35 : Slot) (s36 : Slot) (s37 : Slot) (s38 : Slot) (s39 : Slot) (cs : List Int32) (st b : Nat) (kc : ClassId) (n0 : Nat)
    (X0 : Stand p l e room_1 s m args below meth c T0 locs cells slots) (hx : p.tables.exec = Jvm.exec) (hZ : Z.Warmed39 s.vm) (hw : ∀ d ∈ tables_1, d.before a0 Z = true) (hby : c.code = code) (hml : c.maxLocals = 40) (hown : s.vm.findClass "com/example/bandmark/bandmark/PlainDecimalReadPinLaw" = some m.cls) (e0 : T0.heap = h0) (h12 : i12 = Int32.ofNat st) (h9 : i9 = Int32.ofNat b) (hcs : cs.length = 5) (hs : st < 32) (hb3 : b < 32) (C : Arv Z h0 o6 kc .char (5 : Int32) (cs.map Value.int) (.int 0)) (Z0 : n0 ≤ h0.size) (N0 : Fr n0 locs) (hcl : cells ≤ room_1.cells) (hsl : slots ≤ room_1.slots) (hs25 : One s25) :
    ∃ (T' : State) (locs' : List Loc), Stand p l e room_1 s m args below meth c T' locs' cells slots ∧ Fr n0 locs' ∧ T'.heap = h0 ∧
      ∀ target, Steps p.tables e below (T'.setTop (mkF m 362 #[s0, s1, s2, s3, s4, s5, .val (.ref o6), s7, s8, .val (.int i9), s10, s11, .val (.int i12), s13, s14, s15, s16, s17, s18, s19, s20, s21, s22, s23, s24, .val (.int (((((own_b (own_vb cs 0 st b)) + (own_b (own_vb cs 1 st b))) + (own_b (own_vb cs 2 st b))) + (own_b (own_vb cs 3 st b))) + (own_b (own_vb cs 4 st b)))), s26, s27, s28, s29, s30, s31, s32, s33, s34, s35, s36, s37, s38, s39] [])) target → Steps p.tables e below (T0.setTop (mkF m 306 #[s0, s1, s2, s3, s4, s5, .val (.ref o6), s7, s8, .val (.int i9), s10, s11, .val (.int i12), s13, s14, s15, s16, s17, s18, s19, s20, s21, s22, s23, s24, s25, s26, s27, s28, s29, s30, s31, s32, s33, s34, s35, s36, s37, s38, s39] [])) target := by
  obtain ⟨_, _, ⟨T7, L7, k7, n7⟩, -, X7, ⟨Lc7, hQ7, l7, y7, z7⟩, st7⟩ := Jvm.LawKit.callS X0 hx (y := (⟨"com/example/bandmark/bandmark/PlainDecimalReadPinLaw", "bad", "([CIII)I"⟩ : MethodName)) hown (mvT hZ (own_W hw 45 rfl)) (mvT hZ (own_W hw 46 rfl)) (mvT hZ (own_W hw 3 rfl)) (mvT hZ (own_W hw 47 rfl)) (by decide) (backOf (W := 0) (r11w l Z a0 hw [] o6 (0 : Int32) i12 i9 cs 0 st b kc h0 n0 Z0 rfl h12 h9 hcs (by decide) hs hb3 C) hZ (own_W hw 47 rfl) (own_W hw 3 rfl) (by decide) (by decide)) (g := (mkF m 313 #[s0, s1, s2, s3, s4, s5, .val (.ref o6), s7, s8, .val (.int i9), s10, s11, .val (.int i12), s13, s14, s15, s16, s17, s18, s19, s20, s21, s22, s23, s24, s25, s26, s27, s28, s29, s30, s31, s32, s33, s34, s35, s36, s37, s38, s39] [(.int i9), (.int i12), (.int 0), (.ref o6)])) rfl (by rw [hml]; rfl) (argsL := [(.ref o6), (.int 0), (.int i12), (.int i9)]) (rest := []) (lenOf pd_0_7 rfl) rfl (by show 2 * 0 + _ ≤ _; exact Nat.le_of_eq rfl) (hb hby at_313) (fun _ _ => ⟨rfl, e0, hcl, hsl⟩)
  dsimp only [Pt.U, Pt.locs, Pt.cells, Pt.slots] at X7 l7 y7 z7 st7 hQ7
  subst l7 y7 z7
  obtain ⟨rfl, N7q, e7⟩ := hQ7
  have N7 := Fr.app N0 N7q
  obtain ⟨_, _, ⟨T8, L8, k8, n8⟩, -, X8, ⟨Lc8, hQ8, l8, y8, z8⟩, st8⟩ := Jvm.LawKit.callS X7 hx (y := (⟨"com/example/bandmark/bandmark/PlainDecimalReadPinLaw", "bad", "([CIII)I"⟩ : MethodName)) hown (mvT hZ (own_W hw 45 rfl)) (mvT hZ (own_W hw 46 rfl)) (mvT hZ (own_W hw 3 rfl)) (mvT hZ (own_W hw 47 rfl)) (by decide) (backOf (W := 1) (r11w l Z a0 hw [] o6 (1 : Int32) i12 i9 cs 1 st b kc h0 n0 Z0 rfl h12 h9 hcs (by decide) hs hb3 C) hZ (own_W hw 47 rfl) (own_W hw 3 rfl) (by decide) (by decide)) (g := (mkF m 323 #[s0, s1, s2, s3, s4, s5, .val (.ref o6), s7, s8, .val (.int i9), s10, s11, .val (.int i12), s13, s14, s15, s16, s17, s18, s19, s20, s21, s22, s23, s24, s25, s26, s27, s28, s29, s30, s31, s32, s33, s34, s35, s36, s37, s38, s39] [(.int i9), (.int i12), (.int 1), (.ref o6), (.int (own_b (own_vb cs 0 st b)))])) rfl (by rw [hml]; rfl) (argsL := [(.ref o6), (.int 1), (.int i12), (.int i9)]) (rest := [(.int (own_b (own_vb cs 0 st b)))]) (lenOf pd_0_7 rfl) rfl (by show 2 * 0 + _ ≤ _; exact Nat.le_of_eq rfl) (hb hby at_323) (fun _ _ => ⟨rfl, e7, hcl, hsl⟩)
  dsimp only [Pt.U, Pt.locs, Pt.cells, Pt.slots] at X8 l8 y8 z8 st8 hQ8
  subst l8 y8 z8
  obtain ⟨rfl, N8q, e8⟩ := hQ8
  have N8 := Fr.app N7 N8q
  obtain ⟨_, _, ⟨T9, L9, k9, n9⟩, -, X9, ⟨Lc9, hQ9, l9, y9, z9⟩, st9⟩ := Jvm.LawKit.callS X8 hx (y := (⟨"com/example/bandmark/bandmark/PlainDecimalReadPinLaw", "bad", "([CIII)I"⟩ : MethodName)) hown (mvT hZ (own_W hw 45 rfl)) (mvT hZ (own_W hw 46 rfl)) (mvT hZ (own_W hw 3 rfl)) (mvT hZ (own_W hw 47 rfl)) (by decide) (backOf (W := 1) (r11w l Z a0 hw [] o6 (2 : Int32) i12 i9 cs 2 st b kc h0 n0 Z0 rfl h12 h9 hcs (by decide) hs hb3 C) hZ (own_W hw 47 rfl) (own_W hw 3 rfl) (by decide) (by decide)) (g := (mkF m 334 #[s0, s1, s2, s3, s4, s5, .val (.ref o6), s7, s8, .val (.int i9), s10, s11, .val (.int i12), s13, s14, s15, s16, s17, s18, s19, s20, s21, s22, s23, s24, s25, s26, s27, s28, s29, s30, s31, s32, s33, s34, s35, s36, s37, s38, s39] [(.int i9), (.int i12), (.int 2), (.ref o6), (.int ((own_b (own_vb cs 0 st b)) + (own_b (own_vb cs 1 st b))))])) rfl (by rw [hml]; rfl) (argsL := [(.ref o6), (.int 2), (.int i12), (.int i9)]) (rest := [(.int ((own_b (own_vb cs 0 st b)) + (own_b (own_vb cs 1 st b))))]) (lenOf pd_0_7 rfl) rfl (by show 2 * 0 + _ ≤ _; exact Nat.le_of_eq rfl) (hb hby at_334) (fun _ _ => ⟨rfl, e8, hcl, hsl⟩)
  dsimp only [Pt.U, Pt.locs, Pt.cells, Pt.slots] at X9 l9 y9 z9 st9 hQ9
  subst l9 y9 z9
  obtain ⟨rfl, N9q, e9⟩ := hQ9
  have N9 := Fr.app N8 N9q
  obtain ⟨_, _, ⟨T10, L10, k10, n10⟩, -, X10, ⟨Lc10, hQ10, l10, y10, z10⟩, st10⟩ := Jvm.LawKit.callS X9 hx (y := (⟨"com/example/bandmark/bandmark/PlainDecimalReadPinLaw", "bad", "([CIII)I"⟩ : MethodName)) hown (mvT hZ (own_W hw 45 rfl)) (mvT hZ (own_W hw 46 rfl)) (mvT hZ (own_W hw 3 rfl)) (mvT hZ (own_W hw 47 rfl)) (by decide) (backOf (W := 1) (r11w l Z a0 hw [] o6 (3 : Int32) i12 i9 cs 3 st b kc h0 n0 Z0 rfl h12 h9 hcs (by decide) hs hb3 C) hZ (own_W hw 47 rfl) (own_W hw 3 rfl) (by decide) (by decide)) (g := (mkF m 345 #[s0, s1, s2, s3, s4, s5, .val (.ref o6), s7, s8, .val (.int i9), s10, s11, .val (.int i12), s13, s14, s15, s16, s17, s18, s19, s20, s21, s22, s23, s24, s25, s26, s27, s28, s29, s30, s31, s32, s33, s34, s35, s36, s37, s38, s39] [(.int i9), (.int i12), (.int 3), (.ref o6), (.int (((own_b (own_vb cs 0 st b)) + (own_b (own_vb cs 1 st b))) + (own_b (own_vb cs 2 st b))))])) rfl (by rw [hml]; rfl) (argsL := [(.ref o6), (.int 3), (.int i12), (.int i9)]) (rest := [(.int (((own_b (own_vb cs 0 st b)) + (own_b (own_vb cs 1 st b))) + (own_b (own_vb cs 2 st b))))]) (lenOf pd_0_7 rfl) rfl (by show 2 * 0 + _ ≤ _; exact Nat.le_of_eq rfl) (hb hby at_345) (fun _ _ => ⟨rfl, e9, hcl, hsl⟩)
  dsimp only [Pt.U, Pt.locs, Pt.cells, Pt.slots] at X10 l10 y10 z10 st10 hQ10
  subst l10 y10 z10
  obtain ⟨rfl, N10q, e10⟩ := hQ10
  have N10 := Fr.app N9 N10q
  obtain ⟨_, _, ⟨T11, L11, k11, n11⟩, -, X11, ⟨Lc11, hQ11, l11, y11, z11⟩, st11⟩ := Jvm.LawKit.callS X10 hx (y := (⟨"com/example/bandmark/bandmark/PlainDecimalReadPinLaw", "bad", "([CIII)I"⟩ : MethodName)) hown (mvT hZ (own_W hw 45 rfl)) (mvT hZ (own_W hw 46 rfl)) (mvT hZ (own_W hw 3 rfl)) (mvT hZ (own_W hw 47 rfl)) (by decide) (backOf (W := 1) (r11w l Z a0 hw [] o6 (4 : Int32) i12 i9 cs 4 st b kc h0 n0 Z0 rfl h12 h9 hcs (by decide) hs hb3 C) hZ (own_W hw 47 rfl) (own_W hw 3 rfl) (by decide) (by decide)) (g := (mkF m 356 #[s0, s1, s2, s3, s4, s5, .val (.ref o6), s7, s8, .val (.int i9), s10, s11, .val (.int i12), s13, s14, s15, s16, s17, s18, s19, s20, s21, s22, s23, s24, s25, s26, s27, s28, s29, s30, s31, s32, s33, s34, s35, s36, s37, s38, s39] [(.int i9), (.int i12), (.int 4), (.ref o6), (.int ((((own_b (own_vb cs 0 st b)) + (own_b (own_vb cs 1 st b))) + (own_b (own_vb cs 2 st b))) + (own_b (own_vb cs 3 st b))))])) rfl (by rw [hml]; rfl) (argsL := [(.ref o6), (.int 4), (.int i12), (.int i9)]) (rest := [(.int ((((own_b (own_vb cs 0 st b)) + (own_b (own_vb cs 1 st b))) + (own_b (own_vb cs 2 st b))) + (own_b (own_vb cs 3 st b))))]) (lenOf pd_0_7 rfl) rfl (by show 2 * 0 + _ ≤ _; exact Nat.le_of_eq rfl) (hb hby at_356) (fun _ _ => ⟨rfl, e10, hcl, hsl⟩)
  dsimp only [Pt.U, Pt.locs, Pt.cells, Pt.slots] at X11 l11 y11 z11 st11 hQ11
  subst l11 y11 z11
  obtain ⟨rfl, N11q, e11⟩ := hQ11
  have N11 := Fr.app N10 N11q
  refine ⟨T11, _, X11, N11, e11, fun target kt => ?_⟩
  refine XS.aload X0.here hx rfl (hb hby at_306) rfl rfl ?_
  refine XS.iconst X0.here hx rfl (hb hby at_308) ?_
  refine XS.iload X0.here hx rfl (hb hby at_309) rfl ?_
  refine XS.iload X0.here hx rfl (hb hby at_311) rfl ?_
  refine st7 _ ?_
  refine XS.aload X7.here hx rfl (hb hby at_316) rfl rfl ?_
  refine XS.iconst X7.here hx rfl (hb hby at_318) ?_
  refine XS.iload X7.here hx rfl (hb hby at_319) rfl ?_
  refine XS.iload X7.here hx rfl (hb hby at_321) rfl ?_
  refine st8 _ ?_
  refine XS.iadd X8.here hx rfl (hb hby at_326) rfl ?_
  refine XS.aload X8.here hx rfl (hb hby at_327) rfl rfl ?_
  refine XS.iconst X8.here hx rfl (hb hby at_329) ?_
  refine XS.iload X8.here hx rfl (hb hby at_330) rfl ?_
  refine XS.iload X8.here hx rfl (hb hby at_332) rfl ?_
  refine st9 _ ?_
  refine XS.iadd X9.here hx rfl (hb hby at_337) rfl ?_
  refine XS.aload X9.here hx rfl (hb hby at_338) rfl rfl ?_
  refine XS.iconst X9.here hx rfl (hb hby at_340) ?_
  refine XS.iload X9.here hx rfl (hb hby at_341) rfl ?_
  refine XS.iload X9.here hx rfl (hb hby at_343) rfl ?_
  refine st10 _ ?_
  refine XS.iadd X10.here hx rfl (hb hby at_348) rfl ?_
  refine XS.aload X10.here hx rfl (hb hby at_349) rfl rfl ?_
  refine XS.iconst X10.here hx rfl (hb hby at_351) ?_
  refine XS.iload X10.here hx rfl (hb hby at_352) rfl ?_
  refine XS.iload X10.here hx rfl (hb hby at_354) rfl ?_
  refine st11 _ ?_
  refine XS.iadd X11.here hx rfl (hb hby at_359) rfl ?_
  refine XS.istore X11.here hx rfl (hb hby at_360) rfl (l' := #[s0, s1, s2, s3, s4, s5, .val (.ref o6), s7, s8, .val (.int i9), s10, s11, .val (.int i12), s13, s14, s15, s16, s17, s18, s19, s20, s21, s22, s23, s24, .val (.int (((((own_b (own_vb cs 0 st b)) + (own_b (own_vb cs 1 st b))) + (own_b (own_vb cs 2 st b))) + (own_b (own_vb cs 3 st b))) + (own_b (own_vb cs 4 st b)))), s26, s27, s28, s29, s30, s31, s32, s33, s34, s35, s36, s37, s38, s39]) (os0_360_own_Db hs25) ?_
  exact kt
theorem os0_517_own_Ds {s0 : Slot} {s1 : Slot} {s2 : Slot} {s3 : Slot} {s4 : Slot} {s5 : Slot} {z6 : Value} {s7 : Slot} {s8 : Slot} {z9 : Value} {s10 : Slot} {s11 : Slot} {z12 : Value} {s13 : Slot} {s14 : Slot} {s15 : Slot} {s16 : Slot} {s17 : Slot} {z18 : Value} {z19 : Value} {z20 : Value} {z21 : Value} {z22 : Value} {s23 : Slot} {s24 : Slot} {s25 : Slot} {s26 : Slot} {s27 : Slot} {s28 : Slot} {s29 : Slot} {s30 : Slot} {s31 : Slot} {s32 : Slot} {s33 : Slot} {s34 : Slot} {s35 : Slot} {s36 : Slot} {s37 : Slot} {s38 : Slot} {s39 : Slot} {v : Int32} (h : One s28) : storeLocals #[s0, s1, s2, s3, s4, s5, .val z6, s7, s8, .val z9, s10, s11, .val z12, s13, s14, s15, s16, s17, .val z18, .val z19, .val z20, .val z21, .val z22, s23, s24, s25, s26, s27, s28, s29, s30, s31, s32, s33, s34, s35, s36, s37, s38, s39] 28 (.int v) = some #[s0, s1, s2, s3, s4, s5, .val z6, s7, s8, .val z9, s10, s11, .val z12, s13, s14, s15, s16, s17, .val z18, .val z19, .val z20, .val z21, .val z22, s23, s24, s25, s26, s27, .val (.int v), s29, s30, s31, s32, s33, s34, s35, s36, s37, s38, s39] := by
  rcases h with rfl | ⟨w, rfl, hw⟩
  · rfl
  · cases w <;> first | rfl | (simp [Value.category] at hw)
set_option maxRecDepth 65536 in
set_option maxHeartbeats 40000000 in
theorem own_Ds {p : Program} {l : Launch} {e : Env} {s : State} {m : MethodId} {args : Array Value} {below : List Frame} {meth : Method} {c : Code} {T0 : State} {locs : List Loc} {cells slots : Nat} {Z : State} {a0 : Array Value} {h0 : Heap} (s0 : Slot) (s1 : Slot) (s2 : Slot) (s3 : Slot) (s4 : Slot) (s5 : Slot) (o6 : Addr) (s7 : Slot) (s8 : Slot) (i9 : Int32) (s10 : Slot) (s11 : Slot) (i12 : Int32) (s13 : Slot) (s14 : Slot) (s15 : Slot) (s16 : Slot) (s17 : Slot) (i18 : Int32) (i19 : Int32) (i20 : Int32) (i21 : Int32) (i22 : Int32) (s23 : Slot) (s24 : Slot) (s25 : Slot) (s26 : Slot) (s27 : Slot) (s28 : Slot) (s29 : Slot) (s30 : Slot) (s31 : Slot) (s32 : Slot) (s33 : Slot) (s34 : Slot) (s35 : Slot) (s36 : Slot) (s37 : Slot) (s38 : Slot) (s39 : Slot) (cs : List Int32) (st b : Nat) (kc : ClassId) (n0 : Nat)
    (X0 : Stand p l e room_1 s m args below meth c T0 locs cells slots) (hx : p.tables.exec = Jvm.exec) (hZ : Z.Warmed39 s.vm) (hw : ∀ d ∈ tables_1, d.before a0 Z = true) (hby : c.code = code) (hml : c.maxLocals = 40) (hown : s.vm.findClass "com/example/bandmark/bandmark/PlainDecimalReadPinLaw" = some m.cls) (e0 : T0.heap = h0) (h12 : i12 = Int32.ofNat st) (h9 : i9 = Int32.ofNat b) (hcs : cs.length = 5) (hs : st < 32) (hb3 : b < 32) (C : Arv Z h0 o6 kc .char (5 : Int32) (cs.map Value.int) (.int 0)) (Z0 : n0 ≤ h0.size) (N0 : Fr n0 locs) (hcl : cells ≤ room_1.cells) (hsl : slots ≤ room_1.slots) (hs28 : One s28) :
    ∃ (T' : State) (locs' : List Loc), Stand p l e room_1 s m args below meth c T' locs' cells slots ∧ Fr n0 locs' ∧ T'.heap = h0 ∧
      ∀ target, Steps p.tables e below (T'.setTop (mkF m 519 #[s0, s1, s2, s3, s4, s5, .val (.ref o6), s7, s8, .val (.int i9), s10, s11, .val (.int i12), s13, s14, s15, s16, s17, .val (.int i18), .val (.int i19), .val (.int i20), .val (.int i21), .val (.int i22), s23, s24, s25, s26, s27, .val (.int ((((((own_b (own_vp cs 0 st b)) * i22) + ((own_b (own_vp cs 1 st b)) * i21)) + ((own_b (own_vp cs 2 st b)) * i20)) + ((own_b (own_vp cs 3 st b)) * i19)) + ((own_b (own_vp cs 4 st b)) * i18))), s29, s30, s31, s32, s33, s34, s35, s36, s37, s38, s39] [])) target → Steps p.tables e below (T0.setTop (mkF m 448 #[s0, s1, s2, s3, s4, s5, .val (.ref o6), s7, s8, .val (.int i9), s10, s11, .val (.int i12), s13, s14, s15, s16, s17, .val (.int i18), .val (.int i19), .val (.int i20), .val (.int i21), .val (.int i22), s23, s24, s25, s26, s27, s28, s29, s30, s31, s32, s33, s34, s35, s36, s37, s38, s39] [])) target := by
  obtain ⟨_, _, ⟨T7, L7, k7, n7⟩, -, X7, ⟨Lc7, hQ7, l7, y7, z7⟩, st7⟩ := Jvm.LawKit.callS X0 hx (y := (⟨"com/example/bandmark/bandmark/PlainDecimalReadPinLaw", "pt", "([CIII)I"⟩ : MethodName)) hown (mvT hZ (own_W hw 42 rfl)) (mvT hZ (own_W hw 43 rfl)) (mvT hZ (own_W hw 3 rfl)) (mvT hZ (own_W hw 44 rfl)) (by decide) (backOf (W := 0) (r10w l Z a0 hw [] o6 (0 : Int32) i12 i9 cs 0 st b kc h0 n0 Z0 rfl h12 h9 hcs (by decide) hs hb3 C) hZ (own_W hw 44 rfl) (own_W hw 3 rfl) (by decide) (by decide)) (g := (mkF m 455 #[s0, s1, s2, s3, s4, s5, .val (.ref o6), s7, s8, .val (.int i9), s10, s11, .val (.int i12), s13, s14, s15, s16, s17, .val (.int i18), .val (.int i19), .val (.int i20), .val (.int i21), .val (.int i22), s23, s24, s25, s26, s27, s28, s29, s30, s31, s32, s33, s34, s35, s36, s37, s38, s39] [(.int i9), (.int i12), (.int 0), (.ref o6)])) rfl (by rw [hml]; rfl) (argsL := [(.ref o6), (.int 0), (.int i12), (.int i9)]) (rest := []) (lenOf pd_0_7 rfl) rfl (by show 2 * 0 + _ ≤ _; exact Nat.le_of_eq rfl) (hb hby at_455) (fun _ _ => ⟨rfl, e0, hcl, hsl⟩)
  dsimp only [Pt.U, Pt.locs, Pt.cells, Pt.slots] at X7 l7 y7 z7 st7 hQ7
  subst l7 y7 z7
  obtain ⟨rfl, N7q, e7⟩ := hQ7
  have N7 := Fr.app N0 N7q
  obtain ⟨_, _, ⟨T8, L8, k8, n8⟩, -, X8, ⟨Lc8, hQ8, l8, y8, z8⟩, st8⟩ := Jvm.LawKit.callS X7 hx (y := (⟨"com/example/bandmark/bandmark/PlainDecimalReadPinLaw", "pt", "([CIII)I"⟩ : MethodName)) hown (mvT hZ (own_W hw 42 rfl)) (mvT hZ (own_W hw 43 rfl)) (mvT hZ (own_W hw 3 rfl)) (mvT hZ (own_W hw 44 rfl)) (by decide) (backOf (W := 1) (r10w l Z a0 hw [] o6 (1 : Int32) i12 i9 cs 1 st b kc h0 n0 Z0 rfl h12 h9 hcs (by decide) hs hb3 C) hZ (own_W hw 44 rfl) (own_W hw 3 rfl) (by decide) (by decide)) (g := (mkF m 468 #[s0, s1, s2, s3, s4, s5, .val (.ref o6), s7, s8, .val (.int i9), s10, s11, .val (.int i12), s13, s14, s15, s16, s17, .val (.int i18), .val (.int i19), .val (.int i20), .val (.int i21), .val (.int i22), s23, s24, s25, s26, s27, s28, s29, s30, s31, s32, s33, s34, s35, s36, s37, s38, s39] [(.int i9), (.int i12), (.int 1), (.ref o6), (.int ((own_b (own_vp cs 0 st b)) * i22))])) rfl (by rw [hml]; rfl) (argsL := [(.ref o6), (.int 1), (.int i12), (.int i9)]) (rest := [(.int ((own_b (own_vp cs 0 st b)) * i22))]) (lenOf pd_0_7 rfl) rfl (by show 2 * 0 + _ ≤ _; exact Nat.le_of_eq rfl) (hb hby at_468) (fun _ _ => ⟨rfl, e7, hcl, hsl⟩)
  dsimp only [Pt.U, Pt.locs, Pt.cells, Pt.slots] at X8 l8 y8 z8 st8 hQ8
  subst l8 y8 z8
  obtain ⟨rfl, N8q, e8⟩ := hQ8
  have N8 := Fr.app N7 N8q
  obtain ⟨_, _, ⟨T9, L9, k9, n9⟩, -, X9, ⟨Lc9, hQ9, l9, y9, z9⟩, st9⟩ := Jvm.LawKit.callS X8 hx (y := (⟨"com/example/bandmark/bandmark/PlainDecimalReadPinLaw", "pt", "([CIII)I"⟩ : MethodName)) hown (mvT hZ (own_W hw 42 rfl)) (mvT hZ (own_W hw 43 rfl)) (mvT hZ (own_W hw 3 rfl)) (mvT hZ (own_W hw 44 rfl)) (by decide) (backOf (W := 1) (r10w l Z a0 hw [] o6 (2 : Int32) i12 i9 cs 2 st b kc h0 n0 Z0 rfl h12 h9 hcs (by decide) hs hb3 C) hZ (own_W hw 44 rfl) (own_W hw 3 rfl) (by decide) (by decide)) (g := (mkF m 482 #[s0, s1, s2, s3, s4, s5, .val (.ref o6), s7, s8, .val (.int i9), s10, s11, .val (.int i12), s13, s14, s15, s16, s17, .val (.int i18), .val (.int i19), .val (.int i20), .val (.int i21), .val (.int i22), s23, s24, s25, s26, s27, s28, s29, s30, s31, s32, s33, s34, s35, s36, s37, s38, s39] [(.int i9), (.int i12), (.int 2), (.ref o6), (.int (((own_b (own_vp cs 0 st b)) * i22) + ((own_b (own_vp cs 1 st b)) * i21)))])) rfl (by rw [hml]; rfl) (argsL := [(.ref o6), (.int 2), (.int i12), (.int i9)]) (rest := [(.int (((own_b (own_vp cs 0 st b)) * i22) + ((own_b (own_vp cs 1 st b)) * i21)))]) (lenOf pd_0_7 rfl) rfl (by show 2 * 0 + _ ≤ _; exact Nat.le_of_eq rfl) (hb hby at_482) (fun _ _ => ⟨rfl, e8, hcl, hsl⟩)
  dsimp only [Pt.U, Pt.locs, Pt.cells, Pt.slots] at X9 l9 y9 z9 st9 hQ9
  subst l9 y9 z9
  obtain ⟨rfl, N9q, e9⟩ := hQ9
  have N9 := Fr.app N8 N9q
  obtain ⟨_, _, ⟨T10, L10, k10, n10⟩, -, X10, ⟨Lc10, hQ10, l10, y10, z10⟩, st10⟩ := Jvm.LawKit.callS X9 hx (y := (⟨"com/example/bandmark/bandmark/PlainDecimalReadPinLaw", "pt", "([CIII)I"⟩ : MethodName)) hown (mvT hZ (own_W hw 42 rfl)) (mvT hZ (own_W hw 43 rfl)) (mvT hZ (own_W hw 3 rfl)) (mvT hZ (own_W hw 44 rfl)) (by decide) (backOf (W := 1) (r10w l Z a0 hw [] o6 (3 : Int32) i12 i9 cs 3 st b kc h0 n0 Z0 rfl h12 h9 hcs (by decide) hs hb3 C) hZ (own_W hw 44 rfl) (own_W hw 3 rfl) (by decide) (by decide)) (g := (mkF m 496 #[s0, s1, s2, s3, s4, s5, .val (.ref o6), s7, s8, .val (.int i9), s10, s11, .val (.int i12), s13, s14, s15, s16, s17, .val (.int i18), .val (.int i19), .val (.int i20), .val (.int i21), .val (.int i22), s23, s24, s25, s26, s27, s28, s29, s30, s31, s32, s33, s34, s35, s36, s37, s38, s39] [(.int i9), (.int i12), (.int 3), (.ref o6), (.int ((((own_b (own_vp cs 0 st b)) * i22) + ((own_b (own_vp cs 1 st b)) * i21)) + ((own_b (own_vp cs 2 st b)) * i20)))])) rfl (by rw [hml]; rfl) (argsL := [(.ref o6), (.int 3), (.int i12), (.int i9)]) (rest := [(.int ((((own_b (own_vp cs 0 st b)) * i22) + ((own_b (own_vp cs 1 st b)) * i21)) + ((own_b (own_vp cs 2 st b)) * i20)))]) (lenOf pd_0_7 rfl) rfl (by show 2 * 0 + _ ≤ _; exact Nat.le_of_eq rfl) (hb hby at_496) (fun _ _ => ⟨rfl, e9, hcl, hsl⟩)
  dsimp only [Pt.U, Pt.locs, Pt.cells, Pt.slots] at X10 l10 y10 z10 st10 hQ10
  subst l10 y10 z10
  obtain ⟨rfl, N10q, e10⟩ := hQ10
  have N10 := Fr.app N9 N10q
  obtain ⟨_, _, ⟨T11, L11, k11, n11⟩, -, X11, ⟨Lc11, hQ11, l11, y11, z11⟩, st11⟩ := Jvm.LawKit.callS X10 hx (y := (⟨"com/example/bandmark/bandmark/PlainDecimalReadPinLaw", "pt", "([CIII)I"⟩ : MethodName)) hown (mvT hZ (own_W hw 42 rfl)) (mvT hZ (own_W hw 43 rfl)) (mvT hZ (own_W hw 3 rfl)) (mvT hZ (own_W hw 44 rfl)) (by decide) (backOf (W := 1) (r10w l Z a0 hw [] o6 (4 : Int32) i12 i9 cs 4 st b kc h0 n0 Z0 rfl h12 h9 hcs (by decide) hs hb3 C) hZ (own_W hw 44 rfl) (own_W hw 3 rfl) (by decide) (by decide)) (g := (mkF m 510 #[s0, s1, s2, s3, s4, s5, .val (.ref o6), s7, s8, .val (.int i9), s10, s11, .val (.int i12), s13, s14, s15, s16, s17, .val (.int i18), .val (.int i19), .val (.int i20), .val (.int i21), .val (.int i22), s23, s24, s25, s26, s27, s28, s29, s30, s31, s32, s33, s34, s35, s36, s37, s38, s39] [(.int i9), (.int i12), (.int 4), (.ref o6), (.int (((((own_b (own_vp cs 0 st b)) * i22) + ((own_b (own_vp cs 1 st b)) * i21)) + ((own_b (own_vp cs 2 st b)) * i20)) + ((own_b (own_vp cs 3 st b)) * i19)))])) rfl (by rw [hml]; rfl) (argsL := [(.ref o6), (.int 4), (.int i12), (.int i9)]) (rest := [(.int (((((own_b (own_vp cs 0 st b)) * i22) + ((own_b (own_vp cs 1 st b)) * i21)) + ((own_b (own_vp cs 2 st b)) * i20)) + ((own_b (own_vp cs 3 st b)) * i19)))]) (lenOf pd_0_7 rfl) rfl (by show 2 * 0 + _ ≤ _; exact Nat.le_of_eq rfl) (hb hby at_510) (fun _ _ => ⟨rfl, e10, hcl, hsl⟩)
  dsimp only [Pt.U, Pt.locs, Pt.cells, Pt.slots] at X11 l11 y11 z11 st11 hQ11
  subst l11 y11 z11
  obtain ⟨rfl, N11q, e11⟩ := hQ11
  have N11 := Fr.app N10 N11q
  refine ⟨T11, _, X11, N11, e11, fun target kt => ?_⟩
  refine XS.aload X0.here hx rfl (hb hby at_448) rfl rfl ?_
  refine XS.iconst X0.here hx rfl (hb hby at_450) ?_
  refine XS.iload X0.here hx rfl (hb hby at_451) rfl ?_
  refine XS.iload X0.here hx rfl (hb hby at_453) rfl ?_
  refine st7 _ ?_
  refine XS.iload X7.here hx rfl (hb hby at_458) rfl ?_
  refine XS.imul X7.here hx rfl (hb hby at_460) rfl ?_
  refine XS.aload X7.here hx rfl (hb hby at_461) rfl rfl ?_
  refine XS.iconst X7.here hx rfl (hb hby at_463) ?_
  refine XS.iload X7.here hx rfl (hb hby at_464) rfl ?_
  refine XS.iload X7.here hx rfl (hb hby at_466) rfl ?_
  refine st8 _ ?_
  refine XS.iload X8.here hx rfl (hb hby at_471) rfl ?_
  refine XS.imul X8.here hx rfl (hb hby at_473) rfl ?_
  refine XS.iadd X8.here hx rfl (hb hby at_474) rfl ?_
  refine XS.aload X8.here hx rfl (hb hby at_475) rfl rfl ?_
  refine XS.iconst X8.here hx rfl (hb hby at_477) ?_
  refine XS.iload X8.here hx rfl (hb hby at_478) rfl ?_
  refine XS.iload X8.here hx rfl (hb hby at_480) rfl ?_
  refine st9 _ ?_
  refine XS.iload X9.here hx rfl (hb hby at_485) rfl ?_
  refine XS.imul X9.here hx rfl (hb hby at_487) rfl ?_
  refine XS.iadd X9.here hx rfl (hb hby at_488) rfl ?_
  refine XS.aload X9.here hx rfl (hb hby at_489) rfl rfl ?_
  refine XS.iconst X9.here hx rfl (hb hby at_491) ?_
  refine XS.iload X9.here hx rfl (hb hby at_492) rfl ?_
  refine XS.iload X9.here hx rfl (hb hby at_494) rfl ?_
  refine st10 _ ?_
  refine XS.iload X10.here hx rfl (hb hby at_499) rfl ?_
  refine XS.imul X10.here hx rfl (hb hby at_501) rfl ?_
  refine XS.iadd X10.here hx rfl (hb hby at_502) rfl ?_
  refine XS.aload X10.here hx rfl (hb hby at_503) rfl rfl ?_
  refine XS.iconst X10.here hx rfl (hb hby at_505) ?_
  refine XS.iload X10.here hx rfl (hb hby at_506) rfl ?_
  refine XS.iload X10.here hx rfl (hb hby at_508) rfl ?_
  refine st11 _ ?_
  refine XS.iload X11.here hx rfl (hb hby at_513) rfl ?_
  refine XS.imul X11.here hx rfl (hb hby at_515) rfl ?_
  refine XS.iadd X11.here hx rfl (hb hby at_516) rfl ?_
  refine XS.istore X11.here hx rfl (hb hby at_517) rfl (l' := #[s0, s1, s2, s3, s4, s5, .val (.ref o6), s7, s8, .val (.int i9), s10, s11, .val (.int i12), s13, s14, s15, s16, s17, .val (.int i18), .val (.int i19), .val (.int i20), .val (.int i21), .val (.int i22), s23, s24, s25, s26, s27, .val (.int ((((((own_b (own_vp cs 0 st b)) * i22) + ((own_b (own_vp cs 1 st b)) * i21)) + ((own_b (own_vp cs 2 st b)) * i20)) + ((own_b (own_vp cs 3 st b)) * i19)) + ((own_b (own_vp cs 4 st b)) * i18))), s29, s30, s31, s32, s33, s34, s35, s36, s37, s38, s39]) (os0_517_own_Ds hs28) ?_
  exact kt
theorem pd_0_9 : parseMethodDescriptor "([CIII)J" = some ⟨[(.array .char), .int, .int, .int], some .long⟩ := by decide +kernel
theorem pd_0_10 : parseMethodDescriptor "(I)J" = some ⟨[.int], some .long⟩ := by decide +kernel
set_option maxRecDepth 65536 in
set_option maxHeartbeats 40000000 in
theorem own_Du {p : Program} {l : Launch} {e : Env} {s : State} {m : MethodId} {args : Array Value} {below : List Frame} {meth : Method} {c : Code} {T0 : State} {locs : List Loc} {cells slots : Nat} {Z : State} {a0 : Array Value} {h0 : Heap} (s0 : Slot) (s1 : Slot) (s2 : Slot) (s3 : Slot) (s4 : Slot) (s5 : Slot) (o6 : Addr) (s7 : Slot) (s8 : Slot) (i9 : Int32) (s10 : Slot) (s11 : Slot) (i12 : Int32) (s13 : Slot) (s14 : Slot) (s15 : Slot) (s16 : Slot) (s17 : Slot) (i18 : Int32) (i19 : Int32) (i20 : Int32) (i21 : Int32) (i22 : Int32) (s23 : Slot) (s24 : Slot) (s25 : Slot) (s28 : Slot) (s29 : Slot) (s30 : Slot) (s31 : Slot) (s32 : Slot) (s33 : Slot) (s34 : Slot) (s35 : Slot) (s36 : Slot) (s37 : Slot) (s38 : Slot) (s39 : Slot) (cs : List Int32) (st b : Nat) (kc : ClassId) (A0 A1 A2 A3 A4 : Nat) (n0 : Nat)
    (X0 : Stand p l e room_1 s m args below meth c T0 locs cells slots) (hx : p.tables.exec = Jvm.exec) (hZ : Z.Warmed39 s.vm) (hw : ∀ d ∈ tables_1, d.before a0 Z = true) (hby : c.code = code) (hml : c.maxLocals = 40) (hown : s.vm.findClass "com/example/bandmark/bandmark/PlainDecimalReadPinLaw" = some m.cls) (e0 : T0.heap = h0) (h12 : i12 = Int32.ofNat st) (h9 : i9 = Int32.ofNat b) (hcs : cs.length = 5) (hs : st < 32) (hb3 : b < 32) (C : Arv Z h0 o6 kc .char (5 : Int32) (cs.map Value.int) (.int 0)) (h22 : i22 = Int32.ofNat A0) (hA0 : A0 < 5) (h21 : i21 = Int32.ofNat A1) (hA1 : A1 < 5) (h20 : i20 = Int32.ofNat A2) (hA2 : A2 < 5) (h19 : i19 = Int32.ofNat A3) (hA3 : A3 < 5) (h18 : i18 = Int32.ofNat A4) (hA4 : A4 < 5) (Z0 : n0 ≤ h0.size) (N0 : Fr n0 locs) (hcl : cells ≤ room_1.cells) (hsl : slots ≤ room_1.slots) :
    ∃ (T' : State) (locs' : List Loc), Stand p l e room_1 s m args below meth c T' locs' cells slots ∧ Fr n0 locs' ∧ T'.heap = h0 ∧
      ∀ target, Steps p.tables e below (T'.setTop (mkF m 448 #[s0, s1, s2, s3, s4, s5, .val (.ref o6), s7, s8, .val (.int i9), s10, s11, .val (.int i12), s13, s14, s15, s16, s17, .val (.int i18), .val (.int i19), .val (.int i20), .val (.int i21), .val (.int i22), s23, s24, s25, .val (.long ((((((Int64.ofNat (own_dvn cs 0 st b)) * (Int64.ofNat (10 ^ A0))) + ((Int64.ofNat (own_dvn cs 1 st b)) * (Int64.ofNat (10 ^ A1)))) + ((Int64.ofNat (own_dvn cs 2 st b)) * (Int64.ofNat (10 ^ A2)))) + ((Int64.ofNat (own_dvn cs 3 st b)) * (Int64.ofNat (10 ^ A3)))) + ((Int64.ofNat (own_dvn cs 4 st b)) * (Int64.ofNat (10 ^ A4))))), .second, s28, s29, s30, s31, s32, s33, s34, s35, s36, s37, s38, s39] [])) target → Steps p.tables e below (T0.setTop (mkF m 362 #[s0, s1, s2, s3, s4, s5, .val (.ref o6), s7, s8, .val (.int i9), s10, s11, .val (.int i12), s13, s14, s15, s16, s17, .val (.int i18), .val (.int i19), .val (.int i20), .val (.int i21), .val (.int i22), s23, s24, s25, .unset, .unset, s28, s29, s30, s31, s32, s33, s34, s35, s36, s37, s38, s39] [])) target := by
  obtain ⟨_, _, ⟨T7, L7, k7, n7⟩, -, X7, ⟨Lc7, hQ7, l7, y7, z7⟩, st7⟩ := Jvm.LawKit.callS X0 hx (y := (⟨"com/example/bandmark/bandmark/PlainDecimalReadPinLaw", "dv", "([CIII)J"⟩ : MethodName)) hown (mvT hZ (own_W hw 48 rfl)) (mvT hZ (own_W hw 49 rfl)) (mvT hZ (own_W hw 3 rfl)) (mvT hZ (own_W hw 50 rfl)) (by decide) (backOf (W := 0) (r12w l Z a0 hw [] o6 (0 : Int32) i12 i9 cs 0 st b kc h0 n0 Z0 rfl h12 h9 hcs (by decide) hs hb3 C) hZ (own_W hw 50 rfl) (own_W hw 3 rfl) (by decide) (by decide)) (g := (mkF m 369 #[s0, s1, s2, s3, s4, s5, .val (.ref o6), s7, s8, .val (.int i9), s10, s11, .val (.int i12), s13, s14, s15, s16, s17, .val (.int i18), .val (.int i19), .val (.int i20), .val (.int i21), .val (.int i22), s23, s24, s25, .unset, .unset, s28, s29, s30, s31, s32, s33, s34, s35, s36, s37, s38, s39] [(.int i9), (.int i12), (.int 0), (.ref o6)])) rfl (by rw [hml]; rfl) (argsL := [(.ref o6), (.int 0), (.int i12), (.int i9)]) (rest := []) (lenOf pd_0_9 rfl) rfl (by show 2 * 0 + _ ≤ _; exact Nat.le_of_eq rfl) (hb hby at_369) (fun _ _ => ⟨rfl, e0, hcl, hsl⟩)
  dsimp only [Pt.U, Pt.locs, Pt.cells, Pt.slots] at X7 l7 y7 z7 st7 hQ7
  subst l7 y7 z7
  obtain ⟨rfl, N7q, e7⟩ := hQ7
  have N7 := Fr.app N0 N7q
  obtain ⟨_, _, ⟨T8, L8, k8, n8⟩, -, X8, ⟨Lc8, hQ8, l8, y8, z8⟩, st8⟩ := Jvm.LawKit.callS X7 hx (y := (⟨"com/example/bandmark/bandmark/PlainDecimalReadPinLaw", "p10", "(I)J"⟩ : MethodName)) hown (mvT hZ (own_W hw 51 rfl)) (mvT hZ (own_W hw 52 rfl)) (mvT hZ (own_W hw 3 rfl)) (mvT hZ (own_W hw 53 rfl)) (by decide) (backOf (W := 2) (r13w l Z a0 hw [] i22 A0 h0 n0 Z0 h22 hA0) hZ (own_W hw 53 rfl) (own_W hw 3 rfl) (by decide) (by decide)) (g := (mkF m 374 #[s0, s1, s2, s3, s4, s5, .val (.ref o6), s7, s8, .val (.int i9), s10, s11, .val (.int i12), s13, s14, s15, s16, s17, .val (.int i18), .val (.int i19), .val (.int i20), .val (.int i21), .val (.int i22), s23, s24, s25, .unset, .unset, s28, s29, s30, s31, s32, s33, s34, s35, s36, s37, s38, s39] [(.int i22), (.long (Int64.ofNat (own_dvn cs 0 st b)))])) rfl (by rw [hml]; rfl) (argsL := [(.int i22)]) (rest := [(.long (Int64.ofNat (own_dvn cs 0 st b)))]) (lenOf pd_0_10 rfl) rfl (by show 2 * 0 + _ ≤ _; exact Nat.le_of_eq rfl) (hb hby at_374) (fun _ _ => ⟨rfl, e7, hcl, hsl⟩)
  dsimp only [Pt.U, Pt.locs, Pt.cells, Pt.slots] at X8 l8 y8 z8 st8 hQ8
  subst l8 y8 z8
  obtain ⟨rfl, N8q, e8⟩ := hQ8
  have N8 := Fr.app N7 N8q
  obtain ⟨_, _, ⟨T9, L9, k9, n9⟩, -, X9, ⟨Lc9, hQ9, l9, y9, z9⟩, st9⟩ := Jvm.LawKit.callS X8 hx (y := (⟨"com/example/bandmark/bandmark/PlainDecimalReadPinLaw", "dv", "([CIII)J"⟩ : MethodName)) hown (mvT hZ (own_W hw 48 rfl)) (mvT hZ (own_W hw 49 rfl)) (mvT hZ (own_W hw 3 rfl)) (mvT hZ (own_W hw 50 rfl)) (by decide) (backOf (W := 2) (r12w l Z a0 hw [] o6 (1 : Int32) i12 i9 cs 1 st b kc h0 n0 Z0 rfl h12 h9 hcs (by decide) hs hb3 C) hZ (own_W hw 50 rfl) (own_W hw 3 rfl) (by decide) (by decide)) (g := (mkF m 385 #[s0, s1, s2, s3, s4, s5, .val (.ref o6), s7, s8, .val (.int i9), s10, s11, .val (.int i12), s13, s14, s15, s16, s17, .val (.int i18), .val (.int i19), .val (.int i20), .val (.int i21), .val (.int i22), s23, s24, s25, .unset, .unset, s28, s29, s30, s31, s32, s33, s34, s35, s36, s37, s38, s39] [(.int i9), (.int i12), (.int 1), (.ref o6), (.long ((Int64.ofNat (own_dvn cs 0 st b)) * (Int64.ofNat (10 ^ A0))))])) rfl (by rw [hml]; rfl) (argsL := [(.ref o6), (.int 1), (.int i12), (.int i9)]) (rest := [(.long ((Int64.ofNat (own_dvn cs 0 st b)) * (Int64.ofNat (10 ^ A0))))]) (lenOf pd_0_9 rfl) rfl (by show 2 * 0 + _ ≤ _; exact Nat.le_of_eq rfl) (hb hby at_385) (fun _ _ => ⟨rfl, e8, hcl, hsl⟩)
  dsimp only [Pt.U, Pt.locs, Pt.cells, Pt.slots] at X9 l9 y9 z9 st9 hQ9
  subst l9 y9 z9
  obtain ⟨rfl, N9q, e9⟩ := hQ9
  have N9 := Fr.app N8 N9q
  obtain ⟨_, _, ⟨T10, L10, k10, n10⟩, -, X10, ⟨Lc10, hQ10, l10, y10, z10⟩, st10⟩ := Jvm.LawKit.callS X9 hx (y := (⟨"com/example/bandmark/bandmark/PlainDecimalReadPinLaw", "p10", "(I)J"⟩ : MethodName)) hown (mvT hZ (own_W hw 51 rfl)) (mvT hZ (own_W hw 52 rfl)) (mvT hZ (own_W hw 3 rfl)) (mvT hZ (own_W hw 53 rfl)) (by decide) (backOf (W := 4) (r13w l Z a0 hw [] i21 A1 h0 n0 Z0 h21 hA1) hZ (own_W hw 53 rfl) (own_W hw 3 rfl) (by decide) (by decide)) (g := (mkF m 390 #[s0, s1, s2, s3, s4, s5, .val (.ref o6), s7, s8, .val (.int i9), s10, s11, .val (.int i12), s13, s14, s15, s16, s17, .val (.int i18), .val (.int i19), .val (.int i20), .val (.int i21), .val (.int i22), s23, s24, s25, .unset, .unset, s28, s29, s30, s31, s32, s33, s34, s35, s36, s37, s38, s39] [(.int i21), (.long (Int64.ofNat (own_dvn cs 1 st b))), (.long ((Int64.ofNat (own_dvn cs 0 st b)) * (Int64.ofNat (10 ^ A0))))])) rfl (by rw [hml]; rfl) (argsL := [(.int i21)]) (rest := [(.long (Int64.ofNat (own_dvn cs 1 st b))), (.long ((Int64.ofNat (own_dvn cs 0 st b)) * (Int64.ofNat (10 ^ A0))))]) (lenOf pd_0_10 rfl) rfl (by show 2 * 0 + _ ≤ _; exact Nat.le_of_eq rfl) (hb hby at_390) (fun _ _ => ⟨rfl, e9, hcl, hsl⟩)
  dsimp only [Pt.U, Pt.locs, Pt.cells, Pt.slots] at X10 l10 y10 z10 st10 hQ10
  subst l10 y10 z10
  obtain ⟨rfl, N10q, e10⟩ := hQ10
  have N10 := Fr.app N9 N10q
  obtain ⟨_, _, ⟨T11, L11, k11, n11⟩, -, X11, ⟨Lc11, hQ11, l11, y11, z11⟩, st11⟩ := Jvm.LawKit.callS X10 hx (y := (⟨"com/example/bandmark/bandmark/PlainDecimalReadPinLaw", "dv", "([CIII)J"⟩ : MethodName)) hown (mvT hZ (own_W hw 48 rfl)) (mvT hZ (own_W hw 49 rfl)) (mvT hZ (own_W hw 3 rfl)) (mvT hZ (own_W hw 50 rfl)) (by decide) (backOf (W := 2) (r12w l Z a0 hw [] o6 (2 : Int32) i12 i9 cs 2 st b kc h0 n0 Z0 rfl h12 h9 hcs (by decide) hs hb3 C) hZ (own_W hw 50 rfl) (own_W hw 3 rfl) (by decide) (by decide)) (g := (mkF m 402 #[s0, s1, s2, s3, s4, s5, .val (.ref o6), s7, s8, .val (.int i9), s10, s11, .val (.int i12), s13, s14, s15, s16, s17, .val (.int i18), .val (.int i19), .val (.int i20), .val (.int i21), .val (.int i22), s23, s24, s25, .unset, .unset, s28, s29, s30, s31, s32, s33, s34, s35, s36, s37, s38, s39] [(.int i9), (.int i12), (.int 2), (.ref o6), (.long (((Int64.ofNat (own_dvn cs 0 st b)) * (Int64.ofNat (10 ^ A0))) + ((Int64.ofNat (own_dvn cs 1 st b)) * (Int64.ofNat (10 ^ A1)))))])) rfl (by rw [hml]; rfl) (argsL := [(.ref o6), (.int 2), (.int i12), (.int i9)]) (rest := [(.long (((Int64.ofNat (own_dvn cs 0 st b)) * (Int64.ofNat (10 ^ A0))) + ((Int64.ofNat (own_dvn cs 1 st b)) * (Int64.ofNat (10 ^ A1)))))]) (lenOf pd_0_9 rfl) rfl (by show 2 * 0 + _ ≤ _; exact Nat.le_of_eq rfl) (hb hby at_402) (fun _ _ => ⟨rfl, e10, hcl, hsl⟩)
  dsimp only [Pt.U, Pt.locs, Pt.cells, Pt.slots] at X11 l11 y11 z11 st11 hQ11
  subst l11 y11 z11
  obtain ⟨rfl, N11q, e11⟩ := hQ11
  have N11 := Fr.app N10 N11q
  obtain ⟨_, _, ⟨T12, L12, k12, n12⟩, -, X12, ⟨Lc12, hQ12, l12, y12, z12⟩, st12⟩ := Jvm.LawKit.callS X11 hx (y := (⟨"com/example/bandmark/bandmark/PlainDecimalReadPinLaw", "p10", "(I)J"⟩ : MethodName)) hown (mvT hZ (own_W hw 51 rfl)) (mvT hZ (own_W hw 52 rfl)) (mvT hZ (own_W hw 3 rfl)) (mvT hZ (own_W hw 53 rfl)) (by decide) (backOf (W := 4) (r13w l Z a0 hw [] i20 A2 h0 n0 Z0 h20 hA2) hZ (own_W hw 53 rfl) (own_W hw 3 rfl) (by decide) (by decide)) (g := (mkF m 407 #[s0, s1, s2, s3, s4, s5, .val (.ref o6), s7, s8, .val (.int i9), s10, s11, .val (.int i12), s13, s14, s15, s16, s17, .val (.int i18), .val (.int i19), .val (.int i20), .val (.int i21), .val (.int i22), s23, s24, s25, .unset, .unset, s28, s29, s30, s31, s32, s33, s34, s35, s36, s37, s38, s39] [(.int i20), (.long (Int64.ofNat (own_dvn cs 2 st b))), (.long (((Int64.ofNat (own_dvn cs 0 st b)) * (Int64.ofNat (10 ^ A0))) + ((Int64.ofNat (own_dvn cs 1 st b)) * (Int64.ofNat (10 ^ A1)))))])) rfl (by rw [hml]; rfl) (argsL := [(.int i20)]) (rest := [(.long (Int64.ofNat (own_dvn cs 2 st b))), (.long (((Int64.ofNat (own_dvn cs 0 st b)) * (Int64.ofNat (10 ^ A0))) + ((Int64.ofNat (own_dvn cs 1 st b)) * (Int64.ofNat (10 ^ A1)))))]) (lenOf pd_0_10 rfl) rfl (by show 2 * 0 + _ ≤ _; exact Nat.le_of_eq rfl) (hb hby at_407) (fun _ _ => ⟨rfl, e11, hcl, hsl⟩)
  dsimp only [Pt.U, Pt.locs, Pt.cells, Pt.slots] at X12 l12 y12 z12 st12 hQ12
  subst l12 y12 z12
  obtain ⟨rfl, N12q, e12⟩ := hQ12
  have N12 := Fr.app N11 N12q
  obtain ⟨_, _, ⟨T13, L13, k13, n13⟩, -, X13, ⟨Lc13, hQ13, l13, y13, z13⟩, st13⟩ := Jvm.LawKit.callS X12 hx (y := (⟨"com/example/bandmark/bandmark/PlainDecimalReadPinLaw", "dv", "([CIII)J"⟩ : MethodName)) hown (mvT hZ (own_W hw 48 rfl)) (mvT hZ (own_W hw 49 rfl)) (mvT hZ (own_W hw 3 rfl)) (mvT hZ (own_W hw 50 rfl)) (by decide) (backOf (W := 2) (r12w l Z a0 hw [] o6 (3 : Int32) i12 i9 cs 3 st b kc h0 n0 Z0 rfl h12 h9 hcs (by decide) hs hb3 C) hZ (own_W hw 50 rfl) (own_W hw 3 rfl) (by decide) (by decide)) (g := (mkF m 419 #[s0, s1, s2, s3, s4, s5, .val (.ref o6), s7, s8, .val (.int i9), s10, s11, .val (.int i12), s13, s14, s15, s16, s17, .val (.int i18), .val (.int i19), .val (.int i20), .val (.int i21), .val (.int i22), s23, s24, s25, .unset, .unset, s28, s29, s30, s31, s32, s33, s34, s35, s36, s37, s38, s39] [(.int i9), (.int i12), (.int 3), (.ref o6), (.long ((((Int64.ofNat (own_dvn cs 0 st b)) * (Int64.ofNat (10 ^ A0))) + ((Int64.ofNat (own_dvn cs 1 st b)) * (Int64.ofNat (10 ^ A1)))) + ((Int64.ofNat (own_dvn cs 2 st b)) * (Int64.ofNat (10 ^ A2)))))])) rfl (by rw [hml]; rfl) (argsL := [(.ref o6), (.int 3), (.int i12), (.int i9)]) (rest := [(.long ((((Int64.ofNat (own_dvn cs 0 st b)) * (Int64.ofNat (10 ^ A0))) + ((Int64.ofNat (own_dvn cs 1 st b)) * (Int64.ofNat (10 ^ A1)))) + ((Int64.ofNat (own_dvn cs 2 st b)) * (Int64.ofNat (10 ^ A2)))))]) (lenOf pd_0_9 rfl) rfl (by show 2 * 0 + _ ≤ _; exact Nat.le_of_eq rfl) (hb hby at_419) (fun _ _ => ⟨rfl, e12, hcl, hsl⟩)
  dsimp only [Pt.U, Pt.locs, Pt.cells, Pt.slots] at X13 l13 y13 z13 st13 hQ13
  subst l13 y13 z13
  obtain ⟨rfl, N13q, e13⟩ := hQ13
  have N13 := Fr.app N12 N13q
  obtain ⟨_, _, ⟨T14, L14, k14, n14⟩, -, X14, ⟨Lc14, hQ14, l14, y14, z14⟩, st14⟩ := Jvm.LawKit.callS X13 hx (y := (⟨"com/example/bandmark/bandmark/PlainDecimalReadPinLaw", "p10", "(I)J"⟩ : MethodName)) hown (mvT hZ (own_W hw 51 rfl)) (mvT hZ (own_W hw 52 rfl)) (mvT hZ (own_W hw 3 rfl)) (mvT hZ (own_W hw 53 rfl)) (by decide) (backOf (W := 4) (r13w l Z a0 hw [] i19 A3 h0 n0 Z0 h19 hA3) hZ (own_W hw 53 rfl) (own_W hw 3 rfl) (by decide) (by decide)) (g := (mkF m 424 #[s0, s1, s2, s3, s4, s5, .val (.ref o6), s7, s8, .val (.int i9), s10, s11, .val (.int i12), s13, s14, s15, s16, s17, .val (.int i18), .val (.int i19), .val (.int i20), .val (.int i21), .val (.int i22), s23, s24, s25, .unset, .unset, s28, s29, s30, s31, s32, s33, s34, s35, s36, s37, s38, s39] [(.int i19), (.long (Int64.ofNat (own_dvn cs 3 st b))), (.long ((((Int64.ofNat (own_dvn cs 0 st b)) * (Int64.ofNat (10 ^ A0))) + ((Int64.ofNat (own_dvn cs 1 st b)) * (Int64.ofNat (10 ^ A1)))) + ((Int64.ofNat (own_dvn cs 2 st b)) * (Int64.ofNat (10 ^ A2)))))])) rfl (by rw [hml]; rfl) (argsL := [(.int i19)]) (rest := [(.long (Int64.ofNat (own_dvn cs 3 st b))), (.long ((((Int64.ofNat (own_dvn cs 0 st b)) * (Int64.ofNat (10 ^ A0))) + ((Int64.ofNat (own_dvn cs 1 st b)) * (Int64.ofNat (10 ^ A1)))) + ((Int64.ofNat (own_dvn cs 2 st b)) * (Int64.ofNat (10 ^ A2)))))]) (lenOf pd_0_10 rfl) rfl (by show 2 * 0 + _ ≤ _; exact Nat.le_of_eq rfl) (hb hby at_424) (fun _ _ => ⟨rfl, e13, hcl, hsl⟩)
  dsimp only [Pt.U, Pt.locs, Pt.cells, Pt.slots] at X14 l14 y14 z14 st14 hQ14
  subst l14 y14 z14
  obtain ⟨rfl, N14q, e14⟩ := hQ14
  have N14 := Fr.app N13 N14q
  obtain ⟨_, _, ⟨T15, L15, k15, n15⟩, -, X15, ⟨Lc15, hQ15, l15, y15, z15⟩, st15⟩ := Jvm.LawKit.callS X14 hx (y := (⟨"com/example/bandmark/bandmark/PlainDecimalReadPinLaw", "dv", "([CIII)J"⟩ : MethodName)) hown (mvT hZ (own_W hw 48 rfl)) (mvT hZ (own_W hw 49 rfl)) (mvT hZ (own_W hw 3 rfl)) (mvT hZ (own_W hw 50 rfl)) (by decide) (backOf (W := 2) (r12w l Z a0 hw [] o6 (4 : Int32) i12 i9 cs 4 st b kc h0 n0 Z0 rfl h12 h9 hcs (by decide) hs hb3 C) hZ (own_W hw 50 rfl) (own_W hw 3 rfl) (by decide) (by decide)) (g := (mkF m 436 #[s0, s1, s2, s3, s4, s5, .val (.ref o6), s7, s8, .val (.int i9), s10, s11, .val (.int i12), s13, s14, s15, s16, s17, .val (.int i18), .val (.int i19), .val (.int i20), .val (.int i21), .val (.int i22), s23, s24, s25, .unset, .unset, s28, s29, s30, s31, s32, s33, s34, s35, s36, s37, s38, s39] [(.int i9), (.int i12), (.int 4), (.ref o6), (.long (((((Int64.ofNat (own_dvn cs 0 st b)) * (Int64.ofNat (10 ^ A0))) + ((Int64.ofNat (own_dvn cs 1 st b)) * (Int64.ofNat (10 ^ A1)))) + ((Int64.ofNat (own_dvn cs 2 st b)) * (Int64.ofNat (10 ^ A2)))) + ((Int64.ofNat (own_dvn cs 3 st b)) * (Int64.ofNat (10 ^ A3)))))])) rfl (by rw [hml]; rfl) (argsL := [(.ref o6), (.int 4), (.int i12), (.int i9)]) (rest := [(.long (((((Int64.ofNat (own_dvn cs 0 st b)) * (Int64.ofNat (10 ^ A0))) + ((Int64.ofNat (own_dvn cs 1 st b)) * (Int64.ofNat (10 ^ A1)))) + ((Int64.ofNat (own_dvn cs 2 st b)) * (Int64.ofNat (10 ^ A2)))) + ((Int64.ofNat (own_dvn cs 3 st b)) * (Int64.ofNat (10 ^ A3)))))]) (lenOf pd_0_9 rfl) rfl (by show 2 * 0 + _ ≤ _; exact Nat.le_of_eq rfl) (hb hby at_436) (fun _ _ => ⟨rfl, e14, hcl, hsl⟩)
  dsimp only [Pt.U, Pt.locs, Pt.cells, Pt.slots] at X15 l15 y15 z15 st15 hQ15
  subst l15 y15 z15
  obtain ⟨rfl, N15q, e15⟩ := hQ15
  have N15 := Fr.app N14 N15q
  obtain ⟨_, _, ⟨T16, L16, k16, n16⟩, -, X16, ⟨Lc16, hQ16, l16, y16, z16⟩, st16⟩ := Jvm.LawKit.callS X15 hx (y := (⟨"com/example/bandmark/bandmark/PlainDecimalReadPinLaw", "p10", "(I)J"⟩ : MethodName)) hown (mvT hZ (own_W hw 51 rfl)) (mvT hZ (own_W hw 52 rfl)) (mvT hZ (own_W hw 3 rfl)) (mvT hZ (own_W hw 53 rfl)) (by decide) (backOf (W := 4) (r13w l Z a0 hw [] i18 A4 h0 n0 Z0 h18 hA4) hZ (own_W hw 53 rfl) (own_W hw 3 rfl) (by decide) (by decide)) (g := (mkF m 441 #[s0, s1, s2, s3, s4, s5, .val (.ref o6), s7, s8, .val (.int i9), s10, s11, .val (.int i12), s13, s14, s15, s16, s17, .val (.int i18), .val (.int i19), .val (.int i20), .val (.int i21), .val (.int i22), s23, s24, s25, .unset, .unset, s28, s29, s30, s31, s32, s33, s34, s35, s36, s37, s38, s39] [(.int i18), (.long (Int64.ofNat (own_dvn cs 4 st b))), (.long (((((Int64.ofNat (own_dvn cs 0 st b)) * (Int64.ofNat (10 ^ A0))) + ((Int64.ofNat (own_dvn cs 1 st b)) * (Int64.ofNat (10 ^ A1)))) + ((Int64.ofNat (own_dvn cs 2 st b)) * (Int64.ofNat (10 ^ A2)))) + ((Int64.ofNat (own_dvn cs 3 st b)) * (Int64.ofNat (10 ^ A3)))))])) rfl (by rw [hml]; rfl) (argsL := [(.int i18)]) (rest := [(.long (Int64.ofNat (own_dvn cs 4 st b))), (.long (((((Int64.ofNat (own_dvn cs 0 st b)) * (Int64.ofNat (10 ^ A0))) + ((Int64.ofNat (own_dvn cs 1 st b)) * (Int64.ofNat (10 ^ A1)))) + ((Int64.ofNat (own_dvn cs 2 st b)) * (Int64.ofNat (10 ^ A2)))) + ((Int64.ofNat (own_dvn cs 3 st b)) * (Int64.ofNat (10 ^ A3)))))]) (lenOf pd_0_10 rfl) rfl (by show 2 * 0 + _ ≤ _; exact Nat.le_of_eq rfl) (hb hby at_441) (fun _ _ => ⟨rfl, e15, hcl, hsl⟩)
  dsimp only [Pt.U, Pt.locs, Pt.cells, Pt.slots] at X16 l16 y16 z16 st16 hQ16
  subst l16 y16 z16
  obtain ⟨rfl, N16q, e16⟩ := hQ16
  have N16 := Fr.app N15 N16q
  refine ⟨T16, _, X16, N16, e16, fun target kt => ?_⟩
  refine XS.aload X0.here hx rfl (hb hby at_362) rfl rfl ?_
  refine XS.iconst X0.here hx rfl (hb hby at_364) ?_
  refine XS.iload X0.here hx rfl (hb hby at_365) rfl ?_
  refine XS.iload X0.here hx rfl (hb hby at_367) rfl ?_
  refine st7 _ ?_
  refine XS.iload X7.here hx rfl (hb hby at_372) rfl ?_
  refine st8 _ ?_
  refine XS.lmul X8.here hx rfl (hb hby at_377) rfl ?_
  refine XS.aload X8.here hx rfl (hb hby at_378) rfl rfl ?_
  refine XS.iconst X8.here hx rfl (hb hby at_380) ?_
  refine XS.iload X8.here hx rfl (hb hby at_381) rfl ?_
  refine XS.iload X8.here hx rfl (hb hby at_383) rfl ?_
  refine st9 _ ?_
  refine XS.iload X9.here hx rfl (hb hby at_388) rfl ?_
  refine st10 _ ?_
  refine XS.lmul X10.here hx rfl (hb hby at_393) rfl ?_
  refine XS.ladd X10.here hx rfl (hb hby at_394) rfl ?_
  refine XS.aload X10.here hx rfl (hb hby at_395) rfl rfl ?_
  refine XS.iconst X10.here hx rfl (hb hby at_397) ?_
  refine XS.iload X10.here hx rfl (hb hby at_398) rfl ?_
  refine XS.iload X10.here hx rfl (hb hby at_400) rfl ?_
  refine st11 _ ?_
  refine XS.iload X11.here hx rfl (hb hby at_405) rfl ?_
  refine st12 _ ?_
  refine XS.lmul X12.here hx rfl (hb hby at_410) rfl ?_
  refine XS.ladd X12.here hx rfl (hb hby at_411) rfl ?_
  refine XS.aload X12.here hx rfl (hb hby at_412) rfl rfl ?_
  refine XS.iconst X12.here hx rfl (hb hby at_414) ?_
  refine XS.iload X12.here hx rfl (hb hby at_415) rfl ?_
  refine XS.iload X12.here hx rfl (hb hby at_417) rfl ?_
  refine st13 _ ?_
  refine XS.iload X13.here hx rfl (hb hby at_422) rfl ?_
  refine st14 _ ?_
  refine XS.lmul X14.here hx rfl (hb hby at_427) rfl ?_
  refine XS.ladd X14.here hx rfl (hb hby at_428) rfl ?_
  refine XS.aload X14.here hx rfl (hb hby at_429) rfl rfl ?_
  refine XS.iconst X14.here hx rfl (hb hby at_431) ?_
  refine XS.iload X14.here hx rfl (hb hby at_432) rfl ?_
  refine XS.iload X14.here hx rfl (hb hby at_434) rfl ?_
  refine st15 _ ?_
  refine XS.iload X15.here hx rfl (hb hby at_439) rfl ?_
  refine st16 _ ?_
  refine XS.lmul X16.here hx rfl (hb hby at_444) rfl ?_
  refine XS.ladd X16.here hx rfl (hb hby at_445) rfl ?_
  refine XS.lstore X16.here hx rfl (hb hby at_446) rfl (l' := #[s0, s1, s2, s3, s4, s5, .val (.ref o6), s7, s8, .val (.int i9), s10, s11, .val (.int i12), s13, s14, s15, s16, s17, .val (.int i18), .val (.int i19), .val (.int i20), .val (.int i21), .val (.int i22), s23, s24, s25, .val (.long ((((((Int64.ofNat (own_dvn cs 0 st b)) * (Int64.ofNat (10 ^ A0))) + ((Int64.ofNat (own_dvn cs 1 st b)) * (Int64.ofNat (10 ^ A1)))) + ((Int64.ofNat (own_dvn cs 2 st b)) * (Int64.ofNat (10 ^ A2)))) + ((Int64.ofNat (own_dvn cs 3 st b)) * (Int64.ofNat (10 ^ A3)))) + ((Int64.ofNat (own_dvn cs 4 st b)) * (Int64.ofNat (10 ^ A4))))), .second, s28, s29, s30, s31, s32, s33, s34, s35, s36, s37, s38, s39]) rfl ?_
  exact kt
theorem os0_541_own_Va {s0 : Slot} {s1 : Slot} {s2 : Slot} {s3 : Slot} {s4 : Slot} {s5 : Slot} {s6 : Slot} {s7 : Slot} {s8 : Slot} {s9 : Slot} {s10 : Slot} {s11 : Slot} {s12 : Slot} {s13 : Slot} {s14 : Slot} {s15 : Slot} {s16 : Slot} {s17 : Slot} {s18 : Slot} {s19 : Slot} {s20 : Slot} {s21 : Slot} {s22 : Slot} {s23 : Slot} {s24 : Slot} {z25 : Value} {s26 : Slot} {s27 : Slot} {s28 : Slot} {s29 : Slot} {s30 : Slot} {s31 : Slot} {s32 : Slot} {s33 : Slot} {s34 : Slot} {s35 : Slot} {s36 : Slot} {s37 : Slot} {s38 : Slot} {s39 : Slot} {v : Int32} (h : One s29) : storeLocals #[s0, s1, s2, s3, s4, s5, s6, s7, s8, s9, s10, s11, s12, s13, s14, s15, s16, s17, s18, s19, s20, s21, s22, s23, s24, .val z25, s26, s27, s28, s29, s30, s31, s32, s33, s34, s35, s36, s37, s38, s39] 29 (.int v) = some #[s0, s1, s2, s3, s4, s5, s6, s7, s8, s9, s10, s11, s12, s13, s14, s15, s16, s17, s18, s19, s20, s21, s22, s23, s24, .val z25, s26, s27, s28, .val (.int v), s30, s31, s32, s33, s34, s35, s36, s37, s38, s39] := by
  rcases h with rfl | ⟨w, rfl, hw⟩
  · rfl
  · cases w <;> first | rfl | (simp [Value.category] at hw)
set_option maxRecDepth 65536 in
set_option maxHeartbeats 40000000 in
theorem own_Va {p : Program} {l : Launch} {e : Env} {s : State} {m : MethodId} {args : Array Value} {below : List Frame} {meth : Method} {c : Code} {T0 : State} {locs : List Loc} {cells slots : Nat} {Z : State} {a0 : Array Value} {h0 : Heap} (s0 : Slot) (s1 : Slot) (s2 : Slot) (s3 : Slot) (s4 : Slot) (s5 : Slot) (s6 : Slot) (s7 : Slot) (s8 : Slot) (s9 : Slot) (s10 : Slot) (s11 : Slot) (s12 : Slot) (s13 : Slot) (s14 : Slot) (s15 : Slot) (s16 : Slot) (s17 : Slot) (s18 : Slot) (s19 : Slot) (s20 : Slot) (s21 : Slot) (s22 : Slot) (s23 : Slot) (s24 : Slot) (i25 : Int32) (s26 : Slot) (s27 : Slot) (s28 : Slot) (s29 : Slot) (s30 : Slot) (s31 : Slot) (s32 : Slot) (s33 : Slot) (s34 : Slot) (s35 : Slot) (s36 : Slot) (s37 : Slot) (s38 : Slot) (s39 : Slot)
    (X0 : Stand p l e room_1 s m args below meth c T0 locs cells slots) (hx : p.tables.exec = Jvm.exec) (hZ : Z.Warmed39 s.vm) (hw : ∀ d ∈ tables_1, d.before a0 Z = true) (hby : c.code = code) (hml : c.maxLocals = 40) (hown : s.vm.findClass "com/example/bandmark/bandmark/PlainDecimalReadPinLaw" = some m.cls) (e0 : T0.heap = h0) (hs29 : One s29) (hc521 : ¬ (i25 = (0 : Int32))) :
    ∃ (T' : State), Stand p l e room_1 s m args below meth c T' locs cells slots ∧ T'.heap = h0 ∧
      ∀ target, Steps p.tables e below (T'.setTop (mkF m 543 #[s0, s1, s2, s3, s4, s5, s6, s7, s8, s9, s10, s11, s12, s13, s14, s15, s16, s17, s18, s19, s20, s21, s22, s23, s24, .val (.int i25), s26, s27, s28, .val (.int 0), s30, s31, s32, s33, s34, s35, s36, s37, s38, s39] [])) target → Steps p.tables e below (T0.setTop (mkF m 519 #[s0, s1, s2, s3, s4, s5, s6, s7, s8, s9, s10, s11, s12, s13, s14, s15, s16, s17, s18, s19, s20, s21, s22, s23, s24, .val (.int i25), s26, s27, s28, s29, s30, s31, s32, s33, s34, s35, s36, s37, s38, s39] [])) target := by
  refine ⟨T0, X0, e0, fun target kt => ?_⟩
  refine XS.iload X0.here hx rfl (hb hby at_519) rfl ?_
  refine XS.ifYes X0.here hx rfl (pc0 := 521) (pc' := 540) rfl (hb hby at_521) rfl ((if0 _ _).trans (feq hc521).2) (by decide) (by decide) ?_
  refine XS.iconst X0.here hx rfl (hb hby at_540) ?_
  refine XS.istore X0.here hx rfl (hb hby at_541) rfl (l' := #[s0, s1, s2, s3, s4, s5, s6, s7, s8, s9, s10, s11, s12, s13, s14, s15, s16, s17, s18, s19, s20, s21, s22, s23, s24, .val (.int i25), s26, s27, s28, .val (.int 0), s30, s31, s32, s33, s34, s35, s36, s37, s38, s39]) (os0_541_own_Va hs29) ?_
  exact kt
theorem os0_541_own_Vb {s0 : Slot} {s1 : Slot} {s2 : Slot} {s3 : Slot} {s4 : Slot} {s5 : Slot} {s6 : Slot} {s7 : Slot} {s8 : Slot} {s9 : Slot} {s10 : Slot} {s11 : Slot} {s12 : Slot} {s13 : Slot} {s14 : Slot} {s15 : Slot} {s16 : Slot} {s17 : Slot} {s18 : Slot} {s19 : Slot} {s20 : Slot} {s21 : Slot} {s22 : Slot} {s23 : Slot} {z24 : Value} {z25 : Value} {s26 : Slot} {s27 : Slot} {s28 : Slot} {s29 : Slot} {s30 : Slot} {s31 : Slot} {s32 : Slot} {s33 : Slot} {s34 : Slot} {s35 : Slot} {s36 : Slot} {s37 : Slot} {s38 : Slot} {s39 : Slot} {v : Int32} (h : One s29) : storeLocals #[s0, s1, s2, s3, s4, s5, s6, s7, s8, s9, s10, s11, s12, s13, s14, s15, s16, s17, s18, s19, s20, s21, s22, s23, .val z24, .val z25, s26, s27, s28, s29, s30, s31, s32, s33, s34, s35, s36, s37, s38, s39] 29 (.int v) = some #[s0, s1, s2, s3, s4, s5, s6, s7, s8, s9, s10, s11, s12, s13, s14, s15, s16, s17, s18, s19, s20, s21, s22, s23, .val z24, .val z25, s26, s27, s28, .val (.int v), s30, s31, s32, s33, s34, s35, s36, s37, s38, s39] := by
  rcases h with rfl | ⟨w, rfl, hw⟩
  · rfl
  · cases w <;> first | rfl | (simp [Value.category] at hw)
set_option maxRecDepth 65536 in
set_option maxHeartbeats 40000000 in
theorem own_Vb {p : Program} {l : Launch} {e : Env} {s : State} {m : MethodId} {args : Array Value} {below : List Frame} {meth : Method} {c : Code} {T0 : State} {locs : List Loc} {cells slots : Nat} {Z : State} {a0 : Array Value} {h0 : Heap} (s0 : Slot) (s1 : Slot) (s2 : Slot) (s3 : Slot) (s4 : Slot) (s5 : Slot) (s6 : Slot) (s7 : Slot) (s8 : Slot) (s9 : Slot) (s10 : Slot) (s11 : Slot) (s12 : Slot) (s13 : Slot) (s14 : Slot) (s15 : Slot) (s16 : Slot) (s17 : Slot) (s18 : Slot) (s19 : Slot) (s20 : Slot) (s21 : Slot) (s22 : Slot) (s23 : Slot) (i24 : Int32) (i25 : Int32) (s26 : Slot) (s27 : Slot) (s28 : Slot) (s29 : Slot) (s30 : Slot) (s31 : Slot) (s32 : Slot) (s33 : Slot) (s34 : Slot) (s35 : Slot) (s36 : Slot) (s37 : Slot) (s38 : Slot) (s39 : Slot)
    (X0 : Stand p l e room_1 s m args below meth c T0 locs cells slots) (hx : p.tables.exec = Jvm.exec) (hZ : Z.Warmed39 s.vm) (hw : ∀ d ∈ tables_1, d.before a0 Z = true) (hby : c.code = code) (hml : c.maxLocals = 40) (hown : s.vm.findClass "com/example/bandmark/bandmark/PlainDecimalReadPinLaw" = some m.cls) (e0 : T0.heap = h0) (hs29 : One s29) (hc521 : i25 = (0 : Int32)) (hc527 : (1 : Int32) < i24) :
    ∃ (T' : State), Stand p l e room_1 s m args below meth c T' locs cells slots ∧ T'.heap = h0 ∧
      ∀ target, Steps p.tables e below (T'.setTop (mkF m 543 #[s0, s1, s2, s3, s4, s5, s6, s7, s8, s9, s10, s11, s12, s13, s14, s15, s16, s17, s18, s19, s20, s21, s22, s23, .val (.int i24), .val (.int i25), s26, s27, s28, .val (.int 0), s30, s31, s32, s33, s34, s35, s36, s37, s38, s39] [])) target → Steps p.tables e below (T0.setTop (mkF m 519 #[s0, s1, s2, s3, s4, s5, s6, s7, s8, s9, s10, s11, s12, s13, s14, s15, s16, s17, s18, s19, s20, s21, s22, s23, .val (.int i24), .val (.int i25), s26, s27, s28, s29, s30, s31, s32, s33, s34, s35, s36, s37, s38, s39] [])) target := by
  refine ⟨T0, X0, e0, fun target kt => ?_⟩
  refine XS.iload X0.here hx rfl (hb hby at_519) rfl ?_
  refine XS.ifNo X0.here hx rfl (hb hby at_521) rfl ((if0 _ _).trans (teq hc521).2) ?_
  refine XS.iload X0.here hx rfl (hb hby at_524) rfl ?_
  refine XS.iconst X0.here hx rfl (hb hby at_526) ?_
  refine XS.icmpYes X0.here hx rfl (pc0 := 527) (pc' := 540) rfl (hb hby at_527) rfl (tlt hc527).2.2.1 (by decide) (by decide) ?_
  refine XS.iconst X0.here hx rfl (hb hby at_540) ?_
  refine XS.istore X0.here hx rfl (hb hby at_541) rfl (l' := #[s0, s1, s2, s3, s4, s5, s6, s7, s8, s9, s10, s11, s12, s13, s14, s15, s16, s17, s18, s19, s20, s21, s22, s23, .val (.int i24), .val (.int i25), s26, s27, s28, .val (.int 0), s30, s31, s32, s33, s34, s35, s36, s37, s38, s39]) (os0_541_own_Vb hs29) ?_
  exact kt
theorem os0_541_own_Vc {s0 : Slot} {s1 : Slot} {s2 : Slot} {s3 : Slot} {s4 : Slot} {s5 : Slot} {s6 : Slot} {s7 : Slot} {s8 : Slot} {s9 : Slot} {s10 : Slot} {s11 : Slot} {s12 : Slot} {s13 : Slot} {s14 : Slot} {s15 : Slot} {s16 : Slot} {s17 : Slot} {s18 : Slot} {s19 : Slot} {s20 : Slot} {s21 : Slot} {s22 : Slot} {z23 : Value} {z24 : Value} {z25 : Value} {s26 : Slot} {s27 : Slot} {s28 : Slot} {s29 : Slot} {s30 : Slot} {s31 : Slot} {s32 : Slot} {s33 : Slot} {s34 : Slot} {s35 : Slot} {s36 : Slot} {s37 : Slot} {s38 : Slot} {s39 : Slot} {v : Int32} (h : One s29) : storeLocals #[s0, s1, s2, s3, s4, s5, s6, s7, s8, s9, s10, s11, s12, s13, s14, s15, s16, s17, s18, s19, s20, s21, s22, .val z23, .val z24, .val z25, s26, s27, s28, s29, s30, s31, s32, s33, s34, s35, s36, s37, s38, s39] 29 (.int v) = some #[s0, s1, s2, s3, s4, s5, s6, s7, s8, s9, s10, s11, s12, s13, s14, s15, s16, s17, s18, s19, s20, s21, s22, .val z23, .val z24, .val z25, s26, s27, s28, .val (.int v), s30, s31, s32, s33, s34, s35, s36, s37, s38, s39] := by
  rcases h with rfl | ⟨w, rfl, hw⟩
  · rfl
  · cases w <;> first | rfl | (simp [Value.category] at hw)
set_option maxRecDepth 65536 in
set_option maxHeartbeats 40000000 in
theorem own_Vc {p : Program} {l : Launch} {e : Env} {s : State} {m : MethodId} {args : Array Value} {below : List Frame} {meth : Method} {c : Code} {T0 : State} {locs : List Loc} {cells slots : Nat} {Z : State} {a0 : Array Value} {h0 : Heap} (s0 : Slot) (s1 : Slot) (s2 : Slot) (s3 : Slot) (s4 : Slot) (s5 : Slot) (s6 : Slot) (s7 : Slot) (s8 : Slot) (s9 : Slot) (s10 : Slot) (s11 : Slot) (s12 : Slot) (s13 : Slot) (s14 : Slot) (s15 : Slot) (s16 : Slot) (s17 : Slot) (s18 : Slot) (s19 : Slot) (s20 : Slot) (s21 : Slot) (s22 : Slot) (i23 : Int32) (i24 : Int32) (i25 : Int32) (s26 : Slot) (s27 : Slot) (s28 : Slot) (s29 : Slot) (s30 : Slot) (s31 : Slot) (s32 : Slot) (s33 : Slot) (s34 : Slot) (s35 : Slot) (s36 : Slot) (s37 : Slot) (s38 : Slot) (s39 : Slot)
    (X0 : Stand p l e room_1 s m args below meth c T0 locs cells slots) (hx : p.tables.exec = Jvm.exec) (hZ : Z.Warmed39 s.vm) (hw : ∀ d ∈ tables_1, d.before a0 Z = true) (hby : c.code = code) (hml : c.maxLocals = 40) (hown : s.vm.findClass "com/example/bandmark/bandmark/PlainDecimalReadPinLaw" = some m.cls) (e0 : T0.heap = h0) (hs29 : One s29) (hc521 : i25 = (0 : Int32)) (hc527 : ¬ ((1 : Int32) < i24)) (hc533 : i23 < (1 : Int32)) :
    ∃ (T' : State), Stand p l e room_1 s m args below meth c T' locs cells slots ∧ T'.heap = h0 ∧
      ∀ target, Steps p.tables e below (T'.setTop (mkF m 543 #[s0, s1, s2, s3, s4, s5, s6, s7, s8, s9, s10, s11, s12, s13, s14, s15, s16, s17, s18, s19, s20, s21, s22, .val (.int i23), .val (.int i24), .val (.int i25), s26, s27, s28, .val (.int 0), s30, s31, s32, s33, s34, s35, s36, s37, s38, s39] [])) target → Steps p.tables e below (T0.setTop (mkF m 519 #[s0, s1, s2, s3, s4, s5, s6, s7, s8, s9, s10, s11, s12, s13, s14, s15, s16, s17, s18, s19, s20, s21, s22, .val (.int i23), .val (.int i24), .val (.int i25), s26, s27, s28, s29, s30, s31, s32, s33, s34, s35, s36, s37, s38, s39] [])) target := by
  refine ⟨T0, X0, e0, fun target kt => ?_⟩
  refine XS.iload X0.here hx rfl (hb hby at_519) rfl ?_
  refine XS.ifNo X0.here hx rfl (hb hby at_521) rfl ((if0 _ _).trans (teq hc521).2) ?_
  refine XS.iload X0.here hx rfl (hb hby at_524) rfl ?_
  refine XS.iconst X0.here hx rfl (hb hby at_526) ?_
  refine XS.icmpNo X0.here hx rfl (hb hby at_527) rfl (flt hc527).2.2.1 ?_
  refine XS.iload X0.here hx rfl (hb hby at_530) rfl ?_
  refine XS.iconst X0.here hx rfl (hb hby at_532) ?_
  refine XS.icmpYes X0.here hx rfl (pc0 := 533) (pc' := 540) rfl (hb hby at_533) rfl (tlt hc533).1 (by decide) (by decide) ?_
  refine XS.iconst X0.here hx rfl (hb hby at_540) ?_
  refine XS.istore X0.here hx rfl (hb hby at_541) rfl (l' := #[s0, s1, s2, s3, s4, s5, s6, s7, s8, s9, s10, s11, s12, s13, s14, s15, s16, s17, s18, s19, s20, s21, s22, .val (.int i23), .val (.int i24), .val (.int i25), s26, s27, s28, .val (.int 0), s30, s31, s32, s33, s34, s35, s36, s37, s38, s39]) (os0_541_own_Vc hs29) ?_
  exact kt
theorem os0_541_own_Vy {s0 : Slot} {s1 : Slot} {s2 : Slot} {s3 : Slot} {s4 : Slot} {s5 : Slot} {s6 : Slot} {s7 : Slot} {s8 : Slot} {s9 : Slot} {s10 : Slot} {s11 : Slot} {s12 : Slot} {s13 : Slot} {s14 : Slot} {s15 : Slot} {s16 : Slot} {s17 : Slot} {s18 : Slot} {s19 : Slot} {s20 : Slot} {s21 : Slot} {s22 : Slot} {z23 : Value} {z24 : Value} {z25 : Value} {s26 : Slot} {s27 : Slot} {s28 : Slot} {s29 : Slot} {s30 : Slot} {s31 : Slot} {s32 : Slot} {s33 : Slot} {s34 : Slot} {s35 : Slot} {s36 : Slot} {s37 : Slot} {s38 : Slot} {s39 : Slot} {v : Int32} (h : One s29) : storeLocals #[s0, s1, s2, s3, s4, s5, s6, s7, s8, s9, s10, s11, s12, s13, s14, s15, s16, s17, s18, s19, s20, s21, s22, .val z23, .val z24, .val z25, s26, s27, s28, s29, s30, s31, s32, s33, s34, s35, s36, s37, s38, s39] 29 (.int v) = some #[s0, s1, s2, s3, s4, s5, s6, s7, s8, s9, s10, s11, s12, s13, s14, s15, s16, s17, s18, s19, s20, s21, s22, .val z23, .val z24, .val z25, s26, s27, s28, .val (.int v), s30, s31, s32, s33, s34, s35, s36, s37, s38, s39] := by
  rcases h with rfl | ⟨w, rfl, hw⟩
  · rfl
  · cases w <;> first | rfl | (simp [Value.category] at hw)
set_option maxRecDepth 65536 in
set_option maxHeartbeats 40000000 in
theorem own_Vy {p : Program} {l : Launch} {e : Env} {s : State} {m : MethodId} {args : Array Value} {below : List Frame} {meth : Method} {c : Code} {T0 : State} {locs : List Loc} {cells slots : Nat} {Z : State} {a0 : Array Value} {h0 : Heap} (s0 : Slot) (s1 : Slot) (s2 : Slot) (s3 : Slot) (s4 : Slot) (s5 : Slot) (s6 : Slot) (s7 : Slot) (s8 : Slot) (s9 : Slot) (s10 : Slot) (s11 : Slot) (s12 : Slot) (s13 : Slot) (s14 : Slot) (s15 : Slot) (s16 : Slot) (s17 : Slot) (s18 : Slot) (s19 : Slot) (s20 : Slot) (s21 : Slot) (s22 : Slot) (i23 : Int32) (i24 : Int32) (i25 : Int32) (s26 : Slot) (s27 : Slot) (s28 : Slot) (s29 : Slot) (s30 : Slot) (s31 : Slot) (s32 : Slot) (s33 : Slot) (s34 : Slot) (s35 : Slot) (s36 : Slot) (s37 : Slot) (s38 : Slot) (s39 : Slot)
    (X0 : Stand p l e room_1 s m args below meth c T0 locs cells slots) (hx : p.tables.exec = Jvm.exec) (hZ : Z.Warmed39 s.vm) (hw : ∀ d ∈ tables_1, d.before a0 Z = true) (hby : c.code = code) (hml : c.maxLocals = 40) (hown : s.vm.findClass "com/example/bandmark/bandmark/PlainDecimalReadPinLaw" = some m.cls) (e0 : T0.heap = h0) (hs29 : One s29) (hc521 : i25 = (0 : Int32)) (hc527 : ¬ ((1 : Int32) < i24)) (hc533 : ¬ (i23 < (1 : Int32))) :
    ∃ (T' : State), Stand p l e room_1 s m args below meth c T' locs cells slots ∧ T'.heap = h0 ∧
      ∀ target, Steps p.tables e below (T'.setTop (mkF m 543 #[s0, s1, s2, s3, s4, s5, s6, s7, s8, s9, s10, s11, s12, s13, s14, s15, s16, s17, s18, s19, s20, s21, s22, .val (.int i23), .val (.int i24), .val (.int i25), s26, s27, s28, .val (.int 1), s30, s31, s32, s33, s34, s35, s36, s37, s38, s39] [])) target → Steps p.tables e below (T0.setTop (mkF m 519 #[s0, s1, s2, s3, s4, s5, s6, s7, s8, s9, s10, s11, s12, s13, s14, s15, s16, s17, s18, s19, s20, s21, s22, .val (.int i23), .val (.int i24), .val (.int i25), s26, s27, s28, s29, s30, s31, s32, s33, s34, s35, s36, s37, s38, s39] [])) target := by
  refine ⟨T0, X0, e0, fun target kt => ?_⟩
  refine XS.iload X0.here hx rfl (hb hby at_519) rfl ?_
  refine XS.ifNo X0.here hx rfl (hb hby at_521) rfl ((if0 _ _).trans (teq hc521).2) ?_
  refine XS.iload X0.here hx rfl (hb hby at_524) rfl ?_
  refine XS.iconst X0.here hx rfl (hb hby at_526) ?_
  refine XS.icmpNo X0.here hx rfl (hb hby at_527) rfl (flt hc527).2.2.1 ?_
  refine XS.iload X0.here hx rfl (hb hby at_530) rfl ?_
  refine XS.iconst X0.here hx rfl (hb hby at_532) ?_
  refine XS.icmpNo X0.here hx rfl (hb hby at_533) rfl (flt hc533).1 ?_
  refine XS.iconst X0.here hx rfl (hb hby at_536) ?_
  refine XS.goto X0.here hx rfl (pc0 := 537) (pc' := 541) rfl (hb hby at_537) (by decide) (by decide) ?_
  refine XS.istore X0.here hx rfl (hb hby at_541) rfl (l' := #[s0, s1, s2, s3, s4, s5, s6, s7, s8, s9, s10, s11, s12, s13, s14, s15, s16, s17, s18, s19, s20, s21, s22, .val (.int i23), .val (.int i24), .val (.int i25), s26, s27, s28, .val (.int 1), s30, s31, s32, s33, s34, s35, s36, s37, s38, s39]) (os0_541_own_Vy hs29) ?_
  exact kt
theorem own_s5 (x0 x1 x2 x3 x4 : Bool) : ((((own_b x0) + (own_b x1)) + (own_b x2)) + (own_b x3)) + (own_b x4) = Int32.ofNat (own_nb x0 + (own_nb x1 + (own_nb x2 + (own_nb x3 + (own_nb x4 + 0))))) := (by decide +kernel : ∀ x0 x1 x2 x3 x4 : Bool, ((((own_b x0) + (own_b x1)) + (own_b x2)) + (own_b x3)) + (own_b x4) = Int32.ofNat (own_nb x0 + (own_nb x1 + (own_nb x2 + (own_nb x3 + (own_nb x4 + 0)))))) x0 x1 x2 x3 x4
theorem own_a5 (x0 x1 x2 x3 x4 : Bool) : (own_b x0) + ((own_b x1) + ((own_b x2) + ((own_b x3) + (own_b x4)))) = Int32.ofNat (own_nb x0 + (own_nb x1 + (own_nb x2 + (own_nb x3 + (own_nb x4 + 0))))) := (by decide +kernel : ∀ x0 x1 x2 x3 x4 : Bool, (own_b x0) + ((own_b x1) + ((own_b x2) + ((own_b x3) + (own_b x4)))) = Int32.ofNat (own_nb x0 + (own_nb x1 + (own_nb x2 + (own_nb x3 + (own_nb x4 + 0)))))) x0 x1 x2 x3 x4
theorem own_a4 (x1 x2 x3 x4 : Bool) : (own_b x1) + ((own_b x2) + ((own_b x3) + (own_b x4))) = Int32.ofNat (own_nb x1 + (own_nb x2 + (own_nb x3 + (own_nb x4 + 0)))) := (by decide +kernel : ∀ x1 x2 x3 x4 : Bool, (own_b x1) + ((own_b x2) + ((own_b x3) + (own_b x4))) = Int32.ofNat (own_nb x1 + (own_nb x2 + (own_nb x3 + (own_nb x4 + 0))))) x1 x2 x3 x4
theorem own_a3 (x2 x3 x4 : Bool) : (own_b x2) + ((own_b x3) + (own_b x4)) = Int32.ofNat (own_nb x2 + (own_nb x3 + (own_nb x4 + 0))) := (by decide +kernel : ∀ x2 x3 x4 : Bool, (own_b x2) + ((own_b x3) + (own_b x4)) = Int32.ofNat (own_nb x2 + (own_nb x3 + (own_nb x4 + 0)))) x2 x3 x4
theorem own_a2 (x3 x4 : Bool) : (own_b x3) + (own_b x4) = Int32.ofNat (own_nb x3 + (own_nb x4 + 0)) := (by decide +kernel : ∀ x3 x4 : Bool, (own_b x3) + (own_b x4) = Int32.ofNat (own_nb x3 + (own_nb x4 + 0))) x3 x4
theorem own_a1 (x4 : Bool) : own_b x4 = Int32.ofNat (own_nb x4 + 0) := (by decide +kernel : ∀ x4 : Bool, own_b x4 = Int32.ofNat (own_nb x4 + 0)) x4
theorem own_bd (cs : List Int32) (st b : Nat) : ∀ k i, own_sB cs st b k i ≤ k ∧ own_sP cs st b k i ≤ k := by
  have h1 : ∀ x, own_nb x ≤ 1 := by intro x; cases x <;> decide
  intro k
  induction k with
  | zero => intro i; exact ⟨Nat.le_refl _, Nat.le_refl _⟩
  | succ k ih =>
    intro i
    have := ih (i + 1); have := h1 (own_vb cs i st b); have := h1 (own_vp cs i st b)
    simp only [own_sB, own_sP]
    omega
def own_vv (cs : List Int32) (st b : Nat) : Bool := decide ((own_sB cs st b 5 0 = 0 ∧ own_sP cs st b 5 0 ≤ 1) ∧ 1 ≤ own_sA cs st b 5 0)
theorem own_eU (x0 x1 x2 x3 x4 y0 y1 y2 y3 y4 : Nat) : (((((Int64.ofNat x0) * (Int64.ofNat y0)) + ((Int64.ofNat x1) * (Int64.ofNat y1))) + ((Int64.ofNat x2) * (Int64.ofNat y2))) + ((Int64.ofNat x3) * (Int64.ofNat y3))) + ((Int64.ofNat x4) * (Int64.ofNat y4)) = Int64.ofNat (x0 * y0 + (x1 * y1 + (x2 * y2 + (x3 * y3 + (x4 * y4 + 0))))) := by
  simp only [← Int64.ofNat_mul, ← Int64.ofNat_add, Nat.add_assoc, Nat.add_zero]
theorem own_eS (x0 x1 x2 x3 x4 : Bool) (y0 y1 y2 y3 y4 : Nat) : (((((own_b x0) * Int32.ofNat y0) + ((own_b x1) * Int32.ofNat y1)) + ((own_b x2) * Int32.ofNat y2)) + ((own_b x3) * Int32.ofNat y3)) + ((own_b x4) * Int32.ofNat y4) = Int32.ofNat (own_nb x0 * y0 + (own_nb x1 * y1 + (own_nb x2 * y2 + (own_nb x3 * y3 + (own_nb x4 * y4 + 0))))) := by
  simp only [own_b_n, ← Int32.ofNat_mul, ← Int32.ofNat_add, Nat.add_assoc, Nat.add_zero]
theorem own_D {p : Program} {l : Launch} {e : Env} {s : State} {m : MethodId} {args : Array Value} {below : List Frame} {meth : Method} {c : Code} {T0 : State} {locs : List Loc} {cells slots : Nat} {Z : State} {a0 : Array Value} {h0 : Heap} (s0 s1 s2 s3 s4 s5 s7 s8 s10 s11 s30 s31 s32 s33 s34 s35 s36 s37 s38 s39 : Slot) (o6 : Addr) (cs : List Int32) (st b : Nat) (kc : ClassId) (n0 : Nat)
    (X0 : Stand p l e room_1 s m args below meth c T0 locs cells slots) (hx : p.tables.exec = Jvm.exec) (hZ : Z.Warmed39 s.vm) (hw : ∀ d ∈ tables_1, d.before a0 Z = true) (hby : c.code = code) (hml : c.maxLocals = 40) (hown : s.vm.findClass "com/example/bandmark/bandmark/PlainDecimalReadPinLaw" = some m.cls) (e0 : T0.heap = h0) (hcs : cs.length = 5) (hs : st < 32) (hb3 : b < 32) (C : Arv Z h0 o6 kc .char (5 : Int32) (cs.map Value.int) (.int 0)) (Z0 : n0 ≤ h0.size) (N0 : Fr n0 locs) (hcl : cells ≤ room_1.cells) (hsl : slots ≤ room_1.slots) :
    ∃ (T' : State) (locs' : List Loc) (t13 t14 t15 t16 t17 t18 t19 t20 t21 t22 t23 t24 t25 : Slot), Stand p l e room_1 s m args below meth c T' locs' cells slots ∧ Fr n0 locs' ∧ T'.heap = h0 ∧ ∀ target, Steps p.tables e below (T'.setTop (mkF m 543 #[s0, s1, s2, s3, s4, s5, .val (.ref o6), s7, s8, .val (.int (Int32.ofNat b)), s10, s11, .val (.int (Int32.ofNat st)), t13, t14, t15, t16, t17, t18, t19, t20, t21, t22, t23, t24, t25, .val (.long (Int64.ofNat (own_sU cs st b 5 0))), .second, .val (.int (Int32.ofNat (own_sS cs st b 5 0))), .val (.int (own_b (own_vv cs st b))), s30, s31, s32, s33, s34, s35, s36, s37, s38, s39] [])) target → Steps p.tables e below (T0.setTop (mkF m 155 #[s0, s1, s2, s3, s4, s5, .val (.ref o6), s7, s8, .val (.int (Int32.ofNat b)), s10, s11, .val (.int (Int32.ofNat st)), .unset, .unset, .unset, .unset, .unset, .unset, .unset, .unset, .unset, .unset, .unset, .unset, .unset, .unset, .unset, .unset, .unset, s30, s31, s32, s33, s34, s35, s36, s37, s38, s39] [])) target := by
  obtain ⟨T1, L1, X1, N1, e1, st1⟩ := own_D0 s0 s1 s2 s3 s4 s5 o6 s7 s8 (Int32.ofNat b) s10 s11 (Int32.ofNat st) .unset .unset .unset .unset .unset .unset .unset .unset .unset .unset .unset .unset .unset .unset .unset .unset .unset s30 s31 s32 s33 s34 s35 s36 s37 s38 s39 cs st b kc n0 X0 hx hZ hw hby hml hown e0 rfl rfl hcs hs hb3 C Z0 N0 hcl hsl One.u
  obtain ⟨T2, L2, X2, N2, e2, st2⟩ := own_D1 s0 s1 s2 s3 s4 s5 o6 s7 s8 (Int32.ofNat b) s10 s11 (Int32.ofNat st) (.val (.int (own_b (own_vd cs 0 st b)))) .unset .unset .unset .unset .unset .unset .unset .unset .unset .unset .unset .unset .unset .unset .unset .unset s30 s31 s32 s33 s34 s35 s36 s37 s38 s39 cs st b kc n0 X1 hx hZ hw hby hml hown e1 rfl rfl hcs hs hb3 C Z0 N1 hcl hsl One.u
  obtain ⟨T3, L3, X3, N3, e3, st3⟩ := own_D2 s0 s1 s2 s3 s4 s5 o6 s7 s8 (Int32.ofNat b) s10 s11 (Int32.ofNat st) (.val (.int (own_b (own_vd cs 0 st b)))) (.val (.int (own_b (own_vd cs 1 st b)))) .unset .unset .unset .unset .unset .unset .unset .unset .unset .unset .unset .unset .unset .unset .unset s30 s31 s32 s33 s34 s35 s36 s37 s38 s39 cs st b kc n0 X2 hx hZ hw hby hml hown e2 rfl rfl hcs hs hb3 C Z0 N2 hcl hsl One.u
  obtain ⟨T4, L4, X4, N4, e4, st4⟩ := own_D3 s0 s1 s2 s3 s4 s5 o6 s7 s8 (Int32.ofNat b) s10 s11 (Int32.ofNat st) (.val (.int (own_b (own_vd cs 0 st b)))) (.val (.int (own_b (own_vd cs 1 st b)))) (.val (.int (own_b (own_vd cs 2 st b)))) .unset .unset .unset .unset .unset .unset .unset .unset .unset .unset .unset .unset .unset .unset s30 s31 s32 s33 s34 s35 s36 s37 s38 s39 cs st b kc n0 X3 hx hZ hw hby hml hown e3 rfl rfl hcs hs hb3 C Z0 N3 hcl hsl One.u
  obtain ⟨T5, L5, X5, N5, e5, st5⟩ := own_D4 s0 s1 s2 s3 s4 s5 o6 s7 s8 (Int32.ofNat b) s10 s11 (Int32.ofNat st) (.val (.int (own_b (own_vd cs 0 st b)))) (.val (.int (own_b (own_vd cs 1 st b)))) (.val (.int (own_b (own_vd cs 2 st b)))) (.val (.int (own_b (own_vd cs 3 st b)))) .unset .unset .unset .unset .unset .unset .unset .unset .unset .unset .unset .unset .unset s30 s31 s32 s33 s34 s35 s36 s37 s38 s39 cs st b kc n0 X4 hx hZ hw hby hml hown e4 rfl rfl hcs hs hb3 C Z0 N4 hcl hsl One.u
  obtain ⟨T6, X6, e6, st6⟩ := own_Da s0 s1 s2 s3 s4 s5 (.val (.ref o6)) s7 s8 (.val (.int (Int32.ofNat b))) s10 s11 (.val (.int (Int32.ofNat st))) (own_b (own_vd cs 0 st b)) (own_b (own_vd cs 1 st b)) (own_b (own_vd cs 2 st b)) (own_b (own_vd cs 3 st b)) (own_b (own_vd cs 4 st b)) .unset .unset .unset .unset .unset .unset .unset .unset .unset .unset .unset .unset s30 s31 s32 s33 s34 s35 s36 s37 s38 s39 X5 hx hZ hw hby hml hown e5 One.u One.u One.u One.u One.u One.u
  have N6 := N5
  obtain ⟨T7, L7, X7, N7, e7, st7⟩ := own_Dp s0 s1 s2 s3 s4 s5 o6 s7 s8 (Int32.ofNat b) s10 s11 (Int32.ofNat st) (.val (.int (own_b (own_vd cs 0 st b)))) (.val (.int (own_b (own_vd cs 1 st b)))) (.val (.int (own_b (own_vd cs 2 st b)))) (.val (.int (own_b (own_vd cs 3 st b)))) (.val (.int (own_b (own_vd cs 4 st b)))) (.val (.int 0)) (.val (.int (own_b (own_vd cs 4 st b)))) (.val (.int ((own_b (own_vd cs 3 st b)) + (own_b (own_vd cs 4 st b))))) (.val (.int ((own_b (own_vd cs 2 st b)) + ((own_b (own_vd cs 3 st b)) + (own_b (own_vd cs 4 st b)))))) (.val (.int ((own_b (own_vd cs 1 st b)) + ((own_b (own_vd cs 2 st b)) + ((own_b (own_vd cs 3 st b)) + (own_b (own_vd cs 4 st b))))))) (.val (.int ((own_b (own_vd cs 0 st b)) + ((own_b (own_vd cs 1 st b)) + ((own_b (own_vd cs 2 st b)) + ((own_b (own_vd cs 3 st b)) + (own_b (own_vd cs 4 st b)))))))) .unset .unset .unset .unset .unset .unset s30 s31 s32 s33 s34 s35 s36 s37 s38 s39 cs st b kc n0 X6 hx hZ hw hby hml hown e6 rfl rfl hcs hs hb3 C Z0 N6 hcl hsl One.u
  obtain ⟨T8, L8, X8, N8, e8, st8⟩ := own_Db s0 s1 s2 s3 s4 s5 o6 s7 s8 (Int32.ofNat b) s10 s11 (Int32.ofNat st) (.val (.int (own_b (own_vd cs 0 st b)))) (.val (.int (own_b (own_vd cs 1 st b)))) (.val (.int (own_b (own_vd cs 2 st b)))) (.val (.int (own_b (own_vd cs 3 st b)))) (.val (.int (own_b (own_vd cs 4 st b)))) (.val (.int 0)) (.val (.int (own_b (own_vd cs 4 st b)))) (.val (.int ((own_b (own_vd cs 3 st b)) + (own_b (own_vd cs 4 st b))))) (.val (.int ((own_b (own_vd cs 2 st b)) + ((own_b (own_vd cs 3 st b)) + (own_b (own_vd cs 4 st b)))))) (.val (.int ((own_b (own_vd cs 1 st b)) + ((own_b (own_vd cs 2 st b)) + ((own_b (own_vd cs 3 st b)) + (own_b (own_vd cs 4 st b))))))) (.val (.int ((own_b (own_vd cs 0 st b)) + ((own_b (own_vd cs 1 st b)) + ((own_b (own_vd cs 2 st b)) + ((own_b (own_vd cs 3 st b)) + (own_b (own_vd cs 4 st b)))))))) (.val (.int (((((own_b (own_vp cs 0 st b)) + (own_b (own_vp cs 1 st b))) + (own_b (own_vp cs 2 st b))) + (own_b (own_vp cs 3 st b))) + (own_b (own_vp cs 4 st b))))) .unset .unset .unset .unset .unset s30 s31 s32 s33 s34 s35 s36 s37 s38 s39 cs st b kc n0 X7 hx hZ hw hby hml hown e7 rfl rfl hcs hs hb3 C Z0 N7 hcl hsl One.u
  obtain ⟨T9, L9, X9, N9, e9, st9⟩ := own_Du s0 s1 s2 s3 s4 s5 o6 s7 s8 (Int32.ofNat b) s10 s11 (Int32.ofNat st) (.val (.int (own_b (own_vd cs 0 st b)))) (.val (.int (own_b (own_vd cs 1 st b)))) (.val (.int (own_b (own_vd cs 2 st b)))) (.val (.int (own_b (own_vd cs 3 st b)))) (.val (.int (own_b (own_vd cs 4 st b)))) (0 : Int32) (own_b (own_vd cs 4 st b)) ((own_b (own_vd cs 3 st b)) + (own_b (own_vd cs 4 st b))) ((own_b (own_vd cs 2 st b)) + ((own_b (own_vd cs 3 st b)) + (own_b (own_vd cs 4 st b)))) ((own_b (own_vd cs 1 st b)) + ((own_b (own_vd cs 2 st b)) + ((own_b (own_vd cs 3 st b)) + (own_b (own_vd cs 4 st b))))) (.val (.int ((own_b (own_vd cs 0 st b)) + ((own_b (own_vd cs 1 st b)) + ((own_b (own_vd cs 2 st b)) + ((own_b (own_vd cs 3 st b)) + (own_b (own_vd cs 4 st b)))))))) (.val (.int (((((own_b (own_vp cs 0 st b)) + (own_b (own_vp cs 1 st b))) + (own_b (own_vp cs 2 st b))) + (own_b (own_vp cs 3 st b))) + (own_b (own_vp cs 4 st b))))) (.val (.int (((((own_b (own_vb cs 0 st b)) + (own_b (own_vb cs 1 st b))) + (own_b (own_vb cs 2 st b))) + (own_b (own_vb cs 3 st b))) + (own_b (own_vb cs 4 st b))))) .unset .unset s30 s31 s32 s33 s34 s35 s36 s37 s38 s39 cs st b kc (own_sA cs st b 4 1) (own_sA cs st b 3 2) (own_sA cs st b 2 3) (own_sA cs st b 1 4) (own_sA cs st b 0 5) n0 X8 hx hZ hw hby hml hown e8 rfl rfl hcs hs hb3 C (own_a4 (own_vd cs 1 st b) (own_vd cs 2 st b) (own_vd cs 3 st b) (own_vd cs 4 st b)) (Nat.lt_of_le_of_lt (own_bound cs st b 4 1).1 (by decide)) (own_a3 (own_vd cs 2 st b) (own_vd cs 3 st b) (own_vd cs 4 st b)) (Nat.lt_of_le_of_lt (own_bound cs st b 3 2).1 (by decide)) (own_a2 (own_vd cs 3 st b) (own_vd cs 4 st b)) (Nat.lt_of_le_of_lt (own_bound cs st b 2 3).1 (by decide)) (own_a1 (own_vd cs 4 st b)) (Nat.lt_of_le_of_lt (own_bound cs st b 1 4).1 (by decide)) rfl (Nat.lt_of_le_of_lt (own_bound cs st b 0 5).1 (by decide)) Z0 N8 hcl hsl
  obtain ⟨T10, L10, X10, N10, e10, st10⟩ := own_Ds s0 s1 s2 s3 s4 s5 o6 s7 s8 (Int32.ofNat b) s10 s11 (Int32.ofNat st) (.val (.int (own_b (own_vd cs 0 st b)))) (.val (.int (own_b (own_vd cs 1 st b)))) (.val (.int (own_b (own_vd cs 2 st b)))) (.val (.int (own_b (own_vd cs 3 st b)))) (.val (.int (own_b (own_vd cs 4 st b)))) (0 : Int32) (own_b (own_vd cs 4 st b)) ((own_b (own_vd cs 3 st b)) + (own_b (own_vd cs 4 st b))) ((own_b (own_vd cs 2 st b)) + ((own_b (own_vd cs 3 st b)) + (own_b (own_vd cs 4 st b)))) ((own_b (own_vd cs 1 st b)) + ((own_b (own_vd cs 2 st b)) + ((own_b (own_vd cs 3 st b)) + (own_b (own_vd cs 4 st b))))) (.val (.int ((own_b (own_vd cs 0 st b)) + ((own_b (own_vd cs 1 st b)) + ((own_b (own_vd cs 2 st b)) + ((own_b (own_vd cs 3 st b)) + (own_b (own_vd cs 4 st b)))))))) (.val (.int (((((own_b (own_vp cs 0 st b)) + (own_b (own_vp cs 1 st b))) + (own_b (own_vp cs 2 st b))) + (own_b (own_vp cs 3 st b))) + (own_b (own_vp cs 4 st b))))) (.val (.int (((((own_b (own_vb cs 0 st b)) + (own_b (own_vb cs 1 st b))) + (own_b (own_vb cs 2 st b))) + (own_b (own_vb cs 3 st b))) + (own_b (own_vb cs 4 st b))))) (.val (.long ((((((Int64.ofNat (own_dvn cs 0 st b)) * (Int64.ofNat (10 ^ (own_sA cs st b 4 1)))) + ((Int64.ofNat (own_dvn cs 1 st b)) * (Int64.ofNat (10 ^ (own_sA cs st b 3 2))))) + ((Int64.ofNat (own_dvn cs 2 st b)) * (Int64.ofNat (10 ^ (own_sA cs st b 2 3))))) + ((Int64.ofNat (own_dvn cs 3 st b)) * (Int64.ofNat (10 ^ (own_sA cs st b 1 4))))) + ((Int64.ofNat (own_dvn cs 4 st b)) * (Int64.ofNat (10 ^ (own_sA cs st b 0 5))))))) .second .unset .unset s30 s31 s32 s33 s34 s35 s36 s37 s38 s39 cs st b kc n0 X9 hx hZ hw hby hml hown e9 rfl rfl hcs hs hb3 C Z0 N9 hcl hsl One.u
  have eU : ((((((Int64.ofNat (own_dvn cs 0 st b)) * (Int64.ofNat (10 ^ (own_sA cs st b 4 1)))) + ((Int64.ofNat (own_dvn cs 1 st b)) * (Int64.ofNat (10 ^ (own_sA cs st b 3 2))))) + ((Int64.ofNat (own_dvn cs 2 st b)) * (Int64.ofNat (10 ^ (own_sA cs st b 2 3))))) + ((Int64.ofNat (own_dvn cs 3 st b)) * (Int64.ofNat (10 ^ (own_sA cs st b 1 4))))) + ((Int64.ofNat (own_dvn cs 4 st b)) * (Int64.ofNat (10 ^ (own_sA cs st b 0 5))))) = Int64.ofNat (own_sU cs st b 5 0) := own_eU _ _ _ _ _ _ _ _ _ _
  have eS : ((((((own_b (own_vp cs 0 st b)) * ((own_b (own_vd cs 1 st b)) + ((own_b (own_vd cs 2 st b)) + ((own_b (own_vd cs 3 st b)) + (own_b (own_vd cs 4 st b)))))) + ((own_b (own_vp cs 1 st b)) * ((own_b (own_vd cs 2 st b)) + ((own_b (own_vd cs 3 st b)) + (own_b (own_vd cs 4 st b)))))) + ((own_b (own_vp cs 2 st b)) * ((own_b (own_vd cs 3 st b)) + (own_b (own_vd cs 4 st b))))) + ((own_b (own_vp cs 3 st b)) * (own_b (own_vd cs 4 st b)))) + ((own_b (own_vp cs 4 st b)) * (0 : Int32))) = Int32.ofNat (own_sS cs st b 5 0) := by
    rw [own_a4 (own_vd cs 1 st b) (own_vd cs 2 st b) (own_vd cs 3 st b) (own_vd cs 4 st b), own_a3 (own_vd cs 2 st b) (own_vd cs 3 st b) (own_vd cs 4 st b), own_a2 (own_vd cs 3 st b) (own_vd cs 4 st b), own_a1 (own_vd cs 4 st b)]
    exact own_eS _ _ _ _ _ _ _ _ _ 0
  rw [← eU, ← eS]
  have eP : (((((own_b (own_vp cs 0 st b)) + (own_b (own_vp cs 1 st b))) + (own_b (own_vp cs 2 st b))) + (own_b (own_vp cs 3 st b))) + (own_b (own_vp cs 4 st b))) = Int32.ofNat (own_sP cs st b 5 0) := own_s5 _ _ _ _ _
  have eB : (((((own_b (own_vb cs 0 st b)) + (own_b (own_vb cs 1 st b))) + (own_b (own_vb cs 2 st b))) + (own_b (own_vb cs 3 st b))) + (own_b (own_vb cs 4 st b))) = Int32.ofNat (own_sB cs st b 5 0) := own_s5 _ _ _ _ _
  have eA : ((own_b (own_vd cs 0 st b)) + ((own_b (own_vd cs 1 st b)) + ((own_b (own_vd cs 2 st b)) + ((own_b (own_vd cs 3 st b)) + (own_b (own_vd cs 4 st b)))))) = Int32.ofNat (own_sA cs st b 5 0) := own_a5 _ _ _ _ _
  have hB := (own_bd cs st b 5 0).1
  have hP := (own_bd cs st b 5 0).2
  have hA := (own_bound cs st b 5 0).1
  by_cases h1 : own_sB cs st b 5 0 = 0
  · by_cases h2 : own_sP cs st b 5 0 ≤ 1
    · by_cases h3 : 1 ≤ own_sA cs st b 5 0
      · have hv : (own_sB cs st b 5 0 = 0 ∧ own_sP cs st b 5 0 ≤ 1) ∧ 1 ≤ own_sA cs st b 5 0 := ⟨⟨h1, h2⟩, h3⟩
        obtain ⟨TV, XV, eV, stV⟩ := own_Vy s0 s1 s2 s3 s4 s5 (.val (.ref o6)) s7 s8 (.val (.int (Int32.ofNat b))) s10 s11 (.val (.int (Int32.ofNat st))) (.val (.int (own_b (own_vd cs 0 st b)))) (.val (.int (own_b (own_vd cs 1 st b)))) (.val (.int (own_b (own_vd cs 2 st b)))) (.val (.int (own_b (own_vd cs 3 st b)))) (.val (.int (own_b (own_vd cs 4 st b)))) (.val (.int 0)) (.val (.int (own_b (own_vd cs 4 st b)))) (.val (.int ((own_b (own_vd cs 3 st b)) + (own_b (own_vd cs 4 st b))))) (.val (.int ((own_b (own_vd cs 2 st b)) + ((own_b (own_vd cs 3 st b)) + (own_b (own_vd cs 4 st b)))))) (.val (.int ((own_b (own_vd cs 1 st b)) + ((own_b (own_vd cs 2 st b)) + ((own_b (own_vd cs 3 st b)) + (own_b (own_vd cs 4 st b))))))) ((own_b (own_vd cs 0 st b)) + ((own_b (own_vd cs 1 st b)) + ((own_b (own_vd cs 2 st b)) + ((own_b (own_vd cs 3 st b)) + (own_b (own_vd cs 4 st b)))))) (((((own_b (own_vp cs 0 st b)) + (own_b (own_vp cs 1 st b))) + (own_b (own_vp cs 2 st b))) + (own_b (own_vp cs 3 st b))) + (own_b (own_vp cs 4 st b))) (((((own_b (own_vb cs 0 st b)) + (own_b (own_vb cs 1 st b))) + (own_b (own_vb cs 2 st b))) + (own_b (own_vb cs 3 st b))) + (own_b (own_vb cs 4 st b))) (.val (.long ((((((Int64.ofNat (own_dvn cs 0 st b)) * (Int64.ofNat (10 ^ (own_sA cs st b 4 1)))) + ((Int64.ofNat (own_dvn cs 1 st b)) * (Int64.ofNat (10 ^ (own_sA cs st b 3 2))))) + ((Int64.ofNat (own_dvn cs 2 st b)) * (Int64.ofNat (10 ^ (own_sA cs st b 2 3))))) + ((Int64.ofNat (own_dvn cs 3 st b)) * (Int64.ofNat (10 ^ (own_sA cs st b 1 4))))) + ((Int64.ofNat (own_dvn cs 4 st b)) * (Int64.ofNat (10 ^ (own_sA cs st b 0 5))))))) .second (.val (.int ((((((own_b (own_vp cs 0 st b)) * ((own_b (own_vd cs 1 st b)) + ((own_b (own_vd cs 2 st b)) + ((own_b (own_vd cs 3 st b)) + (own_b (own_vd cs 4 st b)))))) + ((own_b (own_vp cs 1 st b)) * ((own_b (own_vd cs 2 st b)) + ((own_b (own_vd cs 3 st b)) + (own_b (own_vd cs 4 st b)))))) + ((own_b (own_vp cs 2 st b)) * ((own_b (own_vd cs 3 st b)) + (own_b (own_vd cs 4 st b))))) + ((own_b (own_vp cs 3 st b)) * (own_b (own_vd cs 4 st b)))) + ((own_b (own_vp cs 4 st b)) * (0 : Int32))))) .unset s30 s31 s32 s33 s34 s35 s36 s37 s38 s39 X10 hx hZ hw hby hml hown e10 One.u (eB.trans ((own_zero _ (by omega)).mpr h1)) (fun q => by rw [eP] at q; have := (own_lt 1 _ (by decide) (by omega)).mp q; omega) (fun q => by rw [eA] at q; have := (own_lt _ 1 (by omega) (by decide)).mp q; omega)
        rw [show own_vv cs st b = true from decide_eq_true hv]
        exact ⟨TV, _, _, _, _, _, _, _, _, _, _, _, _, _, _, XV, N10, eV, fun t k => st1 _ (st2 _ (st3 _ (st4 _ (st5 _ (st6 _ (st7 _ (st8 _ (st9 _ (st10 _ (stV _ k))))))))))⟩
      · have hv : ¬ ((own_sB cs st b 5 0 = 0 ∧ own_sP cs st b 5 0 ≤ 1) ∧ 1 ≤ own_sA cs st b 5 0) := fun q => h3 q.2
        obtain ⟨TV, XV, eV, stV⟩ := own_Vc s0 s1 s2 s3 s4 s5 (.val (.ref o6)) s7 s8 (.val (.int (Int32.ofNat b))) s10 s11 (.val (.int (Int32.ofNat st))) (.val (.int (own_b (own_vd cs 0 st b)))) (.val (.int (own_b (own_vd cs 1 st b)))) (.val (.int (own_b (own_vd cs 2 st b)))) (.val (.int (own_b (own_vd cs 3 st b)))) (.val (.int (own_b (own_vd cs 4 st b)))) (.val (.int 0)) (.val (.int (own_b (own_vd cs 4 st b)))) (.val (.int ((own_b (own_vd cs 3 st b)) + (own_b (own_vd cs 4 st b))))) (.val (.int ((own_b (own_vd cs 2 st b)) + ((own_b (own_vd cs 3 st b)) + (own_b (own_vd cs 4 st b)))))) (.val (.int ((own_b (own_vd cs 1 st b)) + ((own_b (own_vd cs 2 st b)) + ((own_b (own_vd cs 3 st b)) + (own_b (own_vd cs 4 st b))))))) ((own_b (own_vd cs 0 st b)) + ((own_b (own_vd cs 1 st b)) + ((own_b (own_vd cs 2 st b)) + ((own_b (own_vd cs 3 st b)) + (own_b (own_vd cs 4 st b)))))) (((((own_b (own_vp cs 0 st b)) + (own_b (own_vp cs 1 st b))) + (own_b (own_vp cs 2 st b))) + (own_b (own_vp cs 3 st b))) + (own_b (own_vp cs 4 st b))) (((((own_b (own_vb cs 0 st b)) + (own_b (own_vb cs 1 st b))) + (own_b (own_vb cs 2 st b))) + (own_b (own_vb cs 3 st b))) + (own_b (own_vb cs 4 st b))) (.val (.long ((((((Int64.ofNat (own_dvn cs 0 st b)) * (Int64.ofNat (10 ^ (own_sA cs st b 4 1)))) + ((Int64.ofNat (own_dvn cs 1 st b)) * (Int64.ofNat (10 ^ (own_sA cs st b 3 2))))) + ((Int64.ofNat (own_dvn cs 2 st b)) * (Int64.ofNat (10 ^ (own_sA cs st b 2 3))))) + ((Int64.ofNat (own_dvn cs 3 st b)) * (Int64.ofNat (10 ^ (own_sA cs st b 1 4))))) + ((Int64.ofNat (own_dvn cs 4 st b)) * (Int64.ofNat (10 ^ (own_sA cs st b 0 5))))))) .second (.val (.int ((((((own_b (own_vp cs 0 st b)) * ((own_b (own_vd cs 1 st b)) + ((own_b (own_vd cs 2 st b)) + ((own_b (own_vd cs 3 st b)) + (own_b (own_vd cs 4 st b)))))) + ((own_b (own_vp cs 1 st b)) * ((own_b (own_vd cs 2 st b)) + ((own_b (own_vd cs 3 st b)) + (own_b (own_vd cs 4 st b)))))) + ((own_b (own_vp cs 2 st b)) * ((own_b (own_vd cs 3 st b)) + (own_b (own_vd cs 4 st b))))) + ((own_b (own_vp cs 3 st b)) * (own_b (own_vd cs 4 st b)))) + ((own_b (own_vp cs 4 st b)) * (0 : Int32))))) .unset s30 s31 s32 s33 s34 s35 s36 s37 s38 s39 X10 hx hZ hw hby hml hown e10 One.u (eB.trans ((own_zero _ (by omega)).mpr h1)) (fun q => by rw [eP] at q; have := (own_lt 1 _ (by decide) (by omega)).mp q; omega) (by rw [eA]; exact (own_lt _ 1 (by omega) (by decide)).mpr (by omega))
        rw [show own_vv cs st b = false from decide_eq_false hv]
        exact ⟨TV, _, _, _, _, _, _, _, _, _, _, _, _, _, _, XV, N10, eV, fun t k => st1 _ (st2 _ (st3 _ (st4 _ (st5 _ (st6 _ (st7 _ (st8 _ (st9 _ (st10 _ (stV _ k))))))))))⟩
    · have hv : ¬ ((own_sB cs st b 5 0 = 0 ∧ own_sP cs st b 5 0 ≤ 1) ∧ 1 ≤ own_sA cs st b 5 0) := fun q => h2 q.1.2
      obtain ⟨TV, XV, eV, stV⟩ := own_Vb s0 s1 s2 s3 s4 s5 (.val (.ref o6)) s7 s8 (.val (.int (Int32.ofNat b))) s10 s11 (.val (.int (Int32.ofNat st))) (.val (.int (own_b (own_vd cs 0 st b)))) (.val (.int (own_b (own_vd cs 1 st b)))) (.val (.int (own_b (own_vd cs 2 st b)))) (.val (.int (own_b (own_vd cs 3 st b)))) (.val (.int (own_b (own_vd cs 4 st b)))) (.val (.int 0)) (.val (.int (own_b (own_vd cs 4 st b)))) (.val (.int ((own_b (own_vd cs 3 st b)) + (own_b (own_vd cs 4 st b))))) (.val (.int ((own_b (own_vd cs 2 st b)) + ((own_b (own_vd cs 3 st b)) + (own_b (own_vd cs 4 st b)))))) (.val (.int ((own_b (own_vd cs 1 st b)) + ((own_b (own_vd cs 2 st b)) + ((own_b (own_vd cs 3 st b)) + (own_b (own_vd cs 4 st b))))))) (.val (.int ((own_b (own_vd cs 0 st b)) + ((own_b (own_vd cs 1 st b)) + ((own_b (own_vd cs 2 st b)) + ((own_b (own_vd cs 3 st b)) + (own_b (own_vd cs 4 st b)))))))) (((((own_b (own_vp cs 0 st b)) + (own_b (own_vp cs 1 st b))) + (own_b (own_vp cs 2 st b))) + (own_b (own_vp cs 3 st b))) + (own_b (own_vp cs 4 st b))) (((((own_b (own_vb cs 0 st b)) + (own_b (own_vb cs 1 st b))) + (own_b (own_vb cs 2 st b))) + (own_b (own_vb cs 3 st b))) + (own_b (own_vb cs 4 st b))) (.val (.long ((((((Int64.ofNat (own_dvn cs 0 st b)) * (Int64.ofNat (10 ^ (own_sA cs st b 4 1)))) + ((Int64.ofNat (own_dvn cs 1 st b)) * (Int64.ofNat (10 ^ (own_sA cs st b 3 2))))) + ((Int64.ofNat (own_dvn cs 2 st b)) * (Int64.ofNat (10 ^ (own_sA cs st b 2 3))))) + ((Int64.ofNat (own_dvn cs 3 st b)) * (Int64.ofNat (10 ^ (own_sA cs st b 1 4))))) + ((Int64.ofNat (own_dvn cs 4 st b)) * (Int64.ofNat (10 ^ (own_sA cs st b 0 5))))))) .second (.val (.int ((((((own_b (own_vp cs 0 st b)) * ((own_b (own_vd cs 1 st b)) + ((own_b (own_vd cs 2 st b)) + ((own_b (own_vd cs 3 st b)) + (own_b (own_vd cs 4 st b)))))) + ((own_b (own_vp cs 1 st b)) * ((own_b (own_vd cs 2 st b)) + ((own_b (own_vd cs 3 st b)) + (own_b (own_vd cs 4 st b)))))) + ((own_b (own_vp cs 2 st b)) * ((own_b (own_vd cs 3 st b)) + (own_b (own_vd cs 4 st b))))) + ((own_b (own_vp cs 3 st b)) * (own_b (own_vd cs 4 st b)))) + ((own_b (own_vp cs 4 st b)) * (0 : Int32))))) .unset s30 s31 s32 s33 s34 s35 s36 s37 s38 s39 X10 hx hZ hw hby hml hown e10 One.u (eB.trans ((own_zero _ (by omega)).mpr h1)) (by rw [eP]; exact (own_lt 1 _ (by decide) (by omega)).mpr (by omega))
      rw [show own_vv cs st b = false from decide_eq_false hv]
      exact ⟨TV, _, _, _, _, _, _, _, _, _, _, _, _, _, _, XV, N10, eV, fun t k => st1 _ (st2 _ (st3 _ (st4 _ (st5 _ (st6 _ (st7 _ (st8 _ (st9 _ (st10 _ (stV _ k))))))))))⟩
  · have hv : ¬ ((own_sB cs st b 5 0 = 0 ∧ own_sP cs st b 5 0 ≤ 1) ∧ 1 ≤ own_sA cs st b 5 0) := fun q => h1 q.1.1
    obtain ⟨TV, XV, eV, stV⟩ := own_Va s0 s1 s2 s3 s4 s5 (.val (.ref o6)) s7 s8 (.val (.int (Int32.ofNat b))) s10 s11 (.val (.int (Int32.ofNat st))) (.val (.int (own_b (own_vd cs 0 st b)))) (.val (.int (own_b (own_vd cs 1 st b)))) (.val (.int (own_b (own_vd cs 2 st b)))) (.val (.int (own_b (own_vd cs 3 st b)))) (.val (.int (own_b (own_vd cs 4 st b)))) (.val (.int 0)) (.val (.int (own_b (own_vd cs 4 st b)))) (.val (.int ((own_b (own_vd cs 3 st b)) + (own_b (own_vd cs 4 st b))))) (.val (.int ((own_b (own_vd cs 2 st b)) + ((own_b (own_vd cs 3 st b)) + (own_b (own_vd cs 4 st b)))))) (.val (.int ((own_b (own_vd cs 1 st b)) + ((own_b (own_vd cs 2 st b)) + ((own_b (own_vd cs 3 st b)) + (own_b (own_vd cs 4 st b))))))) (.val (.int ((own_b (own_vd cs 0 st b)) + ((own_b (own_vd cs 1 st b)) + ((own_b (own_vd cs 2 st b)) + ((own_b (own_vd cs 3 st b)) + (own_b (own_vd cs 4 st b)))))))) (.val (.int (((((own_b (own_vp cs 0 st b)) + (own_b (own_vp cs 1 st b))) + (own_b (own_vp cs 2 st b))) + (own_b (own_vp cs 3 st b))) + (own_b (own_vp cs 4 st b))))) (((((own_b (own_vb cs 0 st b)) + (own_b (own_vb cs 1 st b))) + (own_b (own_vb cs 2 st b))) + (own_b (own_vb cs 3 st b))) + (own_b (own_vb cs 4 st b))) (.val (.long ((((((Int64.ofNat (own_dvn cs 0 st b)) * (Int64.ofNat (10 ^ (own_sA cs st b 4 1)))) + ((Int64.ofNat (own_dvn cs 1 st b)) * (Int64.ofNat (10 ^ (own_sA cs st b 3 2))))) + ((Int64.ofNat (own_dvn cs 2 st b)) * (Int64.ofNat (10 ^ (own_sA cs st b 2 3))))) + ((Int64.ofNat (own_dvn cs 3 st b)) * (Int64.ofNat (10 ^ (own_sA cs st b 1 4))))) + ((Int64.ofNat (own_dvn cs 4 st b)) * (Int64.ofNat (10 ^ (own_sA cs st b 0 5))))))) .second (.val (.int ((((((own_b (own_vp cs 0 st b)) * ((own_b (own_vd cs 1 st b)) + ((own_b (own_vd cs 2 st b)) + ((own_b (own_vd cs 3 st b)) + (own_b (own_vd cs 4 st b)))))) + ((own_b (own_vp cs 1 st b)) * ((own_b (own_vd cs 2 st b)) + ((own_b (own_vd cs 3 st b)) + (own_b (own_vd cs 4 st b)))))) + ((own_b (own_vp cs 2 st b)) * ((own_b (own_vd cs 3 st b)) + (own_b (own_vd cs 4 st b))))) + ((own_b (own_vp cs 3 st b)) * (own_b (own_vd cs 4 st b)))) + ((own_b (own_vp cs 4 st b)) * (0 : Int32))))) .unset s30 s31 s32 s33 s34 s35 s36 s37 s38 s39 X10 hx hZ hw hby hml hown e10 One.u (fun q => h1 ((own_zero _ (by omega)).mp (eB.symm.trans q)))
    rw [show own_vv cs st b = false from decide_eq_false hv]
    exact ⟨TV, _, _, _, _, _, _, _, _, _, _, _, _, _, _, XV, N10, eV, fun t k => st1 _ (st2 _ (st3 _ (st4 _ (st5 _ (st6 _ (st7 _ (st8 _ (st9 _ (st10 _ (stV _ k))))))))))⟩
theorem own_ti (u : Nat) (h : u < 100000) : (Int64.ofNat u).toInt = (u : Int) := Int64.toInt_ofNat_of_lt (by omega)
theorem own_tin (u : Nat) (h : u < 100000) : (-(Int64.ofNat u)).toInt = -(u : Int) := by
  rw [Int64.toInt_neg, own_ti u h, Int.bmod_eq_of_le (by omega) (by omega)]
theorem own_ngp (x : Int64) (h : 0 ≤ x.toInt) : own_ng x = 0 := by
  have z0 : (0 : Int64).toInt = 0 := by decide
  unfold own_ng lcmpW
  by_cases h1 : x > 0
  · rw [if_pos h1]; decide
  · have : x = 0 := by
      apply Int64.toInt_inj.mp
      rw [gt_iff_lt, Int64.lt_iff_toInt_lt] at h1
      omega
    rw [if_neg h1, if_pos this]; decide
theorem own_ngn (x : Int64) (h : x.toInt < 0) : own_ng x = 1 := by
  have z0 : (0 : Int64).toInt = 0 := by decide
  unfold own_ng lcmpW
  have h1 : ¬ x > 0 := fun q => by rw [gt_iff_lt, Int64.lt_iff_toInt_lt] at q; omega
  have h2 : ¬ x = 0 := fun q => by rw [q] at h; omega
  rw [if_neg h1, if_neg h2]
  decide
theorem own_sgn (u : Nat) (h : u < 100000) (ng : Bool) : own_ng (if ng then -(Int64.ofNat u) else Int64.ofNat u) = own_b (ng && decide (u ≠ 0)) := by
  cases ng with
  | false => rw [if_neg (by decide)]; rw [own_ngp _ (by rw [own_ti u h]; omega)]; rfl
  | true =>
    rw [if_pos rfl]
    by_cases h0 : u = 0
    · subst h0; rfl
    · rw [own_ngn _ (by rw [own_tin u h]; omega), decide_eq_true h0]; rfl
theorem own_u0 (u : Nat) (h : u < 100000) : lcmpW (Int64.ofNat u) 0 = 0 ↔ u = 0 := by
  have z0 : (0 : Int64).toInt = 0 := by decide
  constructor
  · intro q
    unfold lcmpW at q
    by_cases h1 : Int64.ofNat u > 0
    · rw [if_pos h1] at q; exact absurd q (by decide)
    · rw [gt_iff_lt, Int64.lt_iff_toInt_lt, own_ti u h] at h1; omega
  · rintro rfl; rfl
theorem own_lc0 (x : Int64) : lcmpW x x = 0 := by
  unfold lcmpW
  rw [if_neg (by rw [gt_iff_lt, Int64.lt_iff_toInt_lt]; omega), if_pos rfl]
theorem pd_0_3 : parseMethodDescriptor "()V" = some ⟨[], none⟩ := by decide +kernel
theorem os0_550_543 {s0 : Slot} {s1 : Slot} {s2 : Slot} {s3 : Slot} {s4 : Slot} {s5 : Slot} {s6 : Slot} {s7 : Slot} {s8 : Slot} {s9 : Slot} {s10 : Slot} {s11 : Slot} {s12 : Slot} {s13 : Slot} {s14 : Slot} {s15 : Slot} {s16 : Slot} {s17 : Slot} {s18 : Slot} {s19 : Slot} {s20 : Slot} {s21 : Slot} {s22 : Slot} {s23 : Slot} {s24 : Slot} {s25 : Slot} {s26 : Slot} {s27 : Slot} {s28 : Slot} {s29 : Slot} {s30 : Slot} {s31 : Slot} {s32 : Slot} {s33 : Slot} {s34 : Slot} {s35 : Slot} {s36 : Slot} {s37 : Slot} {s38 : Slot} {s39 : Slot} {v : Addr} (h : One s30) : storeLocals #[s0, s1, s2, s3, s4, s5, s6, s7, s8, s9, s10, s11, s12, s13, s14, s15, s16, s17, s18, s19, s20, s21, s22, s23, s24, s25, s26, s27, s28, s29, s30, s31, s32, s33, s34, s35, s36, s37, s38, s39] 30 (.ref v) = some #[s0, s1, s2, s3, s4, s5, s6, s7, s8, s9, s10, s11, s12, s13, s14, s15, s16, s17, s18, s19, s20, s21, s22, s23, s24, s25, s26, s27, s28, s29, .val (.ref v), s31, s32, s33, s34, s35, s36, s37, s38, s39] := by
  rcases h with rfl | ⟨w, rfl, hw⟩
  · rfl
  · cases w <;> first | rfl | (simp [Value.category] at hw)
set_option maxRecDepth 65536 in
set_option maxHeartbeats 40000000 in
theorem own_G0 {p : Program} {l : Launch} {e : Env} {s : State} {m : MethodId} {args : Array Value} {below : List Frame} {meth : Method} {c : Code} {T0 : State} {locs : List Loc} {cells slots : Nat} {Z : State} {a0 : Array Value} {h0 : Heap} (s0 : Slot) (s1 : Slot) (s2 : Slot) (s3 : Slot) (s4 : Slot) (s5 : Slot) (s6 : Slot) (s7 : Slot) (s8 : Slot) (s9 : Slot) (s10 : Slot) (s11 : Slot) (s12 : Slot) (s13 : Slot) (s14 : Slot) (s15 : Slot) (s16 : Slot) (s17 : Slot) (s18 : Slot) (s19 : Slot) (s20 : Slot) (s21 : Slot) (s22 : Slot) (s23 : Slot) (s24 : Slot) (s25 : Slot) (s26 : Slot) (s27 : Slot) (s28 : Slot) (s29 : Slot) (s30 : Slot) (s31 : Slot) (s32 : Slot) (s33 : Slot) (s34 : Slot) (s35 : Slot) (s36 : Slot) (s37 : Slot) (s38 : Slot) (s39 : Slot) (n0 : Nat)
    (X0 : Stand p l e room_1 s m args below meth c T0 locs cells slots) (hx : p.tables.exec = Jvm.exec) (hZ : Z.Warmed39 s.vm) (hw : ∀ d ∈ tables_1, d.before a0 Z = true) (hby : c.code = code) (hml : c.maxLocals = 40) (hown : s.vm.findClass "com/example/bandmark/bandmark/PlainDecimalReadPinLaw" = some m.cls) (e0 : T0.heap = h0) (Z0 : n0 ≤ h0.size) (N0 : Fr n0 locs) (hcl : cells ≤ 5) (hsl : slots ≤ 40) (hs30 : One s30) :
    ∃ (T' : State) (locs' : List Loc) (b7 : Addr), Stand p l e room_1 s m args below meth c T' locs' (cells + 1) (slots + 6) ∧ Fr n0 locs' ∧ Keep h0 T'.heap [] ∧ n0 ≤ b7 ∧ own_PD Z T'.heap b7 0 0 0 ∧
      ∀ target, Steps p.tables e below (T'.setTop (mkF m 552 #[s0, s1, s2, s3, s4, s5, s6, s7, s8, s9, s10, s11, s12, s13, s14, s15, s16, s17, s18, s19, s20, s21, s22, s23, s24, s25, s26, s27, s28, s29, .val (.ref b7), s31, s32, s33, s34, s35, s36, s37, s38, s39] [])) target → Steps p.tables e below (T0.setTop (mkF m 543 #[s0, s1, s2, s3, s4, s5, s6, s7, s8, s9, s10, s11, s12, s13, s14, s15, s16, s17, s18, s19, s20, s21, s22, s23, s24, s25, s26, s27, s28, s29, s30, s31, s32, s33, s34, s35, s36, s37, s38, s39] [])) target := by
  obtain ⟨T7, h7, X7, e7, E7, A7, D7, -, st7⟩ := newO X0 hx hZ hown (own_W hw 54 rfl) (own_W hw 55 rfl) (own_W hw 56 rfl) e0 (g := (mkF m 543 #[s0, s1, s2, s3, s4, s5, s6, s7, s8, s9, s10, s11, s12, s13, s14, s15, s16, s17, s18, s19, s20, s21, s22, s23, s24, s25, s26, s27, s28, s29, s30, s31, s32, s33, s34, s35, s36, s37, s38, s39] [])) rfl (hb hby at_543) (Nat.le_trans (Nat.add_le_add_right hcl 1) (by decide)) (Nat.le_trans (Nat.add_le_add_right hsl 6) (by decide))
  obtain ⟨b7, g7⟩ : ∃ z, z = h0.size := ⟨_, rfl⟩
  rw [← g7] at A7 D7 st7
  have F_text_b7 : Fld Z h7 b7 "com/example/bandmark/bandmark/PlainDecimal" "text" "Ljava/lang/String;" .null := D7 (Or.inl (own_W hw 93 rfl)) (ty := (.object "java/lang/String")) (by decide)
  have F_from_b7 : Fld Z h7 b7 "com/example/bandmark/bandmark/PlainDecimal" "from" "I" (.int 0) := D7 (Or.inl (own_W hw 95 rfl)) (ty := .int) (by decide)
  have F_to_b7 : Fld Z h7 b7 "com/example/bandmark/bandmark/PlainDecimal" "to" "I" (.int 0) := D7 (Or.inl (own_W hw 97 rfl)) (ty := .int) (by decide)
  have F_unscaled_b7 : Fld Z h7 b7 "com/example/bandmark/bandmark/PlainDecimal" "unscaled" "J" (.long (0 : Int64)) := D7 (Or.inl (own_W hw 99 rfl)) (ty := .long) (by decide)
  have F_scale_b7 : Fld Z h7 b7 "com/example/bandmark/bandmark/PlainDecimal" "scale" "I" (.int 0) := D7 (Or.inl (own_W hw 101 rfl)) (ty := .int) (by decide)
  have F_digits_b7 : Fld Z h7 b7 "com/example/bandmark/bandmark/PlainDecimal" "digits" "I" (.int 0) := D7 (Or.inl (own_W hw 103 rfl)) (ty := .int) (by decide)
  have E_b7 := A7
  have g_b7 : n0 ≤ b7 := Nat.le_trans Z0 (Nat.le_of_eq g7.symm)
  have sz_b7 : h0.size ≤ b7 := (Nat.le_trans (Keep.refl h0 []).1 (Nat.le_of_eq g7.symm))
  have K7 : Keep h0 h7 [] := (Keep.refl h0 []).ext E7
  obtain ⟨_, _, ⟨T8, L8, k8, n8⟩, -, X8, ⟨Lc8, hQ8, l8, y8, z8⟩, st8⟩ := X7.specialBack hx (y := (⟨"com/example/bandmark/bandmark/PlainDecimal", "<init>", "()V"⟩ : MethodName)) rfl hown (mvT hZ (own_W hw 57 rfl)) (mvT hZ (own_W hw 58 rfl)) (mvT hZ (own_W hw 59 rfl)) (by decide) (backOf (W := 1) (r14 l Z a0 hw [] b7 h7 n0 (Nat.le_trans Z0 E7.1)) hZ (own_W hw 59 rfl) (own_W hw 56 rfl) (by decide) (by decide)) (g := (mkF m 547 #[s0, s1, s2, s3, s4, s5, s6, s7, s8, s9, s10, s11, s12, s13, s14, s15, s16, s17, s18, s19, s20, s21, s22, s23, s24, s25, s26, s27, s28, s29, s30, s31, s32, s33, s34, s35, s36, s37, s38, s39] [(.ref b7), (.ref b7)])) rfl (by rw [hml]; rfl) (Steps.refl _) (a := b7) (argsL := []) (rest := [(.ref b7)]) (lenOf pd_0_3 rfl) rfl (by show 2 * 0 + _ ≤ _; exact Nat.le_of_eq rfl) (hb hby at_547) (fun _ _ => ⟨rfl, e7, (Nat.le_trans (Nat.add_le_add_right hcl 1) (by decide)), (Nat.le_trans (Nat.add_le_add_right hsl 6) (by decide))⟩)
  dsimp only [Pt.U, Pt.locs, Pt.cells, Pt.slots] at X8 l8 y8 z8 st8 hQ8
  subst l8 y8 z8
  obtain ⟨rfl, N8q, e8⟩ := hQ8
  have N8 := Fr.app N0 N8q
  refine ⟨T8, _, b7, X8, N8, by rw [e8]; exact K7, g_b7, by rw [e8]; exact ⟨E_b7, ⟨_, F_text_b7⟩, ⟨_, F_from_b7⟩, ⟨_, F_to_b7⟩, F_unscaled_b7, F_scale_b7, F_digits_b7⟩, fun target kt => ?_⟩
  refine st7 _ ?_
  refine XS.dup X7.here hx rfl (hb hby at_546) rfl rfl ?_
  refine st8.trans ?_
  refine XS.astore X8.here hx rfl (hb hby at_550) rfl rfl (l' := #[s0, s1, s2, s3, s4, s5, s6, s7, s8, s9, s10, s11, s12, s13, s14, s15, s16, s17, s18, s19, s20, s21, s22, s23, s24, s25, s26, s27, s28, s29, .val (.ref b7), s31, s32, s33, s34, s35, s36, s37, s38, s39]) (os0_550_543 hs30) ?_
  exact kt
theorem own_PD.ext {Z : State} {h h' : Heap} {o : Addr} {u : Int64} {q d : Int32} (P : own_PD Z h o u q d) (E : Ext h h') : own_PD Z h' o u q d := by
  obtain ⟨E0, ⟨u1, F1⟩, ⟨u2, F2⟩, ⟨u3, F3⟩, F4, F5, F6⟩ := P
  exact ⟨E0.ext E, ⟨u1, F1.ext E⟩, ⟨u2, F2.ext E⟩, ⟨u3, F3.ext E⟩, F4.ext E, F5.ext E, F6.ext E⟩
abbrev own_EL : List (String × Nat) := [("com/example/bandmark/bandmark/PlainDecimalReadPinLaw", 54)]
theorem own_noW {s : State} : s.Since s.vm 0 := (State.WarmedH.refl s).since 0
abbrev own_m15 : List Int32 := [45, 49, 46, 53]
theorem own_tl : "-1.5".toList = ['-', '1', '.', '5'] := by decide +kernel
theorem own_txt : (∀ c ∈ "-1.5".toList, c.toNat < 256) ∧ "-1.5".toList.map (fun c => Value.int (Jvm.Lit.byteI c.toNat.toUInt16)) = (own_m15.map StrChars.lo8).map Value.int := by
  rw [own_tl]
  exact ⟨by decide, rfl⟩
theorem own_r15 : own_read (fun j => own_m15.getD j 0) 0 4 = some (2, 15, 1) ∧ own_neg (fun j => own_m15.getD j 0) 0 4 = true := by decide +kernel
theorem pd_0_11 : parseMethodDescriptor "(Ljava/lang/String;II)Z" = some ⟨[(.object "java/lang/String"), .int, .int], some .boolean⟩ := by decide +kernel
theorem own_G1 {p : Program} {l : Launch} {e : Env} {s : State} {m : MethodId} {args : Array Value} {below : List Frame} {meth : Method} {c : Code} {T0 : State} {locs : List Loc} {cells slots : Nat} {Z : State} {a0 : Array Value} {h0 : Heap} (s0 s1 s2 s3 s4 s5 s6 s7 s8 s9 s10 s11 s12 s13 s14 s15 s16 s17 s18 s19 s20 s21 s22 s23 s24 s25 s26 s27 s28 s29 s32 s33 s34 s35 s36 s37 s38 s39 : Slot) (o30 : Addr) (n0 : Nat) (u : Int64) (q d : Int32)
    (X0 : Stand p l e room_1 s m args below meth c T0 locs cells slots) (hx : p.tables.exec = Jvm.exec) (hZ : Z.Warmed39 s.vm) (hw : ∀ d ∈ tables_1, d.before a0 Z = true) (hby : c.code = code) (hml : c.maxLocals = 40) (hown : s.vm.findClass "com/example/bandmark/bandmark/PlainDecimalReadPinLaw" = some m.cls) (e0 : T0.heap = h0) (hwS : ∀ d ∈ Bundle.stringAtoms, d.before a0 Z = true) (hEL : EW Z a0 own_EL) (hC : CHv Z own_EL s.vm h0) (Z0 : n0 ≤ h0.size) (N0 : Fr n0 locs) (hcl : cells ≤ 6) (hsl : slots ≤ 46) (HP : own_PD Z h0 o30 u q d) (g30 : n0 ≤ o30) (SWh : own_SW Z h0) :
    ∃ (T' : State) (vm' : Vm) (locs' : List Loc) (k : Nat) (h1 : Heap), Stand p l e room_1 (s.setVm vm') m args below meth c T' locs' (cells + 2) (slots + 20) ∧ s.Since vm' k ∧ k ≤ T'.heap.size ∧ Z.Warmed39 (s.setVm vm').vm ∧ (s.setVm vm').vm.findClass "com/example/bandmark/bandmark/PlainDecimalReadPinLaw" = some m.cls ∧ Fr n0 locs' ∧ Ext h0 h1 ∧ Keep h1 T'.heap [o30] ∧ own_PD Z T'.heap o30 (-15) 1 2 ∧ ∀ target, Steps p.tables e below (T'.setTop (mkF m 563 #[s0, s1, s2, s3, s4, s5, s6, s7, s8, s9, s10, s11, s12, s13, s14, s15, s16, s17, s18, s19, s20, s21, s22, s23, s24, s25, s26, s27, s28, s29, .val (.ref o30), .val (.int 1), s32, s33, s34, s35, s36, s37, s38, s39] [])) target → Steps p.tables e below (T0.setTop (mkF m 552 #[s0, s1, s2, s3, s4, s5, s6, s7, s8, s9, s10, s11, s12, s13, s14, s15, s16, s17, s18, s19, s20, s21, s22, s23, s24, s25, s26, s27, s28, s29, .val (.ref o30), .unset, s32, s33, s34, s35, s36, s37, s38, s39] [])) target := by
  obtain ⟨a, T7, h7, k1, b, kb, X7, e7, E7, S7, hk7, hZ7, hown7, Ea, Fc, Fv, Va, la, lb, C7, L7, hs7, st7⟩ := ldcCH (s := s) (vm0 := s.vm) (EL := own_EL) X0 hx hZ hown (own_W hw 61 rfl) hwS e0 (k0 := 0) own_noW (Nat.zero_le _) hEL (by decide) hC (vs := (own_m15.map StrChars.lo8).map Value.int) (z := 4) own_txt (by decide) rfl (g := (mkF m 554 #[s0, s1, s2, s3, s4, s5, s6, s7, s8, s9, s10, s11, s12, s13, s14, s15, s16, s17, s18, s19, s20, s21, s22, s23, s24, s25, s26, s27, s28, s29, .val (.ref o30), .unset, s32, s33, s34, s35, s36, s37, s38, s39] [(.ref o30)])) rfl (hb hby at_554) (n := 16) (by rw [own_tl]; decide) (by decide) (Nat.le_trans (Nat.add_le_add_right hcl 2) (by decide)) (Nat.le_trans (Nat.add_le_add_right hsl 20) (by decide))
  have TX : own_Tx Z h7 a own_m15 := ⟨⟨b, kb, Ea, Fv, by decide, by decide, Or.inl ⟨Fc, Va, by decide⟩⟩, SWh.ext E7⟩
  have HP7 := HP.ext E7
  obtain ⟨cq, kq, qa, qb, qc⟩ := isOf hZ7 e7 HP7.1
  obtain ⟨_, _, ⟨T8, L8, k8, n8⟩, -, X8, ⟨Lc8, hQ8, l8, y8, z8⟩, st8⟩ := X7.virtualBack hx (y := (⟨"com/example/bandmark/bandmark/PlainDecimal", "read", "(Ljava/lang/String;II)Z"⟩ : MethodName)) (z := (⟨"com/example/bandmark/bandmark/PlainDecimal", "read", "(Ljava/lang/String;II)Z"⟩ : MethodName)) hown7 (mvT hZ7 (own_W hw 64 rfl)) (mvT hZ7 (own_W hw 65 rfl)) (notFace_of_selects (args := #[]) (mvT hZ7 (own_W hw 67 rfl))) (mvT hZ7 (own_W hw 67 rfl)) (mvT hZ7 (own_W hw 66 rfl)) (by decide) (backOf (W := 0) (r15 l Z a0 hw [] o30 a (0 : Int32) (4 : Int32) own_m15 0 4 u q d h7 n0 (Nat.le_trans Z0 E7.1) rfl rfl (by decide) (by decide) TX HP7 g30) hZ7 (own_W hw 68 rfl) (own_W hw 56 rfl) (by decide) (by decide)) qa qc (g := (mkF m 558 #[s0, s1, s2, s3, s4, s5, s6, s7, s8, s9, s10, s11, s12, s13, s14, s15, s16, s17, s18, s19, s20, s21, s22, s23, s24, s25, s26, s27, s28, s29, .val (.ref o30), .unset, s32, s33, s34, s35, s36, s37, s38, s39] [(.int 4), (.int 0), (.ref a), (.ref o30)])) rfl (by rw [hml]; rfl) (Steps.refl _) (argsL := [(.ref a), (.int 0), (.int 4)]) (rest := []) (lenOf pd_0_11 rfl) rfl (by show 2 * 0 + _ ≤ _; exact Nat.le_of_eq rfl) (hb hby at_558) (fun _ _ => ⟨rfl, e7, (Nat.le_trans (Nat.add_le_add_right hcl 2) (by decide)), (Nat.le_trans (Nat.add_le_add_right hsl 20) (by decide))⟩)
  dsimp only [Pt.U, Pt.locs, Pt.cells, Pt.slots] at X8 l8 y8 z8 st8 hQ8
  subst l8 y8 z8
  rw [own_r15.1, own_r15.2] at hQ8
  obtain ⟨rfl, N8q, K8, P8⟩ := hQ8
  have N8 := Fr.app N0 N8q
  refine ⟨T8, T7.vm, _, k1, h7, X8, S7, Nat.le_trans hk7 K8.1, hZ7, hown7, N8, E7, K8, P8, fun target kt => ?_⟩
  refine XS.aload X0.here hx rfl (hb hby at_552) rfl rfl ?_
  refine st7 _ ?_
  refine XS.iconst X7.here hx rfl (hb hby at_556) ?_
  refine XS.iconst X7.here hx rfl (hb hby at_557) ?_
  refine st8.trans ?_
  refine XS.istore X8.here hx rfl (hb hby at_561) rfl (l' := #[s0, s1, s2, s3, s4, s5, s6, s7, s8, s9, s10, s11, s12, s13, s14, s15, s16, s17, s18, s19, s20, s21, s22, s23, s24, s25, s26, s27, s28, s29, .val (.ref o30), .val (.int 1), s32, s33, s34, s35, s36, s37, s38, s39]) rfl ?_
  exact kt
theorem os0_574_own_G2 {s0 : Slot} {s1 : Slot} {s2 : Slot} {s3 : Slot} {s4 : Slot} {s5 : Slot} {s6 : Slot} {z7 : Value} {z8 : Value} {z9 : Value} {s10 : Slot} {s11 : Slot} {s12 : Slot} {s13 : Slot} {s14 : Slot} {s15 : Slot} {s16 : Slot} {s17 : Slot} {s18 : Slot} {s19 : Slot} {s20 : Slot} {s21 : Slot} {s22 : Slot} {s23 : Slot} {s24 : Slot} {s25 : Slot} {s26 : Slot} {s27 : Slot} {s28 : Slot} {s29 : Slot} {z30 : Value} {s31 : Slot} {s32 : Slot} {s33 : Slot} {s34 : Slot} {s35 : Slot} {s36 : Slot} {s37 : Slot} {s38 : Slot} {s39 : Slot} {v : Int32} (h : One s32) : storeLocals #[s0, s1, s2, s3, s4, s5, s6, .val z7, .val z8, .val z9, s10, s11, s12, s13, s14, s15, s16, s17, s18, s19, s20, s21, s22, s23, s24, s25, s26, s27, s28, s29, .val z30, s31, s32, s33, s34, s35, s36, s37, s38, s39] 32 (.int v) = some #[s0, s1, s2, s3, s4, s5, s6, .val z7, .val z8, .val z9, s10, s11, s12, s13, s14, s15, s16, s17, s18, s19, s20, s21, s22, s23, s24, s25, s26, s27, s28, s29, .val z30, s31, .val (.int v), s33, s34, s35, s36, s37, s38, s39] := by
  rcases h with rfl | ⟨w, rfl, hw⟩
  · rfl
  · cases w <;> first | rfl | (simp [Value.category] at hw)
set_option maxRecDepth 65536 in
set_option maxHeartbeats 40000000 in
theorem own_G2 {p : Program} {l : Launch} {e : Env} {s : State} {m : MethodId} {args : Array Value} {below : List Frame} {meth : Method} {c : Code} {T0 : State} {locs : List Loc} {cells slots : Nat} {Z : State} {a0 : Array Value} {h0 : Heap} (s0 : Slot) (s1 : Slot) (s2 : Slot) (s3 : Slot) (s4 : Slot) (s5 : Slot) (s6 : Slot) (o7 : Addr) (i8 : Int32) (i9 : Int32) (s10 : Slot) (s11 : Slot) (s12 : Slot) (s13 : Slot) (s14 : Slot) (s15 : Slot) (s16 : Slot) (s17 : Slot) (s18 : Slot) (s19 : Slot) (s20 : Slot) (s21 : Slot) (s22 : Slot) (s23 : Slot) (s24 : Slot) (s25 : Slot) (s26 : Slot) (s27 : Slot) (s28 : Slot) (s29 : Slot) (o30 : Addr) (s31 : Slot) (s32 : Slot) (s33 : Slot) (s34 : Slot) (s35 : Slot) (s36 : Slot) (s37 : Slot) (s38 : Slot) (s39 : Slot) (cs : List Int32) (a b : Nat) (u : Int64) (q d : Int32) (n0 : Nat)
    (X0 : Stand p l e room_1 s m args below meth c T0 locs cells slots) (hx : p.tables.exec = Jvm.exec) (hZ : Z.Warmed39 s.vm) (hw : ∀ d ∈ tables_1, d.before a0 Z = true) (hby : c.code = code) (hml : c.maxLocals = 40) (hown : s.vm.findClass "com/example/bandmark/bandmark/PlainDecimalReadPinLaw" = some m.cls) (e0 : T0.heap = h0) (h8 : i8 = Int32.ofNat a) (h9 : i9 = Int32.ofNat b) (hab : a ≤ b) (hbc : b ≤ cs.length) (TX : own_Tx Z h0 o7 cs) (HP : own_PD Z h0 o30 u q d) (g30 : n0 ≤ o30) (Z0 : n0 ≤ h0.size) (N0 : Fr n0 locs) (hcl : cells ≤ room_1.cells) (hsl : slots ≤ room_1.slots) (hs32 : One s32) :
    ∃ (T' : State) (locs' : List Loc), Stand p l e room_1 s m args below meth c T' locs' cells slots ∧ Fr n0 locs' ∧ Keep h0 T'.heap [o30] ∧ own_PD Z T'.heap o30 (own_nu (own_read (fun j => cs.getD j 0) a b) (own_neg (fun j => cs.getD j 0) a b) u) (own_nq (own_read (fun j => cs.getD j 0) a b) q) (own_nd (own_read (fun j => cs.getD j 0) a b) d) ∧
      ∀ target, Steps p.tables e below (T'.setTop (mkF m 576 #[s0, s1, s2, s3, s4, s5, s6, .val (.ref o7), .val (.int i8), .val (.int i9), s10, s11, s12, s13, s14, s15, s16, s17, s18, s19, s20, s21, s22, s23, s24, s25, s26, s27, s28, s29, .val (.ref o30), s31, .val (.int (own_r (own_read (fun j => cs.getD j 0) a b))), s33, s34, s35, s36, s37, s38, s39] [])) target → Steps p.tables e below (T0.setTop (mkF m 563 #[s0, s1, s2, s3, s4, s5, s6, .val (.ref o7), .val (.int i8), .val (.int i9), s10, s11, s12, s13, s14, s15, s16, s17, s18, s19, s20, s21, s22, s23, s24, s25, s26, s27, s28, s29, .val (.ref o30), s31, s32, s33, s34, s35, s36, s37, s38, s39] [])) target := by
  obtain ⟨cq7, kq7, q7a, q7b, q7c⟩ := isOf hZ e0 HP.1
  obtain ⟨_, _, ⟨T7, L7, k7, n7⟩, -, X7, ⟨Lc7, hQ7, l7, y7, z7⟩, st7⟩ := X0.virtualBack hx (y := (⟨"com/example/bandmark/bandmark/PlainDecimal", "read", "(Ljava/lang/String;II)Z"⟩ : MethodName)) (z := (⟨"com/example/bandmark/bandmark/PlainDecimal", "read", "(Ljava/lang/String;II)Z"⟩ : MethodName)) hown (mvT hZ (own_W hw 64 rfl)) (mvT hZ (own_W hw 65 rfl)) (notFace_of_selects (args := #[]) (mvT hZ (own_W hw 67 rfl))) (mvT hZ (own_W hw 67 rfl)) (mvT hZ (own_W hw 66 rfl)) (by decide) (backOf (W := 0) (r15 l Z a0 hw [] o30 o7 i8 i9 cs a b u q d h0 n0 Z0 h8 h9 hab hbc TX HP g30) hZ (own_W hw 68 rfl) (own_W hw 56 rfl) (by decide) (by decide)) q7a q7c (g := (mkF m 571 #[s0, s1, s2, s3, s4, s5, s6, .val (.ref o7), .val (.int i8), .val (.int i9), s10, s11, s12, s13, s14, s15, s16, s17, s18, s19, s20, s21, s22, s23, s24, s25, s26, s27, s28, s29, .val (.ref o30), s31, s32, s33, s34, s35, s36, s37, s38, s39] [(.int i9), (.int i8), (.ref o7), (.ref o30)])) rfl (by rw [hml]; rfl) (Steps.refl _) (argsL := [(.ref o7), (.int i8), (.int i9)]) (rest := []) (lenOf pd_0_11 rfl) rfl (by show 2 * 0 + _ ≤ _; exact Nat.le_of_eq rfl) (hb hby at_571) (fun _ _ => ⟨rfl, e0, hcl, hsl⟩)
  dsimp only [Pt.U, Pt.locs, Pt.cells, Pt.slots] at X7 l7 y7 z7 st7 hQ7
  subst l7 y7 z7
  obtain ⟨rfl, N7q, K7, P7⟩ := hQ7
  have N7 := Fr.app N0 N7q
  refine ⟨T7, _, X7, N7, K7, P7, fun target kt => ?_⟩
  refine XS.aload X0.here hx rfl (hb hby at_563) rfl rfl ?_
  refine XS.aload X0.here hx rfl (hb hby at_565) rfl rfl ?_
  refine XS.iload X0.here hx rfl (hb hby at_567) rfl ?_
  refine XS.iload X0.here hx rfl (hb hby at_569) rfl ?_
  refine st7.trans ?_
  refine XS.istore X7.here hx rfl (hb hby at_574) rfl (l' := #[s0, s1, s2, s3, s4, s5, s6, .val (.ref o7), .val (.int i8), .val (.int i9), s10, s11, s12, s13, s14, s15, s16, s17, s18, s19, s20, s21, s22, s23, s24, s25, s26, s27, s28, s29, .val (.ref o30), s31, .val (.int (own_r (own_read (fun j => cs.getD j 0) a b))), s33, s34, s35, s36, s37, s38, s39]) (os0_574_own_G2 hs32) ?_
  exact kt
theorem pd_0_16 : parseMethodDescriptor "()J" = some ⟨[], some .long⟩ := by decide +kernel
set_option maxRecDepth 65536 in
set_option maxHeartbeats 40000000 in
theorem own_G3 {p : Program} {l : Launch} {e : Env} {s : State} {m : MethodId} {args : Array Value} {below : List Frame} {meth : Method} {c : Code} {T0 : State} {locs : List Loc} {cells slots : Nat} {Z : State} {a0 : Array Value} {h0 : Heap} (s0 : Slot) (s1 : Slot) (s2 : Slot) (s3 : Slot) (s4 : Slot) (s5 : Slot) (s6 : Slot) (s7 : Slot) (s8 : Slot) (s9 : Slot) (s10 : Slot) (s11 : Slot) (s12 : Slot) (s13 : Slot) (s14 : Slot) (s15 : Slot) (s16 : Slot) (s17 : Slot) (s18 : Slot) (s19 : Slot) (s20 : Slot) (s21 : Slot) (s22 : Slot) (s23 : Slot) (s24 : Slot) (s25 : Slot) (s26 : Slot) (s27 : Slot) (s28 : Slot) (s29 : Slot) (o30 : Addr) (s31 : Slot) (s32 : Slot) (s35 : Slot) (s36 : Slot) (s37 : Slot) (s38 : Slot) (s39 : Slot) (u : Int64) (q d : Int32) (n0 : Nat)
    (X0 : Stand p l e room_1 s m args below meth c T0 locs cells slots) (hx : p.tables.exec = Jvm.exec) (hZ : Z.Warmed39 s.vm) (hw : ∀ d ∈ tables_1, d.before a0 Z = true) (hby : c.code = code) (hml : c.maxLocals = 40) (hown : s.vm.findClass "com/example/bandmark/bandmark/PlainDecimalReadPinLaw" = some m.cls) (e0 : T0.heap = h0) (HP : own_PD Z h0 o30 u q d) (hd18 : ¬ (18 : Int32) < d) (Z0 : n0 ≤ h0.size) (N0 : Fr n0 locs) (hcl : cells ≤ room_1.cells) (hsl : slots ≤ room_1.slots) :
    ∃ (T' : State) (locs' : List Loc), Stand p l e room_1 s m args below meth c T' locs' cells slots ∧ Fr n0 locs' ∧ T'.heap = h0 ∧
      ∀ target, Steps p.tables e below (T'.setTop (mkF m 583 #[s0, s1, s2, s3, s4, s5, s6, s7, s8, s9, s10, s11, s12, s13, s14, s15, s16, s17, s18, s19, s20, s21, s22, s23, s24, s25, s26, s27, s28, s29, .val (.ref o30), s31, s32, .val (.long u), .second, s35, s36, s37, s38, s39] [])) target → Steps p.tables e below (T0.setTop (mkF m 576 #[s0, s1, s2, s3, s4, s5, s6, s7, s8, s9, s10, s11, s12, s13, s14, s15, s16, s17, s18, s19, s20, s21, s22, s23, s24, s25, s26, s27, s28, s29, .val (.ref o30), s31, s32, .unset, .unset, s35, s36, s37, s38, s39] [])) target := by
  obtain ⟨cq7, kq7, q7a, q7b, q7c⟩ := isOf hZ e0 HP.1
  obtain ⟨_, _, ⟨T7, L7, k7, n7⟩, -, X7, ⟨Lc7, hQ7, l7, y7, z7⟩, st7⟩ := X0.virtualBack hx (y := (⟨"com/example/bandmark/bandmark/PlainDecimal", "unscaled", "()J"⟩ : MethodName)) (z := (⟨"com/example/bandmark/bandmark/PlainDecimal", "unscaled", "()J"⟩ : MethodName)) hown (mvT hZ (own_W hw 104 rfl)) (mvT hZ (own_W hw 105 rfl)) (notFace_of_selects (args := #[]) (mvT hZ (own_W hw 107 rfl))) (mvT hZ (own_W hw 107 rfl)) (mvT hZ (own_W hw 106 rfl)) (by decide) (backOf (W := 0) (r21 l Z a0 hw [] o30 u h0 n0 Z0 HP.2.2.2.2.1) hZ (own_W hw 108 rfl) (own_W hw 56 rfl) (by decide) (by decide)) q7a q7c (g := (mkF m 578 #[s0, s1, s2, s3, s4, s5, s6, s7, s8, s9, s10, s11, s12, s13, s14, s15, s16, s17, s18, s19, s20, s21, s22, s23, s24, s25, s26, s27, s28, s29, .val (.ref o30), s31, s32, .unset, .unset, s35, s36, s37, s38, s39] [(.ref o30)])) rfl (by rw [hml]; rfl) (Steps.refl _) (argsL := []) (rest := []) (lenOf pd_0_16 rfl) rfl (by show 2 * 0 + _ ≤ _; exact Nat.le_of_eq rfl) (hb hby at_578) (fun _ _ => ⟨rfl, e0, hcl, hsl⟩)
  dsimp only [Pt.U, Pt.locs, Pt.cells, Pt.slots] at X7 l7 y7 z7 st7 hQ7
  subst l7 y7 z7
  obtain ⟨rfl, N7q, e7⟩ := hQ7
  have N7 := Fr.app N0 N7q
  refine ⟨T7, _, X7, N7, e7, fun target kt => ?_⟩
  refine XS.aload X0.here hx rfl (hb hby at_576) rfl rfl ?_
  refine st7.trans ?_
  refine XS.lstore X7.here hx rfl (hb hby at_581) rfl (l' := #[s0, s1, s2, s3, s4, s5, s6, s7, s8, s9, s10, s11, s12, s13, s14, s15, s16, s17, s18, s19, s20, s21, s22, s23, s24, s25, s26, s27, s28, s29, .val (.ref o30), s31, s32, .val (.long u), .second, s35, s36, s37, s38, s39]) rfl ?_
  exact kt
theorem pd_0_17 : parseMethodDescriptor "()I" = some ⟨[], some .int⟩ := by decide +kernel
theorem os0_588_own_G4 {s0 : Slot} {s1 : Slot} {s2 : Slot} {s3 : Slot} {s4 : Slot} {s5 : Slot} {s6 : Slot} {s7 : Slot} {s8 : Slot} {s9 : Slot} {s10 : Slot} {s11 : Slot} {s12 : Slot} {s13 : Slot} {s14 : Slot} {s15 : Slot} {s16 : Slot} {s17 : Slot} {s18 : Slot} {s19 : Slot} {s20 : Slot} {s21 : Slot} {s22 : Slot} {s23 : Slot} {s24 : Slot} {s25 : Slot} {s26 : Slot} {s27 : Slot} {s28 : Slot} {s29 : Slot} {z30 : Value} {s31 : Slot} {s32 : Slot} {s33 : Slot} {s34 : Slot} {s35 : Slot} {s36 : Slot} {s37 : Slot} {s38 : Slot} {s39 : Slot} {v : Int32} (h : One s35) : storeLocals #[s0, s1, s2, s3, s4, s5, s6, s7, s8, s9, s10, s11, s12, s13, s14, s15, s16, s17, s18, s19, s20, s21, s22, s23, s24, s25, s26, s27, s28, s29, .val z30, s31, s32, s33, s34, s35, s36, s37, s38, s39] 35 (.int v) = some #[s0, s1, s2, s3, s4, s5, s6, s7, s8, s9, s10, s11, s12, s13, s14, s15, s16, s17, s18, s19, s20, s21, s22, s23, s24, s25, s26, s27, s28, s29, .val z30, s31, s32, s33, s34, .val (.int v), s36, s37, s38, s39] := by
  rcases h with rfl | ⟨w, rfl, hw⟩
  · rfl
  · cases w <;> first | rfl | (simp [Value.category] at hw)
set_option maxRecDepth 65536 in
set_option maxHeartbeats 40000000 in
theorem own_G4 {p : Program} {l : Launch} {e : Env} {s : State} {m : MethodId} {args : Array Value} {below : List Frame} {meth : Method} {c : Code} {T0 : State} {locs : List Loc} {cells slots : Nat} {Z : State} {a0 : Array Value} {h0 : Heap} (s0 : Slot) (s1 : Slot) (s2 : Slot) (s3 : Slot) (s4 : Slot) (s5 : Slot) (s6 : Slot) (s7 : Slot) (s8 : Slot) (s9 : Slot) (s10 : Slot) (s11 : Slot) (s12 : Slot) (s13 : Slot) (s14 : Slot) (s15 : Slot) (s16 : Slot) (s17 : Slot) (s18 : Slot) (s19 : Slot) (s20 : Slot) (s21 : Slot) (s22 : Slot) (s23 : Slot) (s24 : Slot) (s25 : Slot) (s26 : Slot) (s27 : Slot) (s28 : Slot) (s29 : Slot) (o30 : Addr) (s31 : Slot) (s32 : Slot) (s33 : Slot) (s34 : Slot) (s35 : Slot) (s36 : Slot) (s37 : Slot) (s38 : Slot) (s39 : Slot) (u : Int64) (q d : Int32) (n0 : Nat)
    (X0 : Stand p l e room_1 s m args below meth c T0 locs cells slots) (hx : p.tables.exec = Jvm.exec) (hZ : Z.Warmed39 s.vm) (hw : ∀ d ∈ tables_1, d.before a0 Z = true) (hby : c.code = code) (hml : c.maxLocals = 40) (hown : s.vm.findClass "com/example/bandmark/bandmark/PlainDecimalReadPinLaw" = some m.cls) (e0 : T0.heap = h0) (HP : own_PD Z h0 o30 u q d) (hd18 : ¬ (18 : Int32) < d) (Z0 : n0 ≤ h0.size) (N0 : Fr n0 locs) (hcl : cells ≤ room_1.cells) (hsl : slots ≤ room_1.slots) (hs35 : One s35) :
    ∃ (T' : State) (locs' : List Loc), Stand p l e room_1 s m args below meth c T' locs' cells slots ∧ Fr n0 locs' ∧ T'.heap = h0 ∧
      ∀ target, Steps p.tables e below (T'.setTop (mkF m 590 #[s0, s1, s2, s3, s4, s5, s6, s7, s8, s9, s10, s11, s12, s13, s14, s15, s16, s17, s18, s19, s20, s21, s22, s23, s24, s25, s26, s27, s28, s29, .val (.ref o30), s31, s32, s33, s34, .val (.int q), s36, s37, s38, s39] [])) target → Steps p.tables e below (T0.setTop (mkF m 583 #[s0, s1, s2, s3, s4, s5, s6, s7, s8, s9, s10, s11, s12, s13, s14, s15, s16, s17, s18, s19, s20, s21, s22, s23, s24, s25, s26, s27, s28, s29, .val (.ref o30), s31, s32, s33, s34, s35, s36, s37, s38, s39] [])) target := by
  obtain ⟨cq7, kq7, q7a, q7b, q7c⟩ := isOf hZ e0 HP.1
  obtain ⟨_, _, ⟨T7, L7, k7, n7⟩, -, X7, ⟨Lc7, hQ7, l7, y7, z7⟩, st7⟩ := X0.virtualBack hx (y := (⟨"com/example/bandmark/bandmark/PlainDecimal", "scale", "()I"⟩ : MethodName)) (z := (⟨"com/example/bandmark/bandmark/PlainDecimal", "scale", "()I"⟩ : MethodName)) hown (mvT hZ (own_W hw 109 rfl)) (mvT hZ (own_W hw 110 rfl)) (notFace_of_selects (args := #[]) (mvT hZ (own_W hw 112 rfl))) (mvT hZ (own_W hw 112 rfl)) (mvT hZ (own_W hw 111 rfl)) (by decide) (backOf (W := 0) (r22 l Z a0 hw [] o30 q h0 n0 Z0 HP.2.2.2.2.2.1) hZ (own_W hw 113 rfl) (own_W hw 56 rfl) (by decide) (by decide)) q7a q7c (g := (mkF m 585 #[s0, s1, s2, s3, s4, s5, s6, s7, s8, s9, s10, s11, s12, s13, s14, s15, s16, s17, s18, s19, s20, s21, s22, s23, s24, s25, s26, s27, s28, s29, .val (.ref o30), s31, s32, s33, s34, s35, s36, s37, s38, s39] [(.ref o30)])) rfl (by rw [hml]; rfl) (Steps.refl _) (argsL := []) (rest := []) (lenOf pd_0_17 rfl) rfl (by show 2 * 0 + _ ≤ _; exact Nat.le_of_eq rfl) (hb hby at_585) (fun _ _ => ⟨rfl, e0, hcl, hsl⟩)
  dsimp only [Pt.U, Pt.locs, Pt.cells, Pt.slots] at X7 l7 y7 z7 st7 hQ7
  subst l7 y7 z7
  obtain ⟨rfl, N7q, e7⟩ := hQ7
  have N7 := Fr.app N0 N7q
  refine ⟨T7, _, X7, N7, e7, fun target kt => ?_⟩
  refine XS.aload X0.here hx rfl (hb hby at_583) rfl rfl ?_
  refine st7.trans ?_
  refine XS.istore X7.here hx rfl (hb hby at_588) rfl (l' := #[s0, s1, s2, s3, s4, s5, s6, s7, s8, s9, s10, s11, s12, s13, s14, s15, s16, s17, s18, s19, s20, s21, s22, s23, s24, s25, s26, s27, s28, s29, .val (.ref o30), s31, s32, s33, s34, .val (.int q), s36, s37, s38, s39]) (os0_588_own_G4 hs35) ?_
  exact kt
theorem pd_0_12 : parseMethodDescriptor "()Z" = some ⟨[], some .boolean⟩ := by decide +kernel
theorem os0_595_own_G5 {s0 : Slot} {s1 : Slot} {s2 : Slot} {s3 : Slot} {s4 : Slot} {s5 : Slot} {s6 : Slot} {s7 : Slot} {s8 : Slot} {s9 : Slot} {s10 : Slot} {s11 : Slot} {s12 : Slot} {s13 : Slot} {s14 : Slot} {s15 : Slot} {s16 : Slot} {s17 : Slot} {s18 : Slot} {s19 : Slot} {s20 : Slot} {s21 : Slot} {s22 : Slot} {s23 : Slot} {s24 : Slot} {s25 : Slot} {s26 : Slot} {s27 : Slot} {s28 : Slot} {s29 : Slot} {z30 : Value} {s31 : Slot} {s32 : Slot} {s33 : Slot} {s34 : Slot} {s35 : Slot} {s36 : Slot} {s37 : Slot} {s38 : Slot} {s39 : Slot} {v : Int32} (h : One s36) : storeLocals #[s0, s1, s2, s3, s4, s5, s6, s7, s8, s9, s10, s11, s12, s13, s14, s15, s16, s17, s18, s19, s20, s21, s22, s23, s24, s25, s26, s27, s28, s29, .val z30, s31, s32, s33, s34, s35, s36, s37, s38, s39] 36 (.int v) = some #[s0, s1, s2, s3, s4, s5, s6, s7, s8, s9, s10, s11, s12, s13, s14, s15, s16, s17, s18, s19, s20, s21, s22, s23, s24, s25, s26, s27, s28, s29, .val z30, s31, s32, s33, s34, s35, .val (.int v), s37, s38, s39] := by
  rcases h with rfl | ⟨w, rfl, hw⟩
  · rfl
  · cases w <;> first | rfl | (simp [Value.category] at hw)
set_option maxRecDepth 65536 in
set_option maxHeartbeats 40000000 in
theorem own_G5 {p : Program} {l : Launch} {e : Env} {s : State} {m : MethodId} {args : Array Value} {below : List Frame} {meth : Method} {c : Code} {T0 : State} {locs : List Loc} {cells slots : Nat} {Z : State} {a0 : Array Value} {h0 : Heap} (s0 : Slot) (s1 : Slot) (s2 : Slot) (s3 : Slot) (s4 : Slot) (s5 : Slot) (s6 : Slot) (s7 : Slot) (s8 : Slot) (s9 : Slot) (s10 : Slot) (s11 : Slot) (s12 : Slot) (s13 : Slot) (s14 : Slot) (s15 : Slot) (s16 : Slot) (s17 : Slot) (s18 : Slot) (s19 : Slot) (s20 : Slot) (s21 : Slot) (s22 : Slot) (s23 : Slot) (s24 : Slot) (s25 : Slot) (s26 : Slot) (s27 : Slot) (s28 : Slot) (s29 : Slot) (o30 : Addr) (s31 : Slot) (s32 : Slot) (s33 : Slot) (s34 : Slot) (s35 : Slot) (s36 : Slot) (s37 : Slot) (s38 : Slot) (s39 : Slot) (u : Int64) (q d : Int32) (n0 : Nat)
    (X0 : Stand p l e room_1 s m args below meth c T0 locs cells slots) (hx : p.tables.exec = Jvm.exec) (hZ : Z.Warmed39 s.vm) (hw : ∀ d ∈ tables_1, d.before a0 Z = true) (hby : c.code = code) (hml : c.maxLocals = 40) (hown : s.vm.findClass "com/example/bandmark/bandmark/PlainDecimalReadPinLaw" = some m.cls) (e0 : T0.heap = h0) (HP : own_PD Z h0 o30 u q d) (hd18 : ¬ (18 : Int32) < d) (Z0 : n0 ≤ h0.size) (N0 : Fr n0 locs) (hcl : cells ≤ room_1.cells) (hsl : slots ≤ room_1.slots) (hs36 : One s36) :
    ∃ (T' : State) (locs' : List Loc), Stand p l e room_1 s m args below meth c T' locs' cells slots ∧ Fr n0 locs' ∧ T'.heap = h0 ∧
      ∀ target, Steps p.tables e below (T'.setTop (mkF m 597 #[s0, s1, s2, s3, s4, s5, s6, s7, s8, s9, s10, s11, s12, s13, s14, s15, s16, s17, s18, s19, s20, s21, s22, s23, s24, s25, s26, s27, s28, s29, .val (.ref o30), s31, s32, s33, s34, s35, .val (.int (own_ng u)), s37, s38, s39] [])) target → Steps p.tables e below (T0.setTop (mkF m 590 #[s0, s1, s2, s3, s4, s5, s6, s7, s8, s9, s10, s11, s12, s13, s14, s15, s16, s17, s18, s19, s20, s21, s22, s23, s24, s25, s26, s27, s28, s29, .val (.ref o30), s31, s32, s33, s34, s35, s36, s37, s38, s39] [])) target := by
  obtain ⟨cq7, kq7, q7a, q7b, q7c⟩ := isOf hZ e0 HP.1
  obtain ⟨_, _, ⟨T7, L7, k7, n7⟩, -, X7, ⟨Lc7, hQ7, l7, y7, z7⟩, st7⟩ := X0.virtualBack hx (y := (⟨"com/example/bandmark/bandmark/PlainDecimal", "isNegative", "()Z"⟩ : MethodName)) (z := (⟨"com/example/bandmark/bandmark/PlainDecimal", "isNegative", "()Z"⟩ : MethodName)) hown (mvT hZ (own_W hw 114 rfl)) (mvT hZ (own_W hw 115 rfl)) (notFace_of_selects (args := #[]) (mvT hZ (own_W hw 117 rfl))) (mvT hZ (own_W hw 117 rfl)) (mvT hZ (own_W hw 116 rfl)) (by decide) (backOf (W := 0) (r23 l Z a0 hw [] o30 u d h0 n0 Z0 HP.1 HP.2.2.2.2.1 HP.2.2.2.2.2.2 hd18) hZ (own_W hw 118 rfl) (own_W hw 56 rfl) (by decide) (by decide)) q7a q7c (g := (mkF m 592 #[s0, s1, s2, s3, s4, s5, s6, s7, s8, s9, s10, s11, s12, s13, s14, s15, s16, s17, s18, s19, s20, s21, s22, s23, s24, s25, s26, s27, s28, s29, .val (.ref o30), s31, s32, s33, s34, s35, s36, s37, s38, s39] [(.ref o30)])) rfl (by rw [hml]; rfl) (Steps.refl _) (argsL := []) (rest := []) (lenOf pd_0_12 rfl) rfl (by show 2 * 0 + _ ≤ _; exact Nat.le_of_eq rfl) (hb hby at_592) (fun _ _ => ⟨rfl, e0, hcl, hsl⟩)
  dsimp only [Pt.U, Pt.locs, Pt.cells, Pt.slots] at X7 l7 y7 z7 st7 hQ7
  subst l7 y7 z7
  obtain ⟨rfl, N7q, e7⟩ := hQ7
  have N7 := Fr.app N0 N7q
  refine ⟨T7, _, X7, N7, e7, fun target kt => ?_⟩
  refine XS.aload X0.here hx rfl (hb hby at_590) rfl rfl ?_
  refine st7.trans ?_
  refine XS.istore X7.here hx rfl (hb hby at_595) rfl (l' := #[s0, s1, s2, s3, s4, s5, s6, s7, s8, s9, s10, s11, s12, s13, s14, s15, s16, s17, s18, s19, s20, s21, s22, s23, s24, s25, s26, s27, s28, s29, .val (.ref o30), s31, s32, s33, s34, s35, .val (.int (own_ng u)), s37, s38, s39]) (os0_595_own_G5 hs36) ?_
  exact kt
theorem os0_602_own_G6 {s0 : Slot} {s1 : Slot} {s2 : Slot} {s3 : Slot} {s4 : Slot} {s5 : Slot} {s6 : Slot} {s7 : Slot} {s8 : Slot} {s9 : Slot} {s10 : Slot} {s11 : Slot} {s12 : Slot} {s13 : Slot} {s14 : Slot} {s15 : Slot} {s16 : Slot} {s17 : Slot} {s18 : Slot} {s19 : Slot} {s20 : Slot} {s21 : Slot} {s22 : Slot} {s23 : Slot} {s24 : Slot} {s25 : Slot} {s26 : Slot} {s27 : Slot} {s28 : Slot} {s29 : Slot} {z30 : Value} {s31 : Slot} {s32 : Slot} {s33 : Slot} {s34 : Slot} {s35 : Slot} {s36 : Slot} {s37 : Slot} {s38 : Slot} {s39 : Slot} {v : Int32} (h : One s37) : storeLocals #[s0, s1, s2, s3, s4, s5, s6, s7, s8, s9, s10, s11, s12, s13, s14, s15, s16, s17, s18, s19, s20, s21, s22, s23, s24, s25, s26, s27, s28, s29, .val z30, s31, s32, s33, s34, s35, s36, s37, s38, s39] 37 (.int v) = some #[s0, s1, s2, s3, s4, s5, s6, s7, s8, s9, s10, s11, s12, s13, s14, s15, s16, s17, s18, s19, s20, s21, s22, s23, s24, s25, s26, s27, s28, s29, .val z30, s31, s32, s33, s34, s35, s36, .val (.int v), s38, s39] := by
  rcases h with rfl | ⟨w, rfl, hw⟩
  · rfl
  · cases w <;> first | rfl | (simp [Value.category] at hw)
set_option maxRecDepth 65536 in
set_option maxHeartbeats 40000000 in
theorem own_G6 {p : Program} {l : Launch} {e : Env} {s : State} {m : MethodId} {args : Array Value} {below : List Frame} {meth : Method} {c : Code} {T0 : State} {locs : List Loc} {cells slots : Nat} {Z : State} {a0 : Array Value} {h0 : Heap} (s0 : Slot) (s1 : Slot) (s2 : Slot) (s3 : Slot) (s4 : Slot) (s5 : Slot) (s6 : Slot) (s7 : Slot) (s8 : Slot) (s9 : Slot) (s10 : Slot) (s11 : Slot) (s12 : Slot) (s13 : Slot) (s14 : Slot) (s15 : Slot) (s16 : Slot) (s17 : Slot) (s18 : Slot) (s19 : Slot) (s20 : Slot) (s21 : Slot) (s22 : Slot) (s23 : Slot) (s24 : Slot) (s25 : Slot) (s26 : Slot) (s27 : Slot) (s28 : Slot) (s29 : Slot) (o30 : Addr) (s31 : Slot) (s32 : Slot) (s33 : Slot) (s34 : Slot) (s35 : Slot) (s36 : Slot) (s37 : Slot) (s38 : Slot) (s39 : Slot) (u : Int64) (q d : Int32) (n0 : Nat)
    (X0 : Stand p l e room_1 s m args below meth c T0 locs cells slots) (hx : p.tables.exec = Jvm.exec) (hZ : Z.Warmed39 s.vm) (hw : ∀ d ∈ tables_1, d.before a0 Z = true) (hby : c.code = code) (hml : c.maxLocals = 40) (hown : s.vm.findClass "com/example/bandmark/bandmark/PlainDecimalReadPinLaw" = some m.cls) (e0 : T0.heap = h0) (HP : own_PD Z h0 o30 u q d) (hd18 : ¬ (18 : Int32) < d) (Z0 : n0 ≤ h0.size) (N0 : Fr n0 locs) (hcl : cells ≤ room_1.cells) (hsl : slots ≤ room_1.slots) (hs37 : One s37) :
    ∃ (T' : State) (locs' : List Loc), Stand p l e room_1 s m args below meth c T' locs' cells slots ∧ Fr n0 locs' ∧ T'.heap = h0 ∧
      ∀ target, Steps p.tables e below (T'.setTop (mkF m 604 #[s0, s1, s2, s3, s4, s5, s6, s7, s8, s9, s10, s11, s12, s13, s14, s15, s16, s17, s18, s19, s20, s21, s22, s23, s24, s25, s26, s27, s28, s29, .val (.ref o30), s31, s32, s33, s34, s35, s36, .val (.int 1), s38, s39] [])) target → Steps p.tables e below (T0.setTop (mkF m 597 #[s0, s1, s2, s3, s4, s5, s6, s7, s8, s9, s10, s11, s12, s13, s14, s15, s16, s17, s18, s19, s20, s21, s22, s23, s24, s25, s26, s27, s28, s29, .val (.ref o30), s31, s32, s33, s34, s35, s36, s37, s38, s39] [])) target := by
  obtain ⟨cq7, kq7, q7a, q7b, q7c⟩ := isOf hZ e0 HP.1
  obtain ⟨_, _, ⟨T7, L7, k7, n7⟩, -, X7, ⟨Lc7, hQ7, l7, y7, z7⟩, st7⟩ := X0.virtualBack hx (y := (⟨"com/example/bandmark/bandmark/PlainDecimal", "isCompact", "()Z"⟩ : MethodName)) (z := (⟨"com/example/bandmark/bandmark/PlainDecimal", "isCompact", "()Z"⟩ : MethodName)) hown (mvT hZ (own_W hw 124 rfl)) (mvT hZ (own_W hw 120 rfl)) (notFace_of_selects (args := #[]) (mvT hZ (own_W hw 122 rfl))) (mvT hZ (own_W hw 122 rfl)) (mvT hZ (own_W hw 121 rfl)) (by decide) (backOf (W := 0) (r24 l Z a0 hw [] o30 d h0 n0 Z0 HP.2.2.2.2.2.2 hd18) hZ (own_W hw 123 rfl) (own_W hw 56 rfl) (by decide) (by decide)) q7a q7c (g := (mkF m 599 #[s0, s1, s2, s3, s4, s5, s6, s7, s8, s9, s10, s11, s12, s13, s14, s15, s16, s17, s18, s19, s20, s21, s22, s23, s24, s25, s26, s27, s28, s29, .val (.ref o30), s31, s32, s33, s34, s35, s36, s37, s38, s39] [(.ref o30)])) rfl (by rw [hml]; rfl) (Steps.refl _) (argsL := []) (rest := []) (lenOf pd_0_12 rfl) rfl (by show 2 * 0 + _ ≤ _; exact Nat.le_of_eq rfl) (hb hby at_599) (fun _ _ => ⟨rfl, e0, hcl, hsl⟩)
  dsimp only [Pt.U, Pt.locs, Pt.cells, Pt.slots] at X7 l7 y7 z7 st7 hQ7
  subst l7 y7 z7
  obtain ⟨rfl, N7q, e7⟩ := hQ7
  have N7 := Fr.app N0 N7q
  refine ⟨T7, _, X7, N7, e7, fun target kt => ?_⟩
  refine XS.aload X0.here hx rfl (hb hby at_597) rfl rfl ?_
  refine st7.trans ?_
  refine XS.istore X7.here hx rfl (hb hby at_602) rfl (l' := #[s0, s1, s2, s3, s4, s5, s6, s7, s8, s9, s10, s11, s12, s13, s14, s15, s16, s17, s18, s19, s20, s21, s22, s23, s24, s25, s26, s27, s28, s29, .val (.ref o30), s31, s32, s33, s34, s35, s36, .val (.int 1), s38, s39]) (os0_602_own_G6 hs37) ?_
  exact kt
set_option maxRecDepth 65536 in
set_option maxHeartbeats 40000000 in
theorem own_F1 {p : Program} {l : Launch} {e : Env} {s : State} {m : MethodId} {args : Array Value} {below : List Frame} {meth : Method} {c : Code} {T0 : State} {locs : List Loc} {cells slots : Nat} {Z : State} {a0 : Array Value} {h0 : Heap} (s0 : Slot) (s1 : Slot) (s2 : Slot) (s3 : Slot) (s4 : Slot) (s5 : Slot) (s6 : Slot) (s7 : Slot) (s8 : Slot) (s9 : Slot) (s10 : Slot) (s11 : Slot) (s12 : Slot) (s13 : Slot) (s14 : Slot) (s15 : Slot) (s16 : Slot) (s17 : Slot) (s18 : Slot) (s19 : Slot) (s20 : Slot) (s21 : Slot) (s22 : Slot) (s23 : Slot) (s24 : Slot) (s25 : Slot) (s26 : Slot) (s27 : Slot) (s28 : Slot) (i29 : Int32) (s30 : Slot) (i31 : Int32) (s32 : Slot) (s33 : Slot) (s34 : Slot) (s35 : Slot) (s36 : Slot) (i37 : Int32) (s38 : Slot) (s39 : Slot)
    (X0 : Stand p l e room_1 s m args below meth c T0 locs cells slots) (hx : p.tables.exec = Jvm.exec) (hZ : Z.Warmed39 s.vm) (hw : ∀ d ∈ tables_1, d.before a0 Z = true) (hby : c.code = code) (hml : c.maxLocals = 40) (hown : s.vm.findClass "com/example/bandmark/bandmark/PlainDecimalReadPinLaw" = some m.cls) (e0 : T0.heap = h0) (hc606 : ¬ (i31 = (0 : Int32))) (hc611 : ¬ (i37 = (0 : Int32))) (hc618 : ¬ (i29 = (0 : Int32))) :
    ∃ (T' : State), Stand p l e room_1 s m args below meth c T' locs cells slots ∧ T'.heap = h0 ∧
      ∀ target, Steps p.tables e below (T'.setTop (mkF m 621 #[s0, s1, s2, s3, s4, s5, s6, s7, s8, s9, s10, s11, s12, s13, s14, s15, s16, s17, s18, s19, s20, s21, s22, s23, s24, s25, s26, s27, s28, .val (.int i29), s30, .val (.int i31), s32, s33, s34, s35, s36, .val (.int i37), s38, s39] [])) target → Steps p.tables e below (T0.setTop (mkF m 604 #[s0, s1, s2, s3, s4, s5, s6, s7, s8, s9, s10, s11, s12, s13, s14, s15, s16, s17, s18, s19, s20, s21, s22, s23, s24, s25, s26, s27, s28, .val (.int i29), s30, .val (.int i31), s32, s33, s34, s35, s36, .val (.int i37), s38, s39] [])) target := by
  refine ⟨T0, X0, e0, fun target kt => ?_⟩
  refine XS.iload X0.here hx rfl (hb hby at_604) rfl ?_
  refine XS.ifNo X0.here hx rfl (hb hby at_606) rfl ((if0 _ _).trans (feq hc606).1) ?_
  refine XS.iload X0.here hx rfl (hb hby at_609) rfl ?_
  refine XS.ifYes X0.here hx rfl (pc0 := 611) (pc' := 616) rfl (hb hby at_611) rfl ((if0 _ _).trans (feq hc611).2) (by decide) (by decide) ?_
  refine XS.iload X0.here hx rfl (hb hby at_616) rfl ?_
  refine XS.ifNo X0.here hx rfl (hb hby at_618) rfl ((if0 _ _).trans (feq hc618).1) ?_
  exact kt
set_option maxRecDepth 65536 in
set_option maxHeartbeats 40000000 in
theorem own_F0 {p : Program} {l : Launch} {e : Env} {s : State} {m : MethodId} {args : Array Value} {below : List Frame} {meth : Method} {c : Code} {T0 : State} {locs : List Loc} {cells slots : Nat} {Z : State} {a0 : Array Value} {h0 : Heap} (s0 : Slot) (s1 : Slot) (s2 : Slot) (s3 : Slot) (s4 : Slot) (s5 : Slot) (s6 : Slot) (s7 : Slot) (s8 : Slot) (s9 : Slot) (s10 : Slot) (s11 : Slot) (s12 : Slot) (s13 : Slot) (s14 : Slot) (s15 : Slot) (s16 : Slot) (s17 : Slot) (s18 : Slot) (s19 : Slot) (s20 : Slot) (s21 : Slot) (s22 : Slot) (s23 : Slot) (s24 : Slot) (s25 : Slot) (s26 : Slot) (s27 : Slot) (s28 : Slot) (i29 : Int32) (s30 : Slot) (i31 : Int32) (s32 : Slot) (s33 : Slot) (s34 : Slot) (s35 : Slot) (s36 : Slot) (i37 : Int32) (s38 : Slot) (s39 : Slot)
    (X0 : Stand p l e room_1 s m args below meth c T0 locs cells slots) (hx : p.tables.exec = Jvm.exec) (hZ : Z.Warmed39 s.vm) (hw : ∀ d ∈ tables_1, d.before a0 Z = true) (hby : c.code = code) (hml : c.maxLocals = 40) (hown : s.vm.findClass "com/example/bandmark/bandmark/PlainDecimalReadPinLaw" = some m.cls) (e0 : T0.heap = h0) (hc606 : ¬ (i31 = (0 : Int32))) (hc611 : ¬ (i37 = (0 : Int32))) (hc618 : i29 = (0 : Int32)) :
    ∃ (T' : State), Stand p l e room_1 s m args below meth c T' locs cells slots ∧ T'.heap = h0 ∧
      ∀ target, Steps p.tables e below (T'.setTop (mkF m 684 #[s0, s1, s2, s3, s4, s5, s6, s7, s8, s9, s10, s11, s12, s13, s14, s15, s16, s17, s18, s19, s20, s21, s22, s23, s24, s25, s26, s27, s28, .val (.int i29), s30, .val (.int i31), s32, s33, s34, s35, s36, .val (.int i37), s38, s39] [])) target → Steps p.tables e below (T0.setTop (mkF m 604 #[s0, s1, s2, s3, s4, s5, s6, s7, s8, s9, s10, s11, s12, s13, s14, s15, s16, s17, s18, s19, s20, s21, s22, s23, s24, s25, s26, s27, s28, .val (.int i29), s30, .val (.int i31), s32, s33, s34, s35, s36, .val (.int i37), s38, s39] [])) target := by
  refine ⟨T0, X0, e0, fun target kt => ?_⟩
  refine XS.iload X0.here hx rfl (hb hby at_604) rfl ?_
  refine XS.ifNo X0.here hx rfl (hb hby at_606) rfl ((if0 _ _).trans (feq hc606).1) ?_
  refine XS.iload X0.here hx rfl (hb hby at_609) rfl ?_
  refine XS.ifYes X0.here hx rfl (pc0 := 611) (pc' := 616) rfl (hb hby at_611) rfl ((if0 _ _).trans (feq hc611).2) (by decide) (by decide) ?_
  refine XS.iload X0.here hx rfl (hb hby at_616) rfl ?_
  refine XS.ifYes X0.here hx rfl (pc0 := 618) (pc' := 684) rfl (hb hby at_618) rfl ((if0 _ _).trans (teq hc618).1) (by decide) (by decide) ?_
  exact kt
set_option maxRecDepth 65536 in
set_option maxHeartbeats 40000000 in
theorem own_Fn {p : Program} {l : Launch} {e : Env} {s : State} {m : MethodId} {args : Array Value} {below : List Frame} {meth : Method} {c : Code} {T0 : State} {locs : List Loc} {cells slots : Nat} {Z : State} {a0 : Array Value} {h0 : Heap} (s0 : Slot) (s1 : Slot) (s2 : Slot) (s3 : Slot) (s4 : Slot) (s5 : Slot) (s6 : Slot) (s7 : Slot) (s8 : Slot) (s9 : Slot) (i10 : Int32) (s11 : Slot) (s12 : Slot) (s13 : Slot) (s14 : Slot) (s15 : Slot) (s16 : Slot) (s17 : Slot) (s18 : Slot) (s19 : Slot) (s20 : Slot) (s21 : Slot) (s22 : Slot) (s23 : Slot) (s24 : Slot) (s25 : Slot) (j26 : Int64) (s28 : Slot) (s29 : Slot) (s30 : Slot) (s31 : Slot) (s32 : Slot) (s33 : Slot) (s34 : Slot) (s35 : Slot) (s36 : Slot) (s37 : Slot)
    (X0 : Stand p l e room_1 s m args below meth c T0 locs cells slots) (hx : p.tables.exec = Jvm.exec) (hZ : Z.Warmed39 s.vm) (hw : ∀ d ∈ tables_1, d.before a0 Z = true) (hby : c.code = code) (hml : c.maxLocals = 40) (hown : s.vm.findClass "com/example/bandmark/bandmark/PlainDecimalReadPinLaw" = some m.cls) (e0 : T0.heap = h0) (hc623 : ¬ (i10 = (0 : Int32))) :
    ∃ (T' : State), Stand p l e room_1 s m args below meth c T' locs cells slots ∧ T'.heap = h0 ∧
      ∀ target, Steps p.tables e below (T'.setTop (mkF m 636 #[s0, s1, s2, s3, s4, s5, s6, s7, s8, s9, .val (.int i10), s11, s12, s13, s14, s15, s16, s17, s18, s19, s20, s21, s22, s23, s24, s25, .val (.long j26), .second, s28, s29, s30, s31, s32, s33, s34, s35, s36, s37, .val (.long (-j26)), .second] [])) target → Steps p.tables e below (T0.setTop (mkF m 621 #[s0, s1, s2, s3, s4, s5, s6, s7, s8, s9, .val (.int i10), s11, s12, s13, s14, s15, s16, s17, s18, s19, s20, s21, s22, s23, s24, s25, .val (.long j26), .second, s28, s29, s30, s31, s32, s33, s34, s35, s36, s37, .unset, .unset] [])) target := by
  refine ⟨T0, X0, e0, fun target kt => ?_⟩
  refine XS.iload X0.here hx rfl (hb hby at_621) rfl ?_
  refine XS.ifNo X0.here hx rfl (hb hby at_623) rfl ((if0 _ _).trans (feq hc623).1) ?_
  refine XS.lload X0.here hx rfl (hb hby at_626) rfl ?_
  refine XS.lneg X0.here hx rfl (hb hby at_628) rfl ?_
  refine XS.goto X0.here hx rfl (pc0 := 629) (pc' := 634) rfl (hb hby at_629) (by decide) (by decide) ?_
  refine XS.lstore X0.here hx rfl (hb hby at_634) rfl (l' := #[s0, s1, s2, s3, s4, s5, s6, s7, s8, s9, .val (.int i10), s11, s12, s13, s14, s15, s16, s17, s18, s19, s20, s21, s22, s23, s24, s25, .val (.long j26), .second, s28, s29, s30, s31, s32, s33, s34, s35, s36, s37, .val (.long (-j26)), .second]) rfl ?_
  exact kt
set_option maxRecDepth 65536 in
set_option maxHeartbeats 40000000 in
theorem own_Fp {p : Program} {l : Launch} {e : Env} {s : State} {m : MethodId} {args : Array Value} {below : List Frame} {meth : Method} {c : Code} {T0 : State} {locs : List Loc} {cells slots : Nat} {Z : State} {a0 : Array Value} {h0 : Heap} (s0 : Slot) (s1 : Slot) (s2 : Slot) (s3 : Slot) (s4 : Slot) (s5 : Slot) (s6 : Slot) (s7 : Slot) (s8 : Slot) (s9 : Slot) (i10 : Int32) (s11 : Slot) (s12 : Slot) (s13 : Slot) (s14 : Slot) (s15 : Slot) (s16 : Slot) (s17 : Slot) (s18 : Slot) (s19 : Slot) (s20 : Slot) (s21 : Slot) (s22 : Slot) (s23 : Slot) (s24 : Slot) (s25 : Slot) (j26 : Int64) (s28 : Slot) (s29 : Slot) (s30 : Slot) (s31 : Slot) (s32 : Slot) (s33 : Slot) (s34 : Slot) (s35 : Slot) (s36 : Slot) (s37 : Slot)
    (X0 : Stand p l e room_1 s m args below meth c T0 locs cells slots) (hx : p.tables.exec = Jvm.exec) (hZ : Z.Warmed39 s.vm) (hw : ∀ d ∈ tables_1, d.before a0 Z = true) (hby : c.code = code) (hml : c.maxLocals = 40) (hown : s.vm.findClass "com/example/bandmark/bandmark/PlainDecimalReadPinLaw" = some m.cls) (e0 : T0.heap = h0) (hc623 : i10 = (0 : Int32)) :
    ∃ (T' : State), Stand p l e room_1 s m args below meth c T' locs cells slots ∧ T'.heap = h0 ∧
      ∀ target, Steps p.tables e below (T'.setTop (mkF m 636 #[s0, s1, s2, s3, s4, s5, s6, s7, s8, s9, .val (.int i10), s11, s12, s13, s14, s15, s16, s17, s18, s19, s20, s21, s22, s23, s24, s25, .val (.long j26), .second, s28, s29, s30, s31, s32, s33, s34, s35, s36, s37, .val (.long j26), .second] [])) target → Steps p.tables e below (T0.setTop (mkF m 621 #[s0, s1, s2, s3, s4, s5, s6, s7, s8, s9, .val (.int i10), s11, s12, s13, s14, s15, s16, s17, s18, s19, s20, s21, s22, s23, s24, s25, .val (.long j26), .second, s28, s29, s30, s31, s32, s33, s34, s35, s36, s37, .unset, .unset] [])) target := by
  refine ⟨T0, X0, e0, fun target kt => ?_⟩
  refine XS.iload X0.here hx rfl (hb hby at_621) rfl ?_
  refine XS.ifYes X0.here hx rfl (pc0 := 623) (pc' := 632) rfl (hb hby at_623) rfl ((if0 _ _).trans (teq hc623).1) (by decide) (by decide) ?_
  refine XS.lload X0.here hx rfl (hb hby at_632) rfl ?_
  refine XS.lstore X0.here hx rfl (hb hby at_634) rfl (l' := #[s0, s1, s2, s3, s4, s5, s6, s7, s8, s9, .val (.int i10), s11, s12, s13, s14, s15, s16, s17, s18, s19, s20, s21, s22, s23, s24, s25, .val (.long j26), .second, s28, s29, s30, s31, s32, s33, s34, s35, s36, s37, .val (.long j26), .second]) rfl ?_
  exact kt
set_option maxRecDepth 65536 in
set_option maxHeartbeats 40000000 in
theorem own_Fny {p : Program} {l : Launch} {e : Env} {s : State} {m : MethodId} {args : Array Value} {below : List Frame} {meth : Method} {c : Code} {T0 : State} {locs : List Loc} {cells slots : Nat} {Z : State} {a0 : Array Value} {h0 : Heap} (s0 : Slot) (s1 : Slot) (s2 : Slot) (s3 : Slot) (s4 : Slot) (s5 : Slot) (s6 : Slot) (s7 : Slot) (s8 : Slot) (s9 : Slot) (i10 : Int32) (s11 : Slot) (s12 : Slot) (s13 : Slot) (s14 : Slot) (s15 : Slot) (s16 : Slot) (s17 : Slot) (s18 : Slot) (s19 : Slot) (s20 : Slot) (s21 : Slot) (s22 : Slot) (s23 : Slot) (s24 : Slot) (s25 : Slot) (j26 : Int64) (i28 : Int32) (s29 : Slot) (s30 : Slot) (s31 : Slot) (i32 : Int32) (j33 : Int64) (i35 : Int32) (i36 : Int32) (s37 : Slot) (j38 : Int64)
    (X0 : Stand p l e room_1 s m args below meth c T0 locs cells slots) (hx : p.tables.exec = Jvm.exec) (hZ : Z.Warmed39 s.vm) (hw : ∀ d ∈ tables_1, d.before a0 Z = true) (hby : c.code = code) (hml : c.maxLocals = 40) (hown : s.vm.findClass "com/example/bandmark/bandmark/PlainDecimalReadPinLaw" = some m.cls) (e0 : T0.heap = h0) (hc638 : ¬ (i32 = (0 : Int32))) (hc646 : (lcmpW j33 j38) = (0 : Int32)) (hc653 : i35 = i28) (hc660 : ¬ (i10 = (0 : Int32))) (hc667 : ¬ ((lcmpW j26 (0 : Int64)) = (0 : Int32))) (hc675 : i36 = (1 : Int32)) :
    ∃ (T' : State), Stand p l e room_1 s m args below meth c T' locs cells slots ∧ T'.heap = h0 ∧
      ∀ target, Steps p.tables e below (T'.setTop (mkF m 678 #[s0, s1, s2, s3, s4, s5, s6, s7, s8, s9, .val (.int i10), s11, s12, s13, s14, s15, s16, s17, s18, s19, s20, s21, s22, s23, s24, s25, .val (.long j26), .second, .val (.int i28), s29, s30, s31, .val (.int i32), .val (.long j33), .second, .val (.int i35), .val (.int i36), s37, .val (.long j38), .second] [])) target → Steps p.tables e below (T0.setTop (mkF m 636 #[s0, s1, s2, s3, s4, s5, s6, s7, s8, s9, .val (.int i10), s11, s12, s13, s14, s15, s16, s17, s18, s19, s20, s21, s22, s23, s24, s25, .val (.long j26), .second, .val (.int i28), s29, s30, s31, .val (.int i32), .val (.long j33), .second, .val (.int i35), .val (.int i36), s37, .val (.long j38), .second] [])) target := by
  refine ⟨T0, X0, e0, fun target kt => ?_⟩
  refine XS.iload X0.here hx rfl (hb hby at_636) rfl ?_
  refine XS.ifNo X0.here hx rfl (hb hby at_638) rfl ((if0 _ _).trans (feq hc638).1) ?_
  refine XS.lload X0.here hx rfl (hb hby at_641) rfl ?_
  refine XS.lload X0.here hx rfl (hb hby at_643) rfl ?_
  refine XS.lcmp X0.here hx rfl (hb hby at_645) rfl ?_
  refine XS.ifNo X0.here hx rfl (hb hby at_646) rfl ((if0 _ _).trans (teq hc646).2) ?_
  refine XS.iload X0.here hx rfl (hb hby at_649) rfl ?_
  refine XS.iload X0.here hx rfl (hb hby at_651) rfl ?_
  refine XS.icmpNo X0.here hx rfl (hb hby at_653) rfl (teq hc653).2 ?_
  refine XS.iload X0.here hx rfl (hb hby at_656) rfl ?_
  refine XS.iload X0.here hx rfl (hb hby at_658) rfl ?_
  refine XS.ifNo X0.here hx rfl (hb hby at_660) rfl ((if0 _ _).trans (feq hc660).1) ?_
  refine XS.lload X0.here hx rfl (hb hby at_663) rfl ?_
  refine XS.lconst X0.here hx rfl (hb hby at_665) ?_
  refine XS.lcmp X0.here hx rfl (hb hby at_666) rfl ?_
  refine XS.ifNo X0.here hx rfl (hb hby at_667) rfl ((if0 _ _).trans (feq hc667).1) ?_
  refine XS.iconst X0.here hx rfl (hb hby at_670) ?_
  refine XS.goto X0.here hx rfl (pc0 := 671) (pc' := 675) rfl (hb hby at_671) (by decide) (by decide) ?_
  refine XS.icmpNo X0.here hx rfl (hb hby at_675) rfl (teq hc675).2 ?_
  exact kt
set_option maxRecDepth 65536 in
set_option maxHeartbeats 40000000 in
theorem own_Fnz {p : Program} {l : Launch} {e : Env} {s : State} {m : MethodId} {args : Array Value} {below : List Frame} {meth : Method} {c : Code} {T0 : State} {locs : List Loc} {cells slots : Nat} {Z : State} {a0 : Array Value} {h0 : Heap} (s0 : Slot) (s1 : Slot) (s2 : Slot) (s3 : Slot) (s4 : Slot) (s5 : Slot) (s6 : Slot) (s7 : Slot) (s8 : Slot) (s9 : Slot) (i10 : Int32) (s11 : Slot) (s12 : Slot) (s13 : Slot) (s14 : Slot) (s15 : Slot) (s16 : Slot) (s17 : Slot) (s18 : Slot) (s19 : Slot) (s20 : Slot) (s21 : Slot) (s22 : Slot) (s23 : Slot) (s24 : Slot) (s25 : Slot) (j26 : Int64) (i28 : Int32) (s29 : Slot) (s30 : Slot) (s31 : Slot) (i32 : Int32) (j33 : Int64) (i35 : Int32) (i36 : Int32) (s37 : Slot) (j38 : Int64)
    (X0 : Stand p l e room_1 s m args below meth c T0 locs cells slots) (hx : p.tables.exec = Jvm.exec) (hZ : Z.Warmed39 s.vm) (hw : ∀ d ∈ tables_1, d.before a0 Z = true) (hby : c.code = code) (hml : c.maxLocals = 40) (hown : s.vm.findClass "com/example/bandmark/bandmark/PlainDecimalReadPinLaw" = some m.cls) (e0 : T0.heap = h0) (hc638 : ¬ (i32 = (0 : Int32))) (hc646 : (lcmpW j33 j38) = (0 : Int32)) (hc653 : i35 = i28) (hc660 : ¬ (i10 = (0 : Int32))) (hc667 : (lcmpW j26 (0 : Int64)) = (0 : Int32)) (hc675 : i36 = (0 : Int32)) :
    ∃ (T' : State), Stand p l e room_1 s m args below meth c T' locs cells slots ∧ T'.heap = h0 ∧
      ∀ target, Steps p.tables e below (T'.setTop (mkF m 678 #[s0, s1, s2, s3, s4, s5, s6, s7, s8, s9, .val (.int i10), s11, s12, s13, s14, s15, s16, s17, s18, s19, s20, s21, s22, s23, s24, s25, .val (.long j26), .second, .val (.int i28), s29, s30, s31, .val (.int i32), .val (.long j33), .second, .val (.int i35), .val (.int i36), s37, .val (.long j38), .second] [])) target → Steps p.tables e below (T0.setTop (mkF m 636 #[s0, s1, s2, s3, s4, s5, s6, s7, s8, s9, .val (.int i10), s11, s12, s13, s14, s15, s16, s17, s18, s19, s20, s21, s22, s23, s24, s25, .val (.long j26), .second, .val (.int i28), s29, s30, s31, .val (.int i32), .val (.long j33), .second, .val (.int i35), .val (.int i36), s37, .val (.long j38), .second] [])) target := by
  refine ⟨T0, X0, e0, fun target kt => ?_⟩
  refine XS.iload X0.here hx rfl (hb hby at_636) rfl ?_
  refine XS.ifNo X0.here hx rfl (hb hby at_638) rfl ((if0 _ _).trans (feq hc638).1) ?_
  refine XS.lload X0.here hx rfl (hb hby at_641) rfl ?_
  refine XS.lload X0.here hx rfl (hb hby at_643) rfl ?_
  refine XS.lcmp X0.here hx rfl (hb hby at_645) rfl ?_
  refine XS.ifNo X0.here hx rfl (hb hby at_646) rfl ((if0 _ _).trans (teq hc646).2) ?_
  refine XS.iload X0.here hx rfl (hb hby at_649) rfl ?_
  refine XS.iload X0.here hx rfl (hb hby at_651) rfl ?_
  refine XS.icmpNo X0.here hx rfl (hb hby at_653) rfl (teq hc653).2 ?_
  refine XS.iload X0.here hx rfl (hb hby at_656) rfl ?_
  refine XS.iload X0.here hx rfl (hb hby at_658) rfl ?_
  refine XS.ifNo X0.here hx rfl (hb hby at_660) rfl ((if0 _ _).trans (feq hc660).1) ?_
  refine XS.lload X0.here hx rfl (hb hby at_663) rfl ?_
  refine XS.lconst X0.here hx rfl (hb hby at_665) ?_
  refine XS.lcmp X0.here hx rfl (hb hby at_666) rfl ?_
  refine XS.ifYes X0.here hx rfl (pc0 := 667) (pc' := 674) rfl (hb hby at_667) rfl ((if0 _ _).trans (teq hc667).1) (by decide) (by decide) ?_
  refine XS.iconst X0.here hx rfl (hb hby at_674) ?_
  refine XS.icmpNo X0.here hx rfl (hb hby at_675) rfl (teq hc675).2 ?_
  exact kt
set_option maxRecDepth 65536 in
set_option maxHeartbeats 40000000 in
theorem own_Fpz {p : Program} {l : Launch} {e : Env} {s : State} {m : MethodId} {args : Array Value} {below : List Frame} {meth : Method} {c : Code} {T0 : State} {locs : List Loc} {cells slots : Nat} {Z : State} {a0 : Array Value} {h0 : Heap} (s0 : Slot) (s1 : Slot) (s2 : Slot) (s3 : Slot) (s4 : Slot) (s5 : Slot) (s6 : Slot) (s7 : Slot) (s8 : Slot) (s9 : Slot) (i10 : Int32) (s11 : Slot) (s12 : Slot) (s13 : Slot) (s14 : Slot) (s15 : Slot) (s16 : Slot) (s17 : Slot) (s18 : Slot) (s19 : Slot) (s20 : Slot) (s21 : Slot) (s22 : Slot) (s23 : Slot) (s24 : Slot) (s25 : Slot) (s26 : Slot) (s27 : Slot) (i28 : Int32) (s29 : Slot) (s30 : Slot) (s31 : Slot) (i32 : Int32) (j33 : Int64) (i35 : Int32) (i36 : Int32) (s37 : Slot) (j38 : Int64)
    (X0 : Stand p l e room_1 s m args below meth c T0 locs cells slots) (hx : p.tables.exec = Jvm.exec) (hZ : Z.Warmed39 s.vm) (hw : ∀ d ∈ tables_1, d.before a0 Z = true) (hby : c.code = code) (hml : c.maxLocals = 40) (hown : s.vm.findClass "com/example/bandmark/bandmark/PlainDecimalReadPinLaw" = some m.cls) (e0 : T0.heap = h0) (hc638 : ¬ (i32 = (0 : Int32))) (hc646 : (lcmpW j33 j38) = (0 : Int32)) (hc653 : i35 = i28) (hc660 : i10 = (0 : Int32)) (hc675 : i36 = (0 : Int32)) :
    ∃ (T' : State), Stand p l e room_1 s m args below meth c T' locs cells slots ∧ T'.heap = h0 ∧
      ∀ target, Steps p.tables e below (T'.setTop (mkF m 678 #[s0, s1, s2, s3, s4, s5, s6, s7, s8, s9, .val (.int i10), s11, s12, s13, s14, s15, s16, s17, s18, s19, s20, s21, s22, s23, s24, s25, s26, s27, .val (.int i28), s29, s30, s31, .val (.int i32), .val (.long j33), .second, .val (.int i35), .val (.int i36), s37, .val (.long j38), .second] [])) target → Steps p.tables e below (T0.setTop (mkF m 636 #[s0, s1, s2, s3, s4, s5, s6, s7, s8, s9, .val (.int i10), s11, s12, s13, s14, s15, s16, s17, s18, s19, s20, s21, s22, s23, s24, s25, s26, s27, .val (.int i28), s29, s30, s31, .val (.int i32), .val (.long j33), .second, .val (.int i35), .val (.int i36), s37, .val (.long j38), .second] [])) target := by
  refine ⟨T0, X0, e0, fun target kt => ?_⟩
  refine XS.iload X0.here hx rfl (hb hby at_636) rfl ?_
  refine XS.ifNo X0.here hx rfl (hb hby at_638) rfl ((if0 _ _).trans (feq hc638).1) ?_
  refine XS.lload X0.here hx rfl (hb hby at_641) rfl ?_
  refine XS.lload X0.here hx rfl (hb hby at_643) rfl ?_
  refine XS.lcmp X0.here hx rfl (hb hby at_645) rfl ?_
  refine XS.ifNo X0.here hx rfl (hb hby at_646) rfl ((if0 _ _).trans (teq hc646).2) ?_
  refine XS.iload X0.here hx rfl (hb hby at_649) rfl ?_
  refine XS.iload X0.here hx rfl (hb hby at_651) rfl ?_
  refine XS.icmpNo X0.here hx rfl (hb hby at_653) rfl (teq hc653).2 ?_
  refine XS.iload X0.here hx rfl (hb hby at_656) rfl ?_
  refine XS.iload X0.here hx rfl (hb hby at_658) rfl ?_
  refine XS.ifYes X0.here hx rfl (pc0 := 660) (pc' := 674) rfl (hb hby at_660) rfl ((if0 _ _).trans (teq hc660).1) (by decide) (by decide) ?_
  refine XS.iconst X0.here hx rfl (hb hby at_674) ?_
  refine XS.icmpNo X0.here hx rfl (hb hby at_675) rfl (teq hc675).2 ?_
  exact kt
set_option maxRecDepth 65536 in
set_option maxHeartbeats 40000000 in
theorem own_Fe {p : Program} {l : Launch} {e : Env} {s : State} {m : MethodId} {args : Array Value} {below : List Frame} {meth : Method} {c : Code} {T0 : State} {locs : List Loc} {cells slots : Nat} {Z : State} {a0 : Array Value} {h0 : Heap} (s0 : Slot) (s1 : Slot) (s2 : Slot) (s3 : Slot) (s4 : Slot) (s5 : Slot) (s6 : Slot) (s7 : Slot) (s8 : Slot) (s9 : Slot) (s10 : Slot) (s11 : Slot) (s12 : Slot) (s13 : Slot) (s14 : Slot) (s15 : Slot) (s16 : Slot) (s17 : Slot) (s18 : Slot) (s19 : Slot) (s20 : Slot) (s21 : Slot) (s22 : Slot) (s23 : Slot) (s24 : Slot) (s25 : Slot) (s26 : Slot) (s27 : Slot) (s28 : Slot) (s29 : Slot) (s30 : Slot) (s31 : Slot) (i32 : Int32) (j33 : Int64) (i35 : Int32) (i36 : Int32) (s37 : Slot) (s38 : Slot) (s39 : Slot)
    (X0 : Stand p l e room_1 s m args below meth c T0 locs cells slots) (hx : p.tables.exec = Jvm.exec) (hZ : Z.Warmed39 s.vm) (hw : ∀ d ∈ tables_1, d.before a0 Z = true) (hby : c.code = code) (hml : c.maxLocals = 40) (hown : s.vm.findClass "com/example/bandmark/bandmark/PlainDecimalReadPinLaw" = some m.cls) (e0 : T0.heap = h0) (hc686 : i32 = (0 : Int32)) (hc695 : (lcmpW j33 (-15 : Int64)) = (0 : Int32)) (hc701 : i35 = (1 : Int32)) (hc706 : ¬ (i36 = (0 : Int32))) :
    ∃ (T' : State), Stand p l e room_1 s m args below meth c T' locs cells slots ∧ T'.heap = h0 ∧
      ∀ target, Steps p.tables e below (T'.setTop (mkF m 709 #[s0, s1, s2, s3, s4, s5, s6, s7, s8, s9, s10, s11, s12, s13, s14, s15, s16, s17, s18, s19, s20, s21, s22, s23, s24, s25, s26, s27, s28, s29, s30, s31, .val (.int i32), .val (.long j33), .second, .val (.int i35), .val (.int i36), s37, s38, s39] [])) target → Steps p.tables e below (T0.setTop (mkF m 684 #[s0, s1, s2, s3, s4, s5, s6, s7, s8, s9, s10, s11, s12, s13, s14, s15, s16, s17, s18, s19, s20, s21, s22, s23, s24, s25, s26, s27, s28, s29, s30, s31, .val (.int i32), .val (.long j33), .second, .val (.int i35), .val (.int i36), s37, s38, s39] [])) target := by
  refine ⟨T0, X0, e0, fun target kt => ?_⟩
  refine XS.iload X0.here hx rfl (hb hby at_684) rfl ?_
  refine XS.ifNo X0.here hx rfl (hb hby at_686) rfl ((if0 _ _).trans (teq hc686).2) ?_
  refine XS.lload X0.here hx rfl (hb hby at_689) rfl ?_
  refine X0.ldc2Long hx hown (mvT hZ (own_W hw 125 rfl)) (g := (mkF m 691 #[s0, s1, s2, s3, s4, s5, s6, s7, s8, s9, s10, s11, s12, s13, s14, s15, s16, s17, s18, s19, s20, s21, s22, s23, s24, s25, s26, s27, s28, s29, s30, s31, .val (.int i32), .val (.long j33), .second, .val (.int i35), .val (.int i36), s37, s38, s39] [(.long j33)])) rfl (hb hby at_691) _ ?_
  refine XS.lcmp X0.here hx rfl (hb hby at_694) rfl ?_
  refine XS.ifNo X0.here hx rfl (hb hby at_695) rfl ((if0 _ _).trans (teq hc695).2) ?_
  refine XS.iload X0.here hx rfl (hb hby at_698) rfl ?_
  refine XS.iconst X0.here hx rfl (hb hby at_700) ?_
  refine XS.icmpNo X0.here hx rfl (hb hby at_701) rfl (teq hc701).2 ?_
  refine XS.iload X0.here hx rfl (hb hby at_704) rfl ?_
  refine XS.ifNo X0.here hx rfl (hb hby at_706) rfl ((if0 _ _).trans (feq hc706).1) ?_
  exact kt
theorem own_Z {p : Program} {l : Launch} {e : Env} {s : State} {m : MethodId} {args : Array Value} {below : List Frame} {meth : Method} {c : Code} {T0 : State} {locs : List Loc} {cells slots : Nat} {Z : State} {a0 : Array Value} {h0 : Heap} (s0 s1 s2 s3 s4 s5 s6 s11 s12 s13 s14 s15 s16 s17 s18 s19 s20 s21 s22 s23 s24 s25 : Slot) (o7 o30 : Addr) (cs : List Int32) (a b st : Nat) (n0 : Nat)
    (X0 : Stand p l e room_1 s m args below meth c T0 locs cells slots) (hx : p.tables.exec = Jvm.exec) (hZ : Z.Warmed39 s.vm) (hw : ∀ d ∈ tables_1, d.before a0 Z = true) (hby : c.code = code) (hml : c.maxLocals = 40) (hown : s.vm.findClass "com/example/bandmark/bandmark/PlainDecimalReadPinLaw" = some m.cls) (e0 : T0.heap = h0) (hcs : cs.length = 5) (hab : a ≤ b) (hb5 : b ≤ 5) (hst : st = own_start (fun j => cs.getD j 0) a b) (TX : own_Tx Z h0 o7 cs) (HP : own_PD Z h0 o30 (-15) 1 2) (g30 : n0 ≤ o30) (Z0 : n0 ≤ h0.size) (N0 : Fr n0 locs) (hcl : cells ≤ room_1.cells) (hsl : slots ≤ room_1.slots) :
    ∃ (T' : State) (locs' : List Loc), Stand p l e room_1 s m args below meth c T' locs' cells slots ∧ Fr n0 locs' ∧ h0.size ≤ T'.heap.size ∧
      ((∃ fr : Array Slot, ∀ target, Steps p.tables e below (T'.setTop (mkF m 678 fr [])) target → Steps p.tables e below (T0.setTop (mkF m 563 #[s0, s1, s2, s3, s4, s5, s6, .val (.ref o7), .val (.int (Int32.ofNat a)), .val (.int (Int32.ofNat b)), .val (.int (own_b (own_neg (fun j => cs.getD j 0) a b))), s11, s12, s13, s14, s15, s16, s17, s18, s19, s20, s21, s22, s23, s24, s25, .val (.long (Int64.ofNat (own_sU cs st b 5 0))), .second, .val (.int (Int32.ofNat (own_sS cs st b 5 0))), .val (.int (own_b (own_vv cs st b))), .val (.ref o30), .val (.int 1), .unset, .unset, .unset, .unset, .unset, .unset, .unset, .unset] [])) target) ∨ (∃ fr : Array Slot, ∀ target, Steps p.tables e below (T'.setTop (mkF m 709 fr [])) target → Steps p.tables e below (T0.setTop (mkF m 563 #[s0, s1, s2, s3, s4, s5, s6, .val (.ref o7), .val (.int (Int32.ofNat a)), .val (.int (Int32.ofNat b)), .val (.int (own_b (own_neg (fun j => cs.getD j 0) a b))), s11, s12, s13, s14, s15, s16, s17, s18, s19, s20, s21, s22, s23, s24, s25, .val (.long (Int64.ofNat (own_sU cs st b 5 0))), .second, .val (.int (Int32.ofNat (own_sS cs st b 5 0))), .val (.int (own_b (own_vv cs st b))), .val (.ref o30), .val (.int 1), .unset, .unset, .unset, .unset, .unset, .unset, .unset, .unset] [])) target)) := by
  obtain ⟨T1, L1, X1, N1, K1, P1, st1⟩ := own_G2 s0 s1 s2 s3 s4 s5 s6 o7 (Int32.ofNat a) (Int32.ofNat b) (.val (.int (own_b (own_neg (fun j => cs.getD j 0) a b)))) s11 s12 s13 s14 s15 s16 s17 s18 s19 s20 s21 s22 s23 s24 s25 (.val (.long (Int64.ofNat (own_sU cs st b 5 0)))) .second (.val (.int (Int32.ofNat (own_sS cs st b 5 0)))) (.val (.int (own_b (own_vv cs st b)))) o30 (.val (.int 1)) .unset .unset .unset .unset .unset .unset .unset .unset cs a b (-15) 1 2 n0 X0 hx hZ hw hby hml hown e0 rfl rfl hab (by omega) TX HP g30 Z0 N0 hcl hsl One.u
  have Z1 : n0 ≤ T1.heap.size := Nat.le_trans Z0 K1.1
  have e1 : T1.heap = T1.heap := rfl
  have eR := own_ans cs a b hab hb5 st hst
  have hA := (own_bound cs st b 5 0).1
  by_cases hv : (own_sB cs st b 5 0 = 0 ∧ own_sP cs st b 5 0 ≤ 1) ∧ 1 ≤ own_sA cs st b 5 0
  · have hvv : own_vv cs st b = true := decide_eq_true hv
    rw [if_pos hv] at eR
    rw [eR] at P1 st1
    have P2 : own_PD Z T1.heap o30 (if own_neg (fun j => cs.getD j 0) a b then -(Int64.ofNat (own_sU cs st b 5 0)) else Int64.ofNat (own_sU cs st b 5 0)) (Int32.ofNat (own_sS cs st b 5 0)) (Int32.ofNat (own_sA cs st b 5 0)) := P1
    have h18 : ¬ (18 : Int32) < Int32.ofNat (own_sA cs st b 5 0) := fun q => by have := (own_lt 18 _ (by decide) (by omega)).mp q; omega
    have hU : own_sU cs st b 5 0 < 100000 := Nat.lt_of_lt_of_le (own_bound cs st b 5 0).2 (Nat.le_trans (Nat.pow_le_pow_right (by decide) hA) (by decide))
    obtain ⟨T2, L2, X2, N2, e2, st2⟩ := own_G3 s0 s1 s2 s3 s4 s5 s6 (.val (.ref o7)) (.val (.int (Int32.ofNat a))) (.val (.int (Int32.ofNat b))) (.val (.int (own_b (own_neg (fun j => cs.getD j 0) a b)))) s11 s12 s13 s14 s15 s16 s17 s18 s19 s20 s21 s22 s23 s24 s25 (.val (.long (Int64.ofNat (own_sU cs st b 5 0)))) .second (.val (.int (Int32.ofNat (own_sS cs st b 5 0)))) (.val (.int (own_b (own_vv cs st b)))) o30 (.val (.int 1)) (.val (.int (own_r (some (own_sA cs st b 5 0, own_sU cs st b 5 0, own_sS cs st b 5 0))))) .unset .unset .unset .unset .unset (if own_neg (fun j => cs.getD j 0) a b then -(Int64.ofNat (own_sU cs st b 5 0)) else Int64.ofNat (own_sU cs st b 5 0)) (Int32.ofNat (own_sS cs st b 5 0)) (Int32.ofNat (own_sA cs st b 5 0)) n0 X1 hx hZ hw hby hml hown e1 P2 h18 Z1 N1 hcl hsl
    obtain ⟨T3, L3, X3, N3, e3, st3⟩ := own_G4 s0 s1 s2 s3 s4 s5 s6 (.val (.ref o7)) (.val (.int (Int32.ofNat a))) (.val (.int (Int32.ofNat b))) (.val (.int (own_b (own_neg (fun j => cs.getD j 0) a b)))) s11 s12 s13 s14 s15 s16 s17 s18 s19 s20 s21 s22 s23 s24 s25 (.val (.long (Int64.ofNat (own_sU cs st b 5 0)))) .second (.val (.int (Int32.ofNat (own_sS cs st b 5 0)))) (.val (.int (own_b (own_vv cs st b)))) o30 (.val (.int 1)) (.val (.int (own_r (some (own_sA cs st b 5 0, own_sU cs st b 5 0, own_sS cs st b 5 0))))) (.val (.long (if own_neg (fun j => cs.getD j 0) a b then -(Int64.ofNat (own_sU cs st b 5 0)) else Int64.ofNat (own_sU cs st b 5 0)))) .second .unset .unset .unset .unset .unset (if own_neg (fun j => cs.getD j 0) a b then -(Int64.ofNat (own_sU cs st b 5 0)) else Int64.ofNat (own_sU cs st b 5 0)) (Int32.ofNat (own_sS cs st b 5 0)) (Int32.ofNat (own_sA cs st b 5 0)) n0 X2 hx hZ hw hby hml hown e2 P2 h18 Z1 N2 hcl hsl One.u
    obtain ⟨T4, L4, X4, N4, e4, st4⟩ := own_G5 s0 s1 s2 s3 s4 s5 s6 (.val (.ref o7)) (.val (.int (Int32.ofNat a))) (.val (.int (Int32.ofNat b))) (.val (.int (own_b (own_neg (fun j => cs.getD j 0) a b)))) s11 s12 s13 s14 s15 s16 s17 s18 s19 s20 s21 s22 s23 s24 s25 (.val (.long (Int64.ofNat (own_sU cs st b 5 0)))) .second (.val (.int (Int32.ofNat (own_sS cs st b 5 0)))) (.val (.int (own_b (own_vv cs st b)))) o30 (.val (.int 1)) (.val (.int (own_r (some (own_sA cs st b 5 0, own_sU cs st b 5 0, own_sS cs st b 5 0))))) (.val (.long (if own_neg (fun j => cs.getD j 0) a b then -(Int64.ofNat (own_sU cs st b 5 0)) else Int64.ofNat (own_sU cs st b 5 0)))) .second (.val (.int (Int32.ofNat (own_sS cs st b 5 0)))) .unset .unset .unset .unset (if own_neg (fun j => cs.getD j 0) a b then -(Int64.ofNat (own_sU cs st b 5 0)) else Int64.ofNat (own_sU cs st b 5 0)) (Int32.ofNat (own_sS cs st b 5 0)) (Int32.ofNat (own_sA cs st b 5 0)) n0 X3 hx hZ hw hby hml hown e3 P2 h18 Z1 N3 hcl hsl One.u
    obtain ⟨T5, L5, X5, N5, e5, st5⟩ := own_G6 s0 s1 s2 s3 s4 s5 s6 (.val (.ref o7)) (.val (.int (Int32.ofNat a))) (.val (.int (Int32.ofNat b))) (.val (.int (own_b (own_neg (fun j => cs.getD j 0) a b)))) s11 s12 s13 s14 s15 s16 s17 s18 s19 s20 s21 s22 s23 s24 s25 (.val (.long (Int64.ofNat (own_sU cs st b 5 0)))) .second (.val (.int (Int32.ofNat (own_sS cs st b 5 0)))) (.val (.int (own_b (own_vv cs st b)))) o30 (.val (.int 1)) (.val (.int (own_r (some (own_sA cs st b 5 0, own_sU cs st b 5 0, own_sS cs st b 5 0))))) (.val (.long (if own_neg (fun j => cs.getD j 0) a b then -(Int64.ofNat (own_sU cs st b 5 0)) else Int64.ofNat (own_sU cs st b 5 0)))) .second (.val (.int (Int32.ofNat (own_sS cs st b 5 0)))) (.val (.int (own_ng (if own_neg (fun j => cs.getD j 0) a b then -(Int64.ofNat (own_sU cs st b 5 0)) else Int64.ofNat (own_sU cs st b 5 0))))) .unset .unset .unset (if own_neg (fun j => cs.getD j 0) a b then -(Int64.ofNat (own_sU cs st b 5 0)) else Int64.ofNat (own_sU cs st b 5 0)) (Int32.ofNat (own_sS cs st b 5 0)) (Int32.ofNat (own_sA cs st b 5 0)) n0 X4 hx hZ hw hby hml hown e4 P2 h18 Z1 N4 hcl hsl One.u
    obtain ⟨T6, X6, e6, st6⟩ := own_F1 s0 s1 s2 s3 s4 s5 s6 (.val (.ref o7)) (.val (.int (Int32.ofNat a))) (.val (.int (Int32.ofNat b))) (.val (.int (own_b (own_neg (fun j => cs.getD j 0) a b)))) s11 s12 s13 s14 s15 s16 s17 s18 s19 s20 s21 s22 s23 s24 s25 (.val (.long (Int64.ofNat (own_sU cs st b 5 0)))) .second (.val (.int (Int32.ofNat (own_sS cs st b 5 0)))) (own_b (own_vv cs st b)) (.val (.ref o30)) (1 : Int32) (.val (.int (own_r (some (own_sA cs st b 5 0, own_sU cs st b 5 0, own_sS cs st b 5 0))))) (.val (.long (if own_neg (fun j => cs.getD j 0) a b then -(Int64.ofNat (own_sU cs st b 5 0)) else Int64.ofNat (own_sU cs st b 5 0)))) .second (.val (.int (Int32.ofNat (own_sS cs st b 5 0)))) (.val (.int (own_ng (if own_neg (fun j => cs.getD j 0) a b then -(Int64.ofNat (own_sU cs st b 5 0)) else Int64.ofNat (own_sU cs st b 5 0))))) (1 : Int32) .unset .unset X5 hx hZ hw hby hml hown e5 (by decide) (by decide) (by rw [hvv]; decide)
    have N6 := N5
    by_cases hN : own_neg (fun j => cs.getD j 0) a b = true
    · skip
      by_cases hz0 : own_sU cs st b 5 0 = 0
      · obtain ⟨T7, X7, e7, st7⟩ := own_Fn s0 s1 s2 s3 s4 s5 s6 (.val (.ref o7)) (.val (.int (Int32.ofNat a))) (.val (.int (Int32.ofNat b))) (own_b (own_neg (fun j => cs.getD j 0) a b)) s11 s12 s13 s14 s15 s16 s17 s18 s19 s20 s21 s22 s23 s24 s25 (Int64.ofNat (own_sU cs st b 5 0)) (.val (.int (Int32.ofNat (own_sS cs st b 5 0)))) (.val (.int (own_b (own_vv cs st b)))) (.val (.ref o30)) (.val (.int 1)) (.val (.int (own_r (some (own_sA cs st b 5 0, own_sU cs st b 5 0, own_sS cs st b 5 0))))) (.val (.long (if own_neg (fun j => cs.getD j 0) a b then -(Int64.ofNat (own_sU cs st b 5 0)) else Int64.ofNat (own_sU cs st b 5 0)))) .second (.val (.int (Int32.ofNat (own_sS cs st b 5 0)))) (.val (.int (own_ng (if own_neg (fun j => cs.getD j 0) a b then -(Int64.ofNat (own_sU cs st b 5 0)) else Int64.ofNat (own_sU cs st b 5 0))))) (.val (.int 1)) X6 hx hZ hw hby hml hown e6 (by rw [hN]; decide)
        have N7 := N6
        obtain ⟨T8, X8, e8, st8⟩ := own_Fnz s0 s1 s2 s3 s4 s5 s6 (.val (.ref o7)) (.val (.int (Int32.ofNat a))) (.val (.int (Int32.ofNat b))) (own_b (own_neg (fun j => cs.getD j 0) a b)) s11 s12 s13 s14 s15 s16 s17 s18 s19 s20 s21 s22 s23 s24 s25 (Int64.ofNat (own_sU cs st b 5 0)) (Int32.ofNat (own_sS cs st b 5 0)) (.val (.int (own_b (own_vv cs st b)))) (.val (.ref o30)) (.val (.int 1)) (own_r (some (own_sA cs st b 5 0, own_sU cs st b 5 0, own_sS cs st b 5 0))) (if own_neg (fun j => cs.getD j 0) a b then -(Int64.ofNat (own_sU cs st b 5 0)) else Int64.ofNat (own_sU cs st b 5 0)) (Int32.ofNat (own_sS cs st b 5 0)) (own_ng (if own_neg (fun j => cs.getD j 0) a b then -(Int64.ofNat (own_sU cs st b 5 0)) else Int64.ofNat (own_sU cs st b 5 0))) (.val (.int 1)) (-(Int64.ofNat (own_sU cs st b 5 0))) X7 hx hZ hw hby hml hown e7 (by show ¬ ((1 : Int32) = (0 : Int32)); decide) (by rw [show (if own_neg (fun j => cs.getD j 0) a b then -(Int64.ofNat (own_sU cs st b 5 0)) else Int64.ofNat (own_sU cs st b 5 0)) = (-(Int64.ofNat (own_sU cs st b 5 0))) by rw [hN]; rfl]; exact own_lc0 _) rfl (by rw [hN]; decide) ((own_u0 _ hU).mpr hz0) ((own_sgn _ hU (own_neg (fun j => cs.getD j 0) a b)).trans (by rw [hN, decide_eq_false (fun q => q hz0)]; rfl))
        have N8 := N7
        exact ⟨T8, _, X8, N8, (by rw [e8]; exact K1.1), Or.inl ⟨_, fun t k => st1 _ (st2 _ (st3 _ (st4 _ (st5 _ (st6 _ (st7 _ (st8 _ k)))))))⟩⟩
      · obtain ⟨T7, X7, e7, st7⟩ := own_Fn s0 s1 s2 s3 s4 s5 s6 (.val (.ref o7)) (.val (.int (Int32.ofNat a))) (.val (.int (Int32.ofNat b))) (own_b (own_neg (fun j => cs.getD j 0) a b)) s11 s12 s13 s14 s15 s16 s17 s18 s19 s20 s21 s22 s23 s24 s25 (Int64.ofNat (own_sU cs st b 5 0)) (.val (.int (Int32.ofNat (own_sS cs st b 5 0)))) (.val (.int (own_b (own_vv cs st b)))) (.val (.ref o30)) (.val (.int 1)) (.val (.int (own_r (some (own_sA cs st b 5 0, own_sU cs st b 5 0, own_sS cs st b 5 0))))) (.val (.long (if own_neg (fun j => cs.getD j 0) a b then -(Int64.ofNat (own_sU cs st b 5 0)) else Int64.ofNat (own_sU cs st b 5 0)))) .second (.val (.int (Int32.ofNat (own_sS cs st b 5 0)))) (.val (.int (own_ng (if own_neg (fun j => cs.getD j 0) a b then -(Int64.ofNat (own_sU cs st b 5 0)) else Int64.ofNat (own_sU cs st b 5 0))))) (.val (.int 1)) X6 hx hZ hw hby hml hown e6 (by rw [hN]; decide)
        have N7 := N6
        obtain ⟨T8, X8, e8, st8⟩ := own_Fny s0 s1 s2 s3 s4 s5 s6 (.val (.ref o7)) (.val (.int (Int32.ofNat a))) (.val (.int (Int32.ofNat b))) (own_b (own_neg (fun j => cs.getD j 0) a b)) s11 s12 s13 s14 s15 s16 s17 s18 s19 s20 s21 s22 s23 s24 s25 (Int64.ofNat (own_sU cs st b 5 0)) (Int32.ofNat (own_sS cs st b 5 0)) (.val (.int (own_b (own_vv cs st b)))) (.val (.ref o30)) (.val (.int 1)) (own_r (some (own_sA cs st b 5 0, own_sU cs st b 5 0, own_sS cs st b 5 0))) (if own_neg (fun j => cs.getD j 0) a b then -(Int64.ofNat (own_sU cs st b 5 0)) else Int64.ofNat (own_sU cs st b 5 0)) (Int32.ofNat (own_sS cs st b 5 0)) (own_ng (if own_neg (fun j => cs.getD j 0) a b then -(Int64.ofNat (own_sU cs st b 5 0)) else Int64.ofNat (own_sU cs st b 5 0))) (.val (.int 1)) (-(Int64.ofNat (own_sU cs st b 5 0))) X7 hx hZ hw hby hml hown e7 (by show ¬ ((1 : Int32) = (0 : Int32)); decide) (by rw [show (if own_neg (fun j => cs.getD j 0) a b then -(Int64.ofNat (own_sU cs st b 5 0)) else Int64.ofNat (own_sU cs st b 5 0)) = (-(Int64.ofNat (own_sU cs st b 5 0))) by rw [hN]; rfl]; exact own_lc0 _) rfl (by rw [hN]; decide) (fun q => hz0 ((own_u0 _ hU).mp q)) ((own_sgn _ hU (own_neg (fun j => cs.getD j 0) a b)).trans (by rw [hN, decide_eq_true hz0]; rfl))
        have N8 := N7
        exact ⟨T8, _, X8, N8, (by rw [e8]; exact K1.1), Or.inl ⟨_, fun t k => st1 _ (st2 _ (st3 _ (st4 _ (st5 _ (st6 _ (st7 _ (st8 _ k)))))))⟩⟩
    · replace hN : own_neg (fun j => cs.getD j 0) a b = false := Bool.eq_false_iff.mpr hN
      obtain ⟨T7, X7, e7, st7⟩ := own_Fp s0 s1 s2 s3 s4 s5 s6 (.val (.ref o7)) (.val (.int (Int32.ofNat a))) (.val (.int (Int32.ofNat b))) (own_b (own_neg (fun j => cs.getD j 0) a b)) s11 s12 s13 s14 s15 s16 s17 s18 s19 s20 s21 s22 s23 s24 s25 (Int64.ofNat (own_sU cs st b 5 0)) (.val (.int (Int32.ofNat (own_sS cs st b 5 0)))) (.val (.int (own_b (own_vv cs st b)))) (.val (.ref o30)) (.val (.int 1)) (.val (.int (own_r (some (own_sA cs st b 5 0, own_sU cs st b 5 0, own_sS cs st b 5 0))))) (.val (.long (if own_neg (fun j => cs.getD j 0) a b then -(Int64.ofNat (own_sU cs st b 5 0)) else Int64.ofNat (own_sU cs st b 5 0)))) .second (.val (.int (Int32.ofNat (own_sS cs st b 5 0)))) (.val (.int (own_ng (if own_neg (fun j => cs.getD j 0) a b then -(Int64.ofNat (own_sU cs st b 5 0)) else Int64.ofNat (own_sU cs st b 5 0))))) (.val (.int 1)) X6 hx hZ hw hby hml hown e6 (by rw [hN]; rfl)
      have N7 := N6
      obtain ⟨T8, X8, e8, st8⟩ := own_Fpz s0 s1 s2 s3 s4 s5 s6 (.val (.ref o7)) (.val (.int (Int32.ofNat a))) (.val (.int (Int32.ofNat b))) (own_b (own_neg (fun j => cs.getD j 0) a b)) s11 s12 s13 s14 s15 s16 s17 s18 s19 s20 s21 s22 s23 s24 s25 (.val (.long (Int64.ofNat (own_sU cs st b 5 0)))) .second (Int32.ofNat (own_sS cs st b 5 0)) (.val (.int (own_b (own_vv cs st b)))) (.val (.ref o30)) (.val (.int 1)) (own_r (some (own_sA cs st b 5 0, own_sU cs st b 5 0, own_sS cs st b 5 0))) (if own_neg (fun j => cs.getD j 0) a b then -(Int64.ofNat (own_sU cs st b 5 0)) else Int64.ofNat (own_sU cs st b 5 0)) (Int32.ofNat (own_sS cs st b 5 0)) (own_ng (if own_neg (fun j => cs.getD j 0) a b then -(Int64.ofNat (own_sU cs st b 5 0)) else Int64.ofNat (own_sU cs st b 5 0))) (.val (.int 1)) (Int64.ofNat (own_sU cs st b 5 0)) X7 hx hZ hw hby hml hown e7 (by show ¬ ((1 : Int32) = (0 : Int32)); decide) (by rw [show (if own_neg (fun j => cs.getD j 0) a b then -(Int64.ofNat (own_sU cs st b 5 0)) else Int64.ofNat (own_sU cs st b 5 0)) = (Int64.ofNat (own_sU cs st b 5 0)) by rw [hN]; rfl]; exact own_lc0 _) rfl (by rw [hN]; rfl) ((own_sgn _ hU (own_neg (fun j => cs.getD j 0) a b)).trans (by rw [hN]; rfl))
      have N8 := N7
      exact ⟨T8, _, X8, N8, (by rw [e8]; exact K1.1), Or.inl ⟨_, fun t k => st1 _ (st2 _ (st3 _ (st4 _ (st5 _ (st6 _ (st7 _ (st8 _ k)))))))⟩⟩
  · have hvv : own_vv cs st b = false := decide_eq_false hv
    rw [if_neg hv] at eR
    rw [eR] at P1 st1
    have P2 : own_PD Z T1.heap o30 (-15) 1 2 := P1
    have h18 : ¬ (18 : Int32) < 2 := by decide
    obtain ⟨T2, L2, X2, N2, e2, st2⟩ := own_G3 s0 s1 s2 s3 s4 s5 s6 (.val (.ref o7)) (.val (.int (Int32.ofNat a))) (.val (.int (Int32.ofNat b))) (.val (.int (own_b (own_neg (fun j => cs.getD j 0) a b)))) s11 s12 s13 s14 s15 s16 s17 s18 s19 s20 s21 s22 s23 s24 s25 (.val (.long (Int64.ofNat (own_sU cs st b 5 0)))) .second (.val (.int (Int32.ofNat (own_sS cs st b 5 0)))) (.val (.int (own_b (own_vv cs st b)))) o30 (.val (.int 1)) (.val (.int (own_r none))) .unset .unset .unset .unset .unset (-15 : Int64) (1 : Int32) (2 : Int32) n0 X1 hx hZ hw hby hml hown e1 P2 h18 Z1 N1 hcl hsl
    obtain ⟨T3, L3, X3, N3, e3, st3⟩ := own_G4 s0 s1 s2 s3 s4 s5 s6 (.val (.ref o7)) (.val (.int (Int32.ofNat a))) (.val (.int (Int32.ofNat b))) (.val (.int (own_b (own_neg (fun j => cs.getD j 0) a b)))) s11 s12 s13 s14 s15 s16 s17 s18 s19 s20 s21 s22 s23 s24 s25 (.val (.long (Int64.ofNat (own_sU cs st b 5 0)))) .second (.val (.int (Int32.ofNat (own_sS cs st b 5 0)))) (.val (.int (own_b (own_vv cs st b)))) o30 (.val (.int 1)) (.val (.int (own_r none))) (.val (.long (-15 : Int64))) .second .unset .unset .unset .unset .unset (-15 : Int64) (1 : Int32) (2 : Int32) n0 X2 hx hZ hw hby hml hown e2 P2 h18 Z1 N2 hcl hsl One.u
    obtain ⟨T4, L4, X4, N4, e4, st4⟩ := own_G5 s0 s1 s2 s3 s4 s5 s6 (.val (.ref o7)) (.val (.int (Int32.ofNat a))) (.val (.int (Int32.ofNat b))) (.val (.int (own_b (own_neg (fun j => cs.getD j 0) a b)))) s11 s12 s13 s14 s15 s16 s17 s18 s19 s20 s21 s22 s23 s24 s25 (.val (.long (Int64.ofNat (own_sU cs st b 5 0)))) .second (.val (.int (Int32.ofNat (own_sS cs st b 5 0)))) (.val (.int (own_b (own_vv cs st b)))) o30 (.val (.int 1)) (.val (.int (own_r none))) (.val (.long (-15 : Int64))) .second (.val (.int 1)) .unset .unset .unset .unset (-15 : Int64) (1 : Int32) (2 : Int32) n0 X3 hx hZ hw hby hml hown e3 P2 h18 Z1 N3 hcl hsl One.u
    obtain ⟨T5, L5, X5, N5, e5, st5⟩ := own_G6 s0 s1 s2 s3 s4 s5 s6 (.val (.ref o7)) (.val (.int (Int32.ofNat a))) (.val (.int (Int32.ofNat b))) (.val (.int (own_b (own_neg (fun j => cs.getD j 0) a b)))) s11 s12 s13 s14 s15 s16 s17 s18 s19 s20 s21 s22 s23 s24 s25 (.val (.long (Int64.ofNat (own_sU cs st b 5 0)))) .second (.val (.int (Int32.ofNat (own_sS cs st b 5 0)))) (.val (.int (own_b (own_vv cs st b)))) o30 (.val (.int 1)) (.val (.int (own_r none))) (.val (.long (-15 : Int64))) .second (.val (.int 1)) (.val (.int (own_ng (-15 : Int64)))) .unset .unset .unset (-15 : Int64) (1 : Int32) (2 : Int32) n0 X4 hx hZ hw hby hml hown e4 P2 h18 Z1 N4 hcl hsl One.u
    obtain ⟨T6, X6, e6, st6⟩ := own_F0 s0 s1 s2 s3 s4 s5 s6 (.val (.ref o7)) (.val (.int (Int32.ofNat a))) (.val (.int (Int32.ofNat b))) (.val (.int (own_b (own_neg (fun j => cs.getD j 0) a b)))) s11 s12 s13 s14 s15 s16 s17 s18 s19 s20 s21 s22 s23 s24 s25 (.val (.long (Int64.ofNat (own_sU cs st b 5 0)))) .second (.val (.int (Int32.ofNat (own_sS cs st b 5 0)))) (own_b (own_vv cs st b)) (.val (.ref o30)) (1 : Int32) (.val (.int (own_r none))) (.val (.long (-15 : Int64))) .second (.val (.int 1)) (.val (.int (own_ng (-15 : Int64)))) (1 : Int32) .unset .unset X5 hx hZ hw hby hml hown e5 (by decide) (by decide) (by rw [hvv]; rfl)
    have N6 := N5
    obtain ⟨T7, X7, e7, st7⟩ := own_Fe s0 s1 s2 s3 s4 s5 s6 (.val (.ref o7)) (.val (.int (Int32.ofNat a))) (.val (.int (Int32.ofNat b))) (.val (.int (own_b (own_neg (fun j => cs.getD j 0) a b)))) s11 s12 s13 s14 s15 s16 s17 s18 s19 s20 s21 s22 s23 s24 s25 (.val (.long (Int64.ofNat (own_sU cs st b 5 0)))) .second (.val (.int (Int32.ofNat (own_sS cs st b 5 0)))) (.val (.int (own_b (own_vv cs st b)))) (.val (.ref o30)) (.val (.int 1)) (own_r none) (-15 : Int64) (1 : Int32) (own_ng (-15 : Int64)) (.val (.int 1)) .unset .unset X6 hx hZ hw hby hml hown e6 rfl (own_lc0 _) rfl (by decide)
    have N7 := N6
    exact ⟨T7, _, X7, N7, (by rw [e7]; exact K1.1), Or.inr ⟨_, fun t k => st1 _ (st2 _ (st3 _ (st4 _ (st5 _ (st6 _ (st7 _ k))))))⟩⟩
theorem own_ofInt (x : Int32) (h : 0 ≤ x.toInt) : x = Int32.ofNat x.toInt.toNat := by
  apply Int32.toInt_inj.mp
  have h2 := x.toInt_lt
  rw [Int32.toInt_ofNat_of_lt (by omega)]
  omega
theorem own_modn (x y : Int32) (hy : 0 < y.toInt) : ∃ n : Nat, (n : Int) < y.toInt ∧ (x &&& (2147483647 : Int32)) % y = Int32.ofNat n := by
  have h1 := c_and x 2147483647 (by decide)
  have z : (2147483647 : Int32).toInt = 2147483647 := by decide
  have h2 := (c_iremV (x &&& (2147483647 : Int32)) y).1 (by omega) hy
  refine ⟨((x &&& (2147483647 : Int32)) % y).toInt.toNat, by omega, own_ofInt _ (by omega)⟩
theorem own_modm (x y : Int32) (hy : 0 < y.toInt) : ∃ n : Nat, (n : Int) < y.toInt ∧ (x &&& (8388607 : Int32)) % y = Int32.ofNat n := by
  have h1 := c_and x 8388607 (by decide)
  have z : (8388607 : Int32).toInt = 8388607 := by decide
  have h2 := (c_iremV (x &&& (8388607 : Int32)) y).1 (by omega) hy
  refine ⟨((x &&& (8388607 : Int32)) % y).toInt.toNat, by omega, own_ofInt _ (by omega)⟩
theorem own_six (a : Nat) (h : a < 6) : ((6 : Int32) - Int32.ofNat a).toInt = 6 - (a : Int) ∧ ¬ ((6 : Int32) - Int32.ofNat a = (0 : Int32)) := (by decide +kernel : ∀ a : Fin 6, ((6 : Int32) - Int32.ofNat a.val).toInt = 6 - (a.val : Int) ∧ ¬ ((6 : Int32) - Int32.ofNat a.val = (0 : Int32))) ⟨a, h⟩
theorem own_first : ∀ cs : List Int32, ¬ (∀ c ∈ cs, ¬ (255 : Int32) < c) → ∃ k, k < cs.length ∧ (∀ j, j < k → ¬ (255 : Int32) < cs.getD j 0) ∧ (255 : Int32) < cs.getD k 0
  | [], h => absurd (fun c hc => by cases hc) h
  | c :: cs, h => by
    by_cases hc : (255 : Int32) < c
    · exact ⟨0, Nat.zero_lt_succ _, fun j hj => absurd hj (Nat.not_lt_zero j), hc⟩
    · obtain ⟨k, h1, h2, h3⟩ := own_first cs (fun q => h (fun x hx => by
        rcases List.mem_cons.mp hx with rfl | hx
        · exact hc
        · exact q x hx))
      refine ⟨k + 1, Nat.succ_lt_succ h1, fun j hj => ?_, h3⟩
      cases j with
      | zero => exact hc
      | succ j => exact h2 j (Nat.lt_of_succ_lt_succ hj)
def Q0 (h0 : Heap) (n0 : Nat) (v : Option Value) (h : Heap) (L : List Loc) : Prop := v = some (.int 1) ∧ Fr n0 L
theorem pn_0 : plainName "com/example/bandmark/bandmark/PlainDecimalReadPinLaw" = true := by first | (simp [plainName, overriddenIn]; done) | decide +kernel
theorem ef_0 (m : MethodId) (x0 : Int32) (x1 : Int32) (x2 : Int32) (x3 : Int32) (x4 : Int32) (x5 : Int32) : entryFrame m #[(.int x0), (.int x1), (.int x2), (.int x3), (.int x4), (.int x5)] maxLocals = mkF m 0 #[.val (.int x0), .val (.int x1), .val (.int x2), .val (.int x3), .val (.int x4), .val (.int x5), .unset, .unset, .unset, .unset, .unset, .unset, .unset, .unset, .unset, .unset, .unset, .unset, .unset, .unset, .unset, .unset, .unset, .unset, .unset, .unset, .unset, .unset, .unset, .unset, .unset, .unset, .unset, .unset, .unset, .unset, .unset, .unset, .unset, .unset] [] := by first | (simp [entryFrame, mkF, argsToLocals, Value.category, maxLocals]; done) | rfl
set_option maxRecDepth 65536 in
set_option maxHeartbeats 40000000 in
theorem rm0 (l : Launch) (Z : State) (a0 : Array Value) (hw : ∀ d ∈ tables_1, d.before a0 Z = true) (hwS : ∀ d ∈ Bundle.stringAtoms, d.before a0 Z = true) (hEL : EW Z a0 own_EL) (ws : List Jvm.Cond) (p1 : Int32) (p2 : Int32) (p3 : Int32) (p4 : Int32) (p5 : Int32) (p6 : Int32) (h0 : Heap) (n0 : Nat) (Z0 : n0 ≤ h0.size) (O : Old Z n0 h0) (SWz : own_SW Z Z.heap) :
    MetFree l x (head1 (Jvm.Cond.code x code maxLocals ret :: ws) room_1) (fun a U => a = #[(.int p1), (.int p2), (.int p3), (.int p4), (.int p5), (.int p6)] ∧ Z.Warmed39 U.vm ∧ U.heap = h0 ∧ CHv Z own_EL U.vm h0) (fun _ _ _ _ _ => True) (fun _ U o U' => ∃ v L, o = .returned v ∧ Q0 h0 n0 v U'.heap L ∧ ReturnedEndW U o U' L room_1.cells room_1.slots) := by
  refine MetFree.of_bodySF (plainFor_of_name pn_0) hisR ?_
  intro p e s m args below meth c s₁ Bd hml0 hP hK
  obtain ⟨rfl, hZ, hh, hC⟩ := hP
  have hx := Bd.exec
  have hby := Bd.bytes
  have hml : c.maxLocals = 40 := hml0
  have hown : s.vm.findClass "com/example/bandmark/bandmark/PlainDecimalReadPinLaw" = some m.cls := findClass_of_methodNamed Bd.named
  have hnm := (name_of_methodNamed Bd.named Bd.method).1
  have X0 : Stand p l e room_1 s m #[(.int p1), (.int p2), (.int p3), (.int p4), (.int p5), (.int p6)] below meth c s₁ [] 0 0 := Stand.of_body Bd
  have e0 : s₁.heap = h0 := by rw [← hh, Bd.state]; rfl
  have N0 := Fr.nil n0
  have pre0 : ∀ t, Steps p.tables e below (s₁.setTop (mkF m 0 #[.val (.int p1), .val (.int p2), .val (.int p3), .val (.int p4), .val (.int p5), .val (.int p6), .unset, .unset, .unset, .unset, .unset, .unset, .unset, .unset, .unset, .unset, .unset, .unset, .unset, .unset, .unset, .unset, .unset, .unset, .unset, .unset, .unset, .unset, .unset, .unset, .unset, .unset, .unset, .unset, .unset, .unset, .unset, .unset, .unset, .unset] [])) t → Steps p.tables e below (s₁.setTop (entryFrame m #[(.int p1), (.int p2), (.int p3), (.int p4), (.int p5), (.int p6)] maxLocals)) t := fun t k => castTop (ef_0 m p1 p2 p3 p4 p5 p6) k
  obtain ⟨T1, L1, b6, k6, X1, N1, K1, g6, C1, st1⟩ := own_A p1 p2 p3 p4 p5 (.val (.int p6)) .unset .unset .unset .unset .unset .unset .unset .unset .unset .unset .unset .unset .unset .unset .unset .unset .unset .unset .unset .unset .unset .unset .unset .unset .unset .unset .unset .unset .unset .unset .unset .unset .unset .unset n0 X0 hx hZ hw hby hml hown e0 Z0 N0 One.u
  have Z1 := Nat.le_trans Z0 K1.1
  have O1 := O.keep K1 all0
  obtain ⟨cs, hcsd⟩ : ∃ cs : List Int32, cs = [(nar .char (own_c p1)), (nar .char (own_c p2)), (nar .char (own_c p3)), (nar .char (own_c p4)), (nar .char (own_c p5))] := ⟨_, rfl⟩
  have hbb : ∀ c ∈ [(nar .char (own_c p1)), (nar .char (own_c p2)), (nar .char (own_c p3)), (nar .char (own_c p4)), (nar .char (own_c p5))], ¬ c < 0 ∧ ¬ (65535 : Int32) < c := by
    intro c hc
    simp only [List.mem_cons, List.not_mem_nil, or_false] at hc
    rcases hc with rfl | rfl | rfl | rfl | rfl <;> exact own_crng _
  have hB : ∃ (T' : State) (locs' : List Loc) (b7 : Addr) (kk nn : Nat), Stand p l e room_1 s m #[(.int p1), (.int p2), (.int p3), (.int p4), (.int p5), (.int p6)] below meth c T' locs' kk nn ∧ kk ≤ 5 ∧ nn ≤ 40 ∧ Fr n0 locs' ∧ Keep T1.heap T'.heap [] ∧ own_St Z T'.heap b7 [(nar .char (own_c p1)), (nar .char (own_c p2)), (nar .char (own_c p3)), (nar .char (own_c p4)), (nar .char (own_c p5))] ∧ ∀ target, Steps p.tables e below (T'.setTop (mkF m 52 #[.val (.int p1), .val (.int p2), .val (.int p3), .val (.int p4), .val (.int p5), .val (.int p6), .val (.ref b6), .val (.ref b7), .unset, .unset, .unset, .unset, .unset, .unset, .unset, .unset, .unset, .unset, .unset, .unset, .unset, .unset, .unset, .unset, .unset, .unset, .unset, .unset, .unset, .unset, .unset, .unset, .unset, .unset, .unset, .unset, .unset, .unset, .unset, .unset] [])) target → Steps p.tables e below (T1.setTop (mkF m 41 #[.val (.int p1), .val (.int p2), .val (.int p3), .val (.int p4), .val (.int p5), .val (.int p6), .val (.ref b6), .unset, .unset, .unset, .unset, .unset, .unset, .unset, .unset, .unset, .unset, .unset, .unset, .unset, .unset, .unset, .unset, .unset, .unset, .unset, .unset, .unset, .unset, .unset, .unset, .unset, .unset, .unset, .unset, .unset, .unset, .unset, .unset, .unset] [])) target := by
    by_cases h25 : ∀ c ∈ [(nar .char (own_c p1)), (nar .char (own_c p2)), (nar .char (own_c p3)), (nar .char (own_c p4)), (nar .char (own_c p5))], ¬ (255 : Int32) < c
    · exact own_Bl (.val (.int p1)) (.val (.int p2)) (.val (.int p3)) (.val (.int p4)) (.val (.int p5)) (.val (.int p6)) b6 .unset .unset .unset .unset .unset .unset .unset .unset .unset .unset .unset .unset .unset .unset .unset .unset .unset .unset .unset .unset .unset .unset .unset .unset .unset .unset .unset .unset .unset .unset .unset .unset .unset n0 (nar .char (own_c p1)) (nar .char (own_c p2)) (nar .char (own_c p3)) (nar .char (own_c p4)) (nar .char (own_c p5)) k6 X1 hx hZ hw hby hml hown rfl Z1 N1 hbb C1 O1 SWz h25 One.u
    · obtain ⟨k, hk, hlo, hhi⟩ := own_first _ h25
      exact own_Bw (.val (.int p1)) (.val (.int p2)) (.val (.int p3)) (.val (.int p4)) (.val (.int p5)) (.val (.int p6)) b6 .unset .unset .unset .unset .unset .unset .unset .unset .unset .unset .unset .unset .unset .unset .unset .unset .unset .unset .unset .unset .unset .unset .unset .unset .unset .unset .unset .unset .unset .unset .unset .unset .unset n0 (nar .char (own_c p1)) (nar .char (own_c p2)) (nar .char (own_c p3)) (nar .char (own_c p4)) (nar .char (own_c p5)) k6 X1 hx hZ hw hby hml hown rfl Z1 N1 hbb C1 O1 SWz k hk hlo hhi One.u
  obtain ⟨T2, L2, b7, kk, nn, X2, hkk, hnn, N2, K2, S2, st2⟩ := hB
  have C2 := C1.keep K2 nin0
  have Z2 := Nat.le_trans Z1 K2.1
  have O2 := O1.keep K2 all0
  obtain ⟨a, ha0, ha_⟩ := own_modn p6 6 (by decide)
  have ha6 : a < 6 := by have z : (6 : Int32).toInt = 6 := rfl; omega
  obtain ⟨n, hn0, hn_⟩ := own_modm ((p6.toUInt32 >>> ((8 : Int32) &&& 31).toUInt32).toInt32) ((6 : Int32) - Int32.ofNat a) (by rw [(own_six a ha6).1]; omega)
  obtain ⟨b, hb_⟩ : ∃ b, b = a + n := ⟨_, rfl⟩
  have hab : a ≤ b := by omega
  have hb5 : b ≤ 5 := by rw [(own_six a ha6).1] at hn0; omega
  obtain ⟨T3, X3, e3, st3⟩ := own_C1 (.val (.int p1)) (.val (.int p2)) (.val (.int p3)) (.val (.int p4)) (.val (.int p5)) p6 (.val (.ref b6)) (.val (.ref b7)) .unset .unset .unset .unset .unset .unset .unset .unset .unset .unset .unset .unset .unset .unset .unset .unset .unset .unset .unset .unset .unset .unset .unset .unset .unset .unset .unset .unset .unset .unset .unset .unset X2 hx hZ hw hby hml hown rfl One.u One.u (by decide) (by rw [ha_]; exact (own_six a ha6).2)
  rw [ha_, hn_, ← Int32.ofNat_add, ← hb_] at st3
  have N3 := N2
  rw [← hcsd] at C2 S2
  have hcs : cs.length = 5 := by rw [hcsd]; rfl
  obtain ⟨T4, sg, X4, e4, st4⟩ := own_C (.val (.int p1)) (.val (.int p2)) (.val (.int p3)) (.val (.int p4)) (.val (.int p5)) (.val (.int p6)) (.val (.ref b7)) .unset .unset .unset .unset .unset .unset .unset .unset .unset .unset .unset .unset .unset .unset .unset .unset .unset .unset .unset .unset .unset .unset .unset .unset .unset .unset .unset b6 cs a b k6 X3 hx hZ hw hby hml hown e3 hab hb5 hcs C2
  have N4 := N3
  obtain ⟨T4b, L4b, t13, t14, t15, t16, t17, t18, t19, t20, t21, t22, t23, t24, t25, X4b, N4b, e4b, st4b⟩ := own_D (.val (.int p1)) (.val (.int p2)) (.val (.int p3)) (.val (.int p4)) (.val (.int p5)) (.val (.int p6)) (.val (.ref b7)) (.val (.int (Int32.ofNat a))) (.val (.int (own_b (own_neg (fun j => cs.getD j 0) a b)))) (.val (.int (own_b sg))) .unset .unset .unset .unset .unset .unset .unset .unset .unset .unset b6 cs (own_start (fun j => cs.getD j 0) a b) b k6 n0 X4 hx hZ hw hby hml hown e4 hcs (Nat.lt_of_le_of_lt (by unfold own_start; split <;> omega : (own_start (fun j => cs.getD j 0) a b) ≤ 6) (by decide)) (by omega) C2 Z2 N4 (Nat.le_trans hkk (by decide)) (Nat.le_trans hnn (by decide))
  obtain ⟨T5, L5, b30, X5, N5, K5, g30, P5, st5⟩ := own_G0 (.val (.int p1)) (.val (.int p2)) (.val (.int p3)) (.val (.int p4)) (.val (.int p5)) (.val (.int p6)) (.val (.ref b6)) (.val (.ref b7)) (.val (.int (Int32.ofNat a))) (.val (.int (Int32.ofNat b))) (.val (.int (own_b (own_neg (fun j => cs.getD j 0) a b)))) (.val (.int (own_b sg))) (.val (.int (Int32.ofNat (own_start (fun j => cs.getD j 0) a b)))) t13 t14 t15 t16 t17 t18 t19 t20 t21 t22 t23 t24 t25 (.val (.long (Int64.ofNat (own_sU cs (own_start (fun j => cs.getD j 0) a b) b 5 0)))) .second (.val (.int (Int32.ofNat (own_sS cs (own_start (fun j => cs.getD j 0) a b) b 5 0)))) (.val (.int (own_b (own_vv cs (own_start (fun j => cs.getD j 0) a b) b)))) .unset .unset .unset .unset .unset .unset .unset .unset .unset .unset n0 X4b hx hZ hw hby hml hown e4b Z2 N4b hkk hnn One.u
  have Z5 := Nat.le_trans Z2 K5.1
  have O5 := O2.keep K5 all0
  have hC5 : CHv Z own_EL s.vm T5.heap := ((hC.keep K1 all0).keep K2 all0).keep K5 all0
  obtain ⟨T6, vm6, L6, k6x, h6, X6, S6, hk6, hZ6, hown6, N6, E6, K6, P6, st6⟩ := own_G1 (.val (.int p1)) (.val (.int p2)) (.val (.int p3)) (.val (.int p4)) (.val (.int p5)) (.val (.int p6)) (.val (.ref b6)) (.val (.ref b7)) (.val (.int (Int32.ofNat a))) (.val (.int (Int32.ofNat b))) (.val (.int (own_b (own_neg (fun j => cs.getD j 0) a b)))) (.val (.int (own_b sg))) (.val (.int (Int32.ofNat (own_start (fun j => cs.getD j 0) a b)))) t13 t14 t15 t16 t17 t18 t19 t20 t21 t22 t23 t24 t25 (.val (.long (Int64.ofNat (own_sU cs (own_start (fun j => cs.getD j 0) a b) b 5 0)))) .second (.val (.int (Int32.ofNat (own_sS cs (own_start (fun j => cs.getD j 0) a b) b 5 0)))) (.val (.int (own_b (own_vv cs (own_start (fun j => cs.getD j 0) a b) b)))) .unset .unset .unset .unset .unset .unset .unset .unset b30 n0 _ _ _ X5 hx hZ hw hby hml hown rfl hwS hEL hC5 Z5 N5 (Nat.add_le_add_right hkk 1) (Nat.add_le_add_right hnn 6) P5 g30 (SWz.ext O5.2)
  have O6 := (O5.ext E6).keep K6 (allS g30 all0)
  have S6t := (((S2.keep0 K5)).keep0 ((Keep.refl _ []).ext E6)).keep1 hw K6 (P5.ext E6).1
  obtain ⟨T7, L7, X7, N7, h7, hF⟩ := own_Z (.val (.int p1)) (.val (.int p2)) (.val (.int p3)) (.val (.int p4)) (.val (.int p5)) (.val (.int p6)) (.val (.ref b6)) (.val (.int (own_b sg))) (.val (.int (Int32.ofNat (own_start (fun j => cs.getD j 0) a b)))) t13 t14 t15 t16 t17 t18 t19 t20 t21 t22 t23 t24 t25 b7 b30 cs a b (own_start (fun j => cs.getD j 0) a b) n0 X6 hx hZ6 hw hby hml hown6 rfl hcs hab hb5 rfl ⟨S6t, SWz.ext O6.2⟩ P6 g30 (Nat.le_trans Z5 (Nat.le_trans E6.1 K6.1)) N6 (Nat.le_trans (Nat.add_le_add_right (Nat.add_le_add_right hkk 1) 2) (by decide)) (Nat.le_trans (Nat.add_le_add_right (Nat.add_le_add_right hnn 6) 20) (by decide))
  rcases hF with ⟨fr, st7⟩ | ⟨fr, st7⟩
  · obtain ⟨fs, hr, hrun, hended, hRW⟩ := X7.leaveW (s := s) S6 (Nat.le_trans hk6 h7) (v := some (.int 1)) (fun h => by rw [Bd.returns] at h; cases h)
    refine ⟨_, _, pre0 _ ?_, hrun, hended, _, _, rfl, ?_, ⟨hRW.1, hRW.2.1, hRW.2.2.1, hRW.2.2.2.mono (by show kk + 1 + 2 ≤ 24; omega) (by show nn + 6 + 20 ≤ 1152; omega)⟩⟩
    · refine st1 _ (st2 _ (st3 _ (st4 _ (st4b _ (st5 _ (st6 _ (st7 _ ?_)))))))
      refine XS.iconst X7.here hx rfl (hb hby at_678) ?_
      refine XS.goto X7.here hx rfl (pc0 := 679) (pc' := 683) rfl (hb hby at_679) (by decide) (by decide) ?_
      exact retN X7 hx (t := .boolean) Bd.returns (by simp) (hb hby at_683) hr
    · exact ⟨rfl, N7⟩
  · obtain ⟨fs, hr, hrun, hended, hRW⟩ := X7.leaveW (s := s) S6 (Nat.le_trans hk6 h7) (v := some (.int 1)) (fun h => by rw [Bd.returns] at h; cases h)
    refine ⟨_, _, pre0 _ ?_, hrun, hended, _, _, rfl, ?_, ⟨hRW.1, hRW.2.1, hRW.2.2.1, hRW.2.2.2.mono (by show kk + 1 + 2 ≤ 24; omega) (by show nn + 6 + 20 ≤ 1152; omega)⟩⟩
    · refine st1 _ (st2 _ (st3 _ (st4 _ (st4b _ (st5 _ (st6 _ (st7 _ ?_)))))))
      refine XS.iconst X7.here hx rfl (hb hby at_709) ?_
      refine XS.goto X7.here hx rfl (pc0 := 710) (pc' := 714) rfl (hb hby at_710) (by decide) (by decide) ?_
      exact retN X7 hx (t := .boolean) Bd.returns (by simp) (hb hby at_714) hr
    · exact ⟨rfl, N7⟩
theorem own_eqv {args : Array Value} {s : State} {t : Term} {k : Int32} (h : (Cond.eq t (.int k)).value args s none s [] = some true) : t.eval args s none [] s = some (.int k) := by
  obtain ⟨x, y, hx, hy, k1, k2⟩ := cmp_v (Or.inl h)
  obtain rfl : y = .int k := (Option.some.inj ((Term.int_eval k).symm.trans hy)).symm
  obtain ⟨z, rfl⟩ := k2
  rw [hx]; congr 2
  exact gotT (Cond.eq_ints hx hy) h
theorem own_eqr {args : Array Value} {s : State} {t u : Term} {b : Addr} (h : (Cond.eq t u).value args s none s [] = some true) (hu : u.eval args s none [] s = some (.ref b)) : t.eval args s none [] s = some (.ref b) := by
  obtain ⟨x, y, hx, hy, k1, k2⟩ := cmp_v (Or.inl h)
  obtain rfl : y = .ref b := (Option.some.inj (hu.symm.trans hy)).symm
  rw [hx]; congr 1
  exact gotT (eq_R hx hy k2.2 rfl) h
theorem own_len {args : Array Value} {s : State} {t : Term} {a : Addr} {cl : Cell} {n : Int32} (h : (Term.length t).eval args s none [] s = some (.int n)) (ht : t.eval args s none [] s = some (.ref a)) (hc : s.heap[a]? = some cl) : cl.slots.size = n.toNatClampNeg ∧ ¬ n < 0 := by
  obtain ⟨a', cell, e1, e2, e3⟩ := Term.length_spec h
  cases ht.symm.trans e1
  cases hc.symm.trans (State.arrayAt?_spec e2).1
  have hl : cl.slots.size < 2 ^ 31 := by
    by_cases hn : cl.slots.size < 2147483648
    · exact hn
    · simp [Term.eval, ht, e2, hn] at h
  have q := len_toInt hl
  cases e3
  refine ⟨?_, fun hh => ?_⟩
  · simp only [Int32.toNatClampNeg, q]; rfl
  · rw [Int32.lt_iff_toInt_lt, q] at hh
    have z0 : (0 : Int32).toInt = 0 := by decide
    omega
theorem own_perm : ∀ p ∈ own_EL, p ∈ consts_1 := by decide
theorem own_isRef {args : Array Value} {s : State} {t : Term} (h : (Cond.isRef t).value args s none s [] = some true) : ∃ v, t.eval args s none [] s = some v ∧ v.isRef = true := by
  cases hv : t.eval args s none [] s with
  | none => simp [Cond.value, hv] at h
  | some v => exact ⟨v, rfl, by cases v <;> simp_all [Cond.value, Value.isRef]⟩
set_option maxRecDepth 65536 in
set_option maxHeartbeats 40000000 in
theorem comes_1 {Post : Tables → Env → Array Value → State → Outcome → State → Prop} (hpost : ∀ tb e args s v u, (limb_1_1.after args s (.returned v) u = true ∧ limb_1_2.after args s (.returned v) u = true ∧ True) → ReturnedEndW s (.returned v) u (Jvm.fieldLocs frame_1_writes args s ++ Jvm.arrayLocs frame_1_arrays args s ++ Jvm.staticLocs frame_1_statics s) 24 1152 → Post tb e args s (.returned v) u) :
    ArmFor flags0 classFile x code maxLocals ret World_1 tables_1 room_1 Calls_1 rest_1 Pre_1 Post := by
  intro l hfl _ _ p e ha hc hk s m args below hf hA hF happ hP
  obtain ⟨hcalls, hrest, hpre⟩ := hP
  obtain ⟨-, -, -, hnamed, -, -, -, hat⟩ := (Spec.applies_iff hf).mp happ
  obtain ⟨hg, hn⟩ := and_e (Cond.before_iff.mp (show (Jvm.Cond.and given_1 narrow_1).before args s = true from hpre))
  obtain ⟨g0, r0⟩ := and_e hg
  obtain ⟨g1, r1_⟩ := and_e r0
  obtain ⟨g2, r2_⟩ := and_e r1_
  obtain ⟨g3, r3_⟩ := and_e r2_
  obtain ⟨g4, r4_⟩ := and_e r3_
  obtain ⟨g5, g6⟩ := and_e r4_
  obtain ⟨w0, w1, w2, w3, w4, w5, rfl⟩ : ∃ w0 w1 w2 w3 w4 w5 : Value, args = #[w0, w1, w2, w3, w4, w5] := by
    have hs : args.size = 6 := by simpa [Cond.value, given_1] using g0
    obtain ⟨L⟩ := args
    match L, hs with
    | [w0, w1, w2, w3, w4, w5], _ => exact ⟨w0, w1, w2, w3, w4, w5, rfl⟩
  have hw := fun d (hd : d ∈ tables_1) => atoms_spec (ws := Jvm.Cond.code x code maxLocals ret :: tables_1) hat d (List.mem_cons_of_mem _ hd)
  obtain ⟨hsets, hown0⟩ := atoms_of _ (rest_1_c_eq ▸ (show rest_1_c.before _ s = true from hrest))
  obtain ⟨i0, ei0⟩ := is_v g1
  obtain rfl : w0 = (.int i0) := Option.some.inj ei0
  obtain ⟨i1, ei1⟩ := is_v g2
  obtain rfl : w1 = (.int i1) := Option.some.inj ei1
  obtain ⟨i2, ei2⟩ := is_v g3
  obtain rfl : w2 = (.int i2) := Option.some.inj ei2
  obtain ⟨i3, ei3⟩ := is_v g4
  obtain rfl : w3 = (.int i3) := Option.some.inj ei3
  obtain ⟨i4, ei4⟩ := is_v g5
  obtain rfl : w4 = (.int i4) := Option.some.inj ei4
  obtain ⟨i5, ei5⟩ := is_v g6
  obtain rfl : w5 = (.int i5) := Option.some.inj ei5
  have n5 := not_v (Cond.before_iff.mp (hsets _ (List.mem_of_getElem? (i := 2) rfl)))
  obtain ⟨G1, e9⟩ := is_v (Cond.before_iff.mp (hsets _ (List.mem_of_getElem? (i := 1) rfl)))
  have SCS : Sta s s.heap "java/lang/String" "COMPACT_STRINGS" "Z" (.int G1) := Sta.start e9 (Or.inl (hsets _ (List.mem_of_getElem? (i := 0) rfl)))
  have hcs : ¬ (G1 = (0 : Int32)) := gotF (Cond.eq_ints e9 (Term.int_eval (0))) n5
  obtain ⟨fm, ef, rf⟩ := own_isRef (Cond.before_iff.mp (hsets _ (List.mem_of_getElem? (i := 8) rfl)))
  have SFM : Sta s s.heap "jdk/internal/util/Preconditions" "SIOOBE_FORMATTER" "Ljava/util/function/BiFunction;" fm := Sta.start ef (Or.inl (hsets _ (List.mem_of_getElem? (i := 7) rfl)))
  have SA0 : Sta s s.heap "java/lang/StringUTF16" "$assertionsDisabled" "Z" (.int 1) := Sta.start (own_eqv (Cond.before_iff.mp (hsets _ (List.mem_of_getElem? (i := 12) rfl)))) (Or.inl (hsets _ (List.mem_of_getElem? (i := 11) rfl)))
  have SH0 : Sta s s.heap "java/lang/StringUTF16" "HI_BYTE_SHIFT" "I" (.int 0) := Sta.start (own_eqv (Cond.before_iff.mp (hsets _ (List.mem_of_getElem? (i := 15) rfl)))) (Or.inl (hsets _ (List.mem_of_getElem? (i := 14) rfl)))
  have SL0 : Sta s s.heap "java/lang/StringUTF16" "LO_BYTE_SHIFT" "I" (.int 8) := Sta.start (own_eqv (Cond.before_iff.mp (hsets _ (List.mem_of_getElem? (i := 18) rfl)))) (Or.inl (hsets _ (List.mem_of_getElem? (i := 17) rfl)))
  have hwS : ∀ d ∈ Bundle.stringAtoms, d.before #[(.int i0), (.int i1), (.int i2), (.int i3), (.int i4), (.int i5)] s = true := fun d hd => hw d ((by decide +kernel : ∀ d ∈ Bundle.stringAtoms, d ∈ tables_1) d hd)
  have hEL : EW s #[(.int i0), (.int i1), (.int i2), (.int i3), (.int i4), (.int i5)] own_EL := EW.cons (own_W hw 61 rfl) own_txt.1 EW.nil
  have hCH : CHv s own_EL s.vm s.heap := CHv.start hEL (fun p hp => hcalls.1 p (own_perm p hp)) (hsets _ (List.mem_of_getElem? (i := 2) rfl)) (own_W hw 23 rfl) (own_W hw 6 rfl)
  obtain ⟨n, o, h1, h2, h3, _, L, rfl, ⟨rfl, N⟩, hq⟩ := rm0 l s _ hw hwS hEL tables_1 i0 i1 i2 i3 i4 i5 s.heap s.heap.size (Nat.le_refl _) (Old.start s) ⟨G1, fm, SCS, hcs, SFM, rf, SA0, SH0, SL0⟩ p e ha hc hk s m _ below hf ((Spec.applies_iff_loose hf).mp happ).1 ⟨rfl, State.Warmed39.refl s, rfl, hCH⟩ trivial
  exact ⟨n, _, h1, h2, h3, hpost _ _ _ _ _ _ ⟨Cond.after_iff.mpr rfl, Cond.after_iff.mpr (eq_i res_at (Term.int_eval (1)) rfl), trivial⟩ ⟨hq.1, hq.2.1, hq.2.2.1, (hq.2.2.2.sift fun y hy => Or.inr (N y hy)).mono (by decide) (by decide)⟩⟩
theorem main_1_1 : Claimed_1_1 := comes_1 fun _ _ _ _ _ _ h hF => ⟨h.1, hF⟩
theorem main_1_2 : Claimed_1_2 := comes_1 fun _ _ _ _ _ _ h hF => ⟨h.2.1, hF⟩
end Jvm.Pilot.@@N@@
namespace Jvm.Pilot.@@N@@
open Jvm Jvm.ClassFile Sem Op Lib Jvm.Free Jvm.Stand Jvm.Pilot.@@N@@.Jvm.D
/-! MADE BY PROGRAM (witnessworld.py) out of the Statement's table words and the real class files: 20 classes; the members and pool entries that the words name. The judged class is class 1, her method 8. -/
namespace start1
open Jvm.ClassFile
def u (s : String) : CpInfo := .utf8 (stringToUtf16 s)
/-- a pool by its gaps: so many unusable entries, then the entry; so many at the end -/
def gap : Nat → List CpInfo → List CpInfo
  | 0, r => r
  | n + 1, r => .unusable :: gap n r
def poolList (es : List (Nat × CpInfo)) (last : Nat) : List CpInfo := es.foldr (fun e r => gap e.1 (e.2 :: r)) (gap last [])
def pool (es : List (Nat × CpInfo)) (last : Nat) : Array CpInfo := ⟨poolList es last⟩
def fileOf (pool : Array CpInfo) (this : Nat) (attrs : Array Attribute := #[]) (ms : Array MethodInfo := #[]) (fl : Nat := 33) (sup : Nat := 0) (ifs : Array Nat := #[]) (fds : Array FieldInfo := #[]) : ClassFile where
  minorVersion := 0
  majorVersion := 65
  constantPool := pool
  accessFlags := fl
  thisClass := this
  superClass := sup
  interfaces := ifs
  fields := fds
  methods := ms
  attributes := attrs
def plain (name : String) (sup : Option ClassId) : Class where
  name := name
  kind := .ordinary
  loader := none
  accessFlags := 33
  super := sup
  interfaces := #[]
  cf := none
  fields := #[]
  methods := #[]
  instanceTypes := #[]
  staticTypes := #[]
  resolved := #[]
  callSites := []
  init := .initialized
  statics := none
  mirror := none

def pool0 : Array CpInfo := pool [(5, u "<init>"), (0, u "()V"), (1, .class_ 10), (1, u "java/lang/Object")] 113

def k0c0 : Code := { maxStack := 0, maxLocals := 1, code := object_method_1_code, exceptionTable := #[], attributes := #[] }
def k0m0 : Method := { name := "<init>", desc := "()V", sig := { parameters := [], returnType := none }, accessFlags := 1, code := some k0c0 }
/-- java/lang/Object -/
def k0 : Class := { plain "java/lang/Object" none with
  accessFlags := 33
  interfaces := #[]
  cf := some (fileOf pool0 8 #[] #[{ accessFlags := 1, nameIndex := 5, descriptorIndex := 6, attributes := #[] }] 33 0 #[] #[])
  fields := #[]
  methods := #[k0m0]
  instanceTypes := #[]
  staticTypes := #[]
  resolved := Array.replicate 124 none
  statics := none }

def pool1 : Array CpInfo := pool [(2, .class_ 4), (0, .nameAndType 5 6), (0, u "java/lang/Object"), (0, u "<init>"), (0, u "()V"), (0, .integer 65535), (0, .methodref 9 10), (0, .class_ 11), (0, .nameAndType 12 13), (0, u "com/example/bandmark/bandmark/PlainDecimalReadPinLaw"), (0, u "in"), (0, u "(III)Z"), (0, .methodref 9 15), (0, .nameAndType 16 17), (0, u "dig"), (0, u "([CIII)I"), (0, .long 10), (1, .long 100), (1, .long 1000), (1, .long 10000), (1, .methodref 9 27), (0, .nameAndType 28 29), (0, u "ch"), (0, u "(I)C"), (0, .class_ 31), (0, u "java/lang/String"), (0, .methodref 30 33), (0, .nameAndType 5 34), (0, u "([C)V"), (0, .integer 2147483647), (0, .integer 8388607), (0, .methodref 9 38), (0, .nameAndType 39 17), (0, u "pt"), (0, .methodref 9 41), (0, .nameAndType 42 17), (0, u "bad"), (0, .methodref 9 44), (0, .nameAndType 45 46), (0, u "dv"), (0, u "([CIII)J"), (0, .methodref 9 48), (0, .nameAndType 49 50), (0, u "p10"), (0, u "(I)J"), (0, .class_ 52), (0, u "com/example/bandmark/bandmark/PlainDecimal"), (0, .methodref 51 3), (0, .string 55), (0, u "-1.5"), (0, .methodref 51 57), (0, .nameAndType 58 59), (0, u "read"), (0, u "(Ljava/lang/String;II)Z"), (0, .methodref 51 61), (0, .nameAndType 62 63), (0, u "unscaled"), (0, u "()J"), (0, .methodref 51 65), (0, .nameAndType 66 67), (0, u "scale"), (0, u "()I"), (0, .methodref 51 69), (0, .nameAndType 70 71), (0, u "isNegative"), (0, u "()Z"), (0, .methodref 51 73), (0, .nameAndType 74 71), (0, u "isCompact"), (0, .long 18446744073709551601), (4, u "law"), (0, u "(IIIIII)Z")] 4

def k1m0 : Method := { name := "<init>", desc := "()V", sig := { parameters := [], returnType := none }, accessFlags := 1, code := none }
def k1c1 : Code := { maxStack := 2, maxLocals := 2, code := method_2_code, exceptionTable := #[], attributes := #[] }
def k1m1 : Method := { name := "ch", desc := "(I)C", sig := { parameters := [.int], returnType := some .char }, accessFlags := 10, code := some k1c1 }
def k1c2 : Code := { maxStack := 2, maxLocals := 3, code := method_3_code, exceptionTable := #[], attributes := #[] }
def k1m2 : Method := { name := "in", desc := "(III)Z", sig := { parameters := [.int, .int, .int], returnType := some .boolean }, accessFlags := 10, code := some k1c2 }
def k1c3 : Code := { maxStack := 3, maxLocals := 4, code := method_4_code, exceptionTable := #[], attributes := #[] }
def k1m3 : Method := { name := "dig", desc := "([CIII)I", sig := { parameters := [(.array .char), .int, .int, .int], returnType := some .int }, accessFlags := 10, code := some k1c3 }
def k1c4 : Code := { maxStack := 3, maxLocals := 4, code := method_5_code, exceptionTable := #[], attributes := #[] }
def k1m4 : Method := { name := "pt", desc := "([CIII)I", sig := { parameters := [(.array .char), .int, .int, .int], returnType := some .int }, accessFlags := 10, code := some k1c4 }
def k1c5 : Code := { maxStack := 3, maxLocals := 4, code := method_6_code, exceptionTable := #[], attributes := #[] }
def k1m5 : Method := { name := "bad", desc := "([CIII)I", sig := { parameters := [(.array .char), .int, .int, .int], returnType := some .int }, accessFlags := 10, code := some k1c5 }
def k1c6 : Code := { maxStack := 4, maxLocals := 4, code := method_7_code, exceptionTable := #[], attributes := #[] }
def k1m6 : Method := { name := "dv", desc := "([CIII)J", sig := { parameters := [(.array .char), .int, .int, .int], returnType := some .long }, accessFlags := 10, code := some k1c6 }
def k1c7 : Code := { maxStack := 2, maxLocals := 1, code := method_8_code, exceptionTable := #[], attributes := #[] }
def k1m7 : Method := { name := "p10", desc := "(I)J", sig := { parameters := [.int], returnType := some .long }, accessFlags := 10, code := some k1c7 }
def k1c8 : Code := { maxStack := 6, maxLocals := 40, code := code, exceptionTable := #[], attributes := #[] }
def k1m8 : Method := { name := "law", desc := "(IIIIII)Z", sig := { parameters := [.int, .int, .int, .int, .int, .int], returnType := some .boolean }, accessFlags := 9, code := some k1c8 }
/-- com/example/bandmark/bandmark/PlainDecimalReadPinLaw -/
def k1 : Class := { plain "com/example/bandmark/bandmark/PlainDecimalReadPinLaw" (some 0) with
  accessFlags := 49
  interfaces := #[]
  cf := some (fileOf pool1 9 #[] #[{ accessFlags := 1, nameIndex := 5, descriptorIndex := 6, attributes := #[] }, { accessFlags := 10, nameIndex := 28, descriptorIndex := 29, attributes := #[] }, { accessFlags := 10, nameIndex := 12, descriptorIndex := 13, attributes := #[] }, { accessFlags := 10, nameIndex := 16, descriptorIndex := 17, attributes := #[] }, { accessFlags := 10, nameIndex := 39, descriptorIndex := 17, attributes := #[] }, { accessFlags := 10, nameIndex := 42, descriptorIndex := 17, attributes := #[] }, { accessFlags := 10, nameIndex := 45, descriptorIndex := 46, attributes := #[] }, { accessFlags := 10, nameIndex := 49, descriptorIndex := 50, attributes := #[] }, { accessFlags := 9, nameIndex := 80, descriptorIndex := 81, attributes := #[] }] 49 2 #[] #[])
  fields := #[]
  methods := #[k1m0, k1m1, k1m2, k1m3, k1m4, k1m5, k1m6, k1m7, k1m8]
  instanceTypes := #[]
  staticTypes := #[]
  resolved := Array.replicate 86 none
  statics := none }

def pool2 : Array CpInfo := pool [(1, .class_ 2), (0, u "java/io/Serializable"), (0, .class_ 4), (0, u "java/lang/Object")] 2

/-- java/io/Serializable -/
def k2 : Class := { plain "java/io/Serializable" (some 0) with
  accessFlags := 1537
  interfaces := #[]
  cf := some (fileOf pool2 1 #[] #[] 1537 3 #[] #[])
  fields := #[]
  methods := #[]
  instanceTypes := #[]
  staticTypes := #[]
  resolved := Array.replicate 7 none
  statics := none }

def pool3 : Array CpInfo := pool [(1, .class_ 2), (0, u "java/lang/Comparable"), (0, .class_ 4), (0, u "java/lang/Object")] 7

/-- java/lang/Comparable -/
def k3 : Class := { plain "java/lang/Comparable" (some 0) with
  accessFlags := 1537
  interfaces := #[]
  cf := some (fileOf pool3 1 #[] #[] 1537 3 #[] #[])
  fields := #[]
  methods := #[]
  instanceTypes := #[]
  staticTypes := #[]
  resolved := Array.replicate 12 none
  statics := none }

def pool4 : Array CpInfo := pool [(2, .class_ 4), (1, u "java/lang/CharSequence"), (42, .class_ 48), (0, u "java/lang/CharSequence$1CodePointIterator"), (10, .class_ 60), (0, u "java/lang/CharSequence$1CharIterator"), (5, .class_ 67), (0, u "java/lang/Object")] 63

/-- java/lang/CharSequence -/
def k4 : Class := { plain "java/lang/CharSequence" (some 0) with
  accessFlags := 1537
  interfaces := #[]
  cf := some (fileOf pool4 2 #[.nestMembers #[47, 59]] #[] 1537 66 #[] #[])
  fields := #[]
  methods := #[]
  instanceTypes := #[]
  staticTypes := #[]
  resolved := Array.replicate 131 none
  statics := none }

def pool5 : Array CpInfo := pool [(1, .class_ 2), (0, u "java/lang/constant/Constable"), (0, .class_ 4), (0, u "java/lang/Object")] 6

/-- java/lang/constant/Constable -/
def k5 : Class := { plain "java/lang/constant/Constable" (some 0) with
  accessFlags := 1537
  interfaces := #[]
  cf := some (fileOf pool5 1 #[] #[] 1537 3 #[] #[])
  fields := #[]
  methods := #[]
  instanceTypes := #[]
  staticTypes := #[]
  resolved := Array.replicate 11 none
  statics := none }

def pool6 : Array CpInfo := pool [(1, .class_ 2), (0, u "java/lang/constant/ConstantDesc"), (0, .class_ 4), (0, u "java/lang/Object")] 32

/-- java/lang/constant/ConstantDesc -/
def k6 : Class := { plain "java/lang/constant/ConstantDesc" (some 0) with
  accessFlags := 1537
  interfaces := #[]
  cf := some (fileOf pool6 1 #[] #[] 1537 3 #[] #[])
  fields := #[]
  methods := #[]
  instanceTypes := #[]
  staticTypes := #[]
  resolved := Array.replicate 37 none
  statics := none }

def pool7 : Array CpInfo := pool [(1, .methodref 2 3), (0, .class_ 4), (0, .nameAndType 5 6), (0, u "java/lang/Object"), (0, u "<init>"), (0, u "()V"), (2, .fieldref 10 11), (0, .class_ 12), (0, .nameAndType 13 14), (0, u "java/lang/String"), (0, u "value"), (0, u "[B"), (0, .fieldref 10 16), (0, .nameAndType 17 18), (0, u "coder"), (0, u "B"), (2, u "hash"), (0, u "I"), (2, u "hashIsZero"), (0, u "Z"), (0, .methodref 10 28), (0, .nameAndType 5 29), (0, u "([CIILjava/lang/Void;)V"), (8, .fieldref 10 39), (0, .nameAndType 40 26), (0, u "COMPACT_STRINGS"), (1, .class_ 44), (1, u "java/lang/StringUTF16"), (0, u "compress"), (1, .methodref 42 48), (0, .nameAndType 49 50), (0, u "coderFromArrayLen"), (0, u "([BI)B"), (56, .class_ 109), (1, u "java/lang/StringLatin1"), (32, u "()Z"), (34, .methodref 42 178), (0, .nameAndType 45 179), (0, u "([CII)[B"), (183, u "([BI)C"), (27, u "(II)V"), (35, u "(I)C"), (64, .methodref 10 493), (0, .nameAndType 494 142), (0, u "isLatin1"), (0, .methodref 107 496), (0, .nameAndType 497 363), (0, u "charAt"), (0, .methodref 42 496), (2, u "checkIndex"), (73, .class_ 576), (0, u "java/lang/CharSequence"), (22, u "CASE_INSENSITIVE_ORDER"), (0, u "Ljava/util/Comparator;"), (409, u "([C)V"), (42, .fieldref 1054 1055), (0, .class_ 1056), (0, .nameAndType 1057 1058), (0, u "jdk/internal/util/Preconditions"), (0, u "SIOOBE_FORMATTER"), (0, u "Ljava/util/function/BiFunction;"), (0, .methodref 1054 1060), (0, .nameAndType 501 1061), (0, u "(IILjava/util/function/BiFunction;)I"), (39, u "serialPersistentFields"), (0, u "[Ljava/io/ObjectStreamField;"), (0, .class_ 1104), (0, u "java/lang/String$CaseInsensitiveComparator"), (1, .class_ 1107), (0, u "java/io/Serializable"), (0, .class_ 1109), (0, u "java/lang/Comparable"), (0, .class_ 1111), (0, u "java/lang/constant/Constable"), (0, .class_ 1113), (0, u "java/lang/constant/ConstantDesc"), (2, u "serialVersionUID"), (0, u "J"), (3, u "REPL"), (0, u "C"), (2, u "LATIN1"), (1, u "UTF16")] 323

def k7m0 : Method := { name := "<init>", desc := "()V", sig := { parameters := [], returnType := none }, accessFlags := 1, code := none }
def k7c1 : Code := { maxStack := 5, maxLocals := 2, code := jdk_42_method_3_code, exceptionTable := #[], attributes := #[] }
def k7m1 : Method := { name := "<init>", desc := "([C)V", sig := { parameters := [(.array .char)], returnType := none }, accessFlags := 1, code := some k7c1 }
def k7c2 : Code := { maxStack := 2, maxLocals := 2, code := jdk_42_method_56_code, exceptionTable := #[], attributes := #[] }
def k7m2 : Method := { name := "charAt", desc := "(I)C", sig := { parameters := [.int], returnType := some .char }, accessFlags := 1, code := some k7c2 }
def k7c3 : Code := { maxStack := 4, maxLocals := 6, code := jdk_42_method_149_code, exceptionTable := #[], attributes := #[] }
def k7m3 : Method := { name := "<init>", desc := "([CIILjava/lang/Void;)V", sig := { parameters := [(.array .char), .int, .int, (.object "java/lang/Void")], returnType := none }, accessFlags := 2, code := some k7c3 }
def k7c4 : Code := { maxStack := 1, maxLocals := 1, code := jdk_42_method_154_code, exceptionTable := #[], attributes := #[] }
def k7m4 : Method := { name := "isLatin1", desc := "()Z", sig := { parameters := [], returnType := some .boolean }, accessFlags := 0, code := some k7c4 }
def k7c5 : Code := { maxStack := 3, maxLocals := 2, code := jdk_42_method_155_code, exceptionTable := #[], attributes := #[] }
def k7m5 : Method := { name := "checkIndex", desc := "(II)V", sig := { parameters := [.int, .int], returnType := none }, accessFlags := 8, code := some k7c5 }
/-- java/lang/String -/
def k7 : Class := { plain "java/lang/String" (some 0) with
  accessFlags := 49
  interfaces := #[2, 3, 4, 5, 6]
  cf := some (fileOf pool7 10 #[.nestMembers #[1103]] #[{ accessFlags := 1, nameIndex := 5, descriptorIndex := 6, attributes := #[] }, { accessFlags := 1, nameIndex := 5, descriptorIndex := 1010, attributes := #[] }, { accessFlags := 1, nameIndex := 497, descriptorIndex := 427, attributes := #[] }, { accessFlags := 2, nameIndex := 5, descriptorIndex := 29, attributes := #[] }, { accessFlags := 0, nameIndex := 494, descriptorIndex := 142, attributes := #[] }, { accessFlags := 8, nameIndex := 501, descriptorIndex := 391, attributes := #[] }] 49 2 #[1106, 1108, 575, 1110, 1112] #[{ accessFlags := 18, nameIndex := 13, descriptorIndex := 14, attributes := #[] }, { accessFlags := 18, nameIndex := 17, descriptorIndex := 18, attributes := #[] }, { accessFlags := 2, nameIndex := 21, descriptorIndex := 22, attributes := #[] }, { accessFlags := 2, nameIndex := 25, descriptorIndex := 26, attributes := #[] }, { accessFlags := 26, nameIndex := 1116, descriptorIndex := 1117, attributes := #[] }, { accessFlags := 24, nameIndex := 40, descriptorIndex := 26, attributes := #[] }, { accessFlags := 26, nameIndex := 1101, descriptorIndex := 1102, attributes := #[] }, { accessFlags := 26, nameIndex := 1121, descriptorIndex := 1122, attributes := #[] }, { accessFlags := 25, nameIndex := 599, descriptorIndex := 600, attributes := #[] }, { accessFlags := 24, nameIndex := 1125, descriptorIndex := 18, attributes := #[] }, { accessFlags := 24, nameIndex := 1127, descriptorIndex := 18, attributes := #[] }])
  fields := #[{ name := "value", type := (.array .byte), accessFlags := 18, slot := 0, constantValue := 0 }, { name := "coder", type := .byte, accessFlags := 18, slot := 1, constantValue := 0 }, { name := "hash", type := .int, accessFlags := 2, slot := 2, constantValue := 0 }, { name := "hashIsZero", type := .boolean, accessFlags := 2, slot := 3, constantValue := 0 }, { name := "serialVersionUID", type := .long, accessFlags := 26, slot := 0, constantValue := 0 }, { name := "COMPACT_STRINGS", type := .boolean, accessFlags := 24, slot := 1, constantValue := 0 }, { name := "serialPersistentFields", type := (.array (.object "java/io/ObjectStreamField")), accessFlags := 26, slot := 2, constantValue := 0 }, { name := "REPL", type := .char, accessFlags := 26, slot := 3, constantValue := 0 }, { name := "CASE_INSENSITIVE_ORDER", type := (.object "java/util/Comparator"), accessFlags := 25, slot := 4, constantValue := 0 }, { name := "LATIN1", type := .byte, accessFlags := 24, slot := 5, constantValue := 0 }, { name := "UTF16", type := .byte, accessFlags := 24, slot := 6, constantValue := 0 }]
  methods := #[k7m0, k7m1, k7m2, k7m3, k7m4, k7m5]
  instanceTypes := #[(.array .byte), .byte, .int, .boolean]
  staticTypes := #[.long, .boolean, (.array (.object "java/io/ObjectStreamField")), .char, (.object "java/util/Comparator"), .byte, .byte]
  resolved := Array.replicate 1451 none
  statics := some 0 }

def pool8 : Array CpInfo := pool [(3, .class_ 4), (0, u "java/lang/String"), (1, .class_ 8), (1, u "java/lang/Object"), (0, u "<init>"), (0, u "()V"), (0, .methodref 12 13), (0, .class_ 14), (0, .nameAndType 15 16), (0, u "java/lang/StringUTF16"), (0, u "newBytesLength"), (0, u "(I)I"), (3, .integer 1073741823), (23, .fieldref 12 45), (0, .nameAndType 46 47), (0, u "$assertionsDisabled"), (0, u "Z"), (0, .methodref 12 49), (0, .nameAndType 50 51), (0, u "length"), (0, u "([B)I"), (7, .fieldref 12 60), (0, .nameAndType 61 62), (0, u "HI_BYTE_SHIFT"), (0, u "I"), (0, .fieldref 12 64), (0, .nameAndType 65 62), (0, u "LO_BYTE_SHIFT"), (1, .methodref 12 68), (0, .nameAndType 69 70), (0, u "checkIndex"), (0, u "(I[B)V"), (0, .methodref 12 72), (0, .nameAndType 73 74), (0, u "getChar"), (0, u "([BI)C"), (32, .methodref 12 108), (0, .nameAndType 109 110), (0, u "newBytesFor"), (0, u "(I)[B"), (0, .methodref 12 112), (0, .nameAndType 113 114), (0, u "putChar"), (0, u "([BII)V"), (0, .methodref 12 116), (0, .nameAndType 117 118), (0, u "compress"), (0, u "([CI[BII)I"), (0, .methodref 12 120), (0, .nameAndType 121 122), (0, u "toBytes"), (0, u "([CII)[B"), (138, u "coderFromArrayLen"), (0, u "([BI)B"), (106, .class_ 371), (1, u "java/lang/StringUTF16$LinesSpliterator"), (20, u "charAt"), (21, .methodref 3 415), (0, .nameAndType 69 416), (0, u "(II)V"), (13, u "MAX_LENGTH"), (196, .class_ 628), (0, u "java/lang/StringUTF16$CodePointsSpliterator"), (0, .class_ 630), (0, u "java/lang/StringUTF16$CharsSpliterator")] 4

def k8m0 : Method := { name := "<init>", desc := "()V", sig := { parameters := [], returnType := none }, accessFlags := 0, code := none }
def k8c1 : Code := { maxStack := 1, maxLocals := 1, code := jdk_52_method_2_code, exceptionTable := #[], attributes := #[] }
def k8m1 : Method := { name := "newBytesFor", desc := "(I)[B", sig := { parameters := [.int], returnType := some (.array .byte) }, accessFlags := 9, code := some k8c1 }
def k8c2 : Code := { maxStack := 4, maxLocals := 1, code := jdk_52_method_3_code, exceptionTable := #[], attributes := #[] }
def k8m2 : Method := { name := "newBytesLength", desc := "(I)I", sig := { parameters := [.int], returnType := some .int }, accessFlags := 9, code := some k8c2 }
def k8c3 : Code := { maxStack := 4, maxLocals := 3, code := jdk_52_method_4_code, exceptionTable := #[], attributes := #[] }
def k8m3 : Method := { name := "putChar", desc := "([BII)V", sig := { parameters := [(.array .byte), .int, .int], returnType := none }, accessFlags := 8, code := some k8c3 }
def k8c4 : Code := { maxStack := 3, maxLocals := 2, code := jdk_52_method_5_code, exceptionTable := #[], attributes := #[] }
def k8m4 : Method := { name := "getChar", desc := "([BI)C", sig := { parameters := [(.array .byte), .int], returnType := some .char }, accessFlags := 8, code := some k8c4 }
def k8c5 : Code := { maxStack := 2, maxLocals := 1, code := jdk_52_method_6_code, exceptionTable := #[], attributes := #[] }
def k8m5 : Method := { name := "length", desc := "([B)I", sig := { parameters := [(.array .byte)], returnType := some .int }, accessFlags := 9, code := some k8c5 }
def k8c6 : Code := { maxStack := 4, maxLocals := 5, code := jdk_52_method_14_code, exceptionTable := #[], attributes := #[] }
def k8m6 : Method := { name := "toBytes", desc := "([CII)[B", sig := { parameters := [(.array .char), .int, .int], returnType := some (.array .byte) }, accessFlags := 9, code := some k8c6 }
def k8c7 : Code := { maxStack := 2, maxLocals := 2, code := jdk_52_method_15_code, exceptionTable := #[], attributes := #[] }
def k8m7 : Method := { name := "coderFromArrayLen", desc := "([BI)B", sig := { parameters := [(.array .byte), .int], returnType := some .byte }, accessFlags := 8, code := some k8c7 }
def k8c8 : Code := { maxStack := 5, maxLocals := 6, code := jdk_52_method_16_code, exceptionTable := #[], attributes := #[] }
def k8m8 : Method := { name := "compress", desc := "([CII)[B", sig := { parameters := [(.array .char), .int, .int], returnType := some (.array .byte) }, accessFlags := 9, code := some k8c8 }
def k8c9 : Code := { maxStack := 3, maxLocals := 7, code := jdk_52_method_21_code, exceptionTable := #[], attributes := #[] }
def k8m9 : Method := { name := "compress", desc := "([CI[BII)I", sig := { parameters := [(.array .char), .int, (.array .byte), .int, .int], returnType := some .int }, accessFlags := 9, code := some k8c9 }
def k8c10 : Code := { maxStack := 2, maxLocals := 2, code := jdk_52_method_83_code, exceptionTable := #[], attributes := #[] }
def k8m10 : Method := { name := "charAt", desc := "([BI)C", sig := { parameters := [(.array .byte), .int], returnType := some .char }, accessFlags := 9, code := some k8c10 }
def k8c11 : Code := { maxStack := 2, maxLocals := 2, code := jdk_52_method_91_code, exceptionTable := #[], attributes := #[] }
def k8m11 : Method := { name := "checkIndex", desc := "(I[B)V", sig := { parameters := [.int, (.array .byte)], returnType := none }, accessFlags := 9, code := some k8c11 }
/-- java/lang/StringUTF16 -/
def k8 : Class := { plain "java/lang/StringUTF16" (some 0) with
  accessFlags := 48
  interfaces := #[]
  cf := some (fileOf pool8 12 #[.nestMembers #[627, 629, 369]] #[{ accessFlags := 0, nameIndex := 9, descriptorIndex := 10, attributes := #[] }, { accessFlags := 9, nameIndex := 109, descriptorIndex := 110, attributes := #[] }, { accessFlags := 9, nameIndex := 15, descriptorIndex := 16, attributes := #[] }, { accessFlags := 8, nameIndex := 113, descriptorIndex := 114, attributes := #[] }, { accessFlags := 8, nameIndex := 73, descriptorIndex := 74, attributes := #[] }, { accessFlags := 9, nameIndex := 50, descriptorIndex := 51, attributes := #[] }, { accessFlags := 9, nameIndex := 121, descriptorIndex := 122, attributes := #[] }, { accessFlags := 8, nameIndex := 261, descriptorIndex := 262, attributes := #[] }, { accessFlags := 9, nameIndex := 117, descriptorIndex := 122, attributes := #[] }, { accessFlags := 9, nameIndex := 117, descriptorIndex := 118, attributes := #[] }, { accessFlags := 9, nameIndex := 392, descriptorIndex := 74, attributes := #[] }, { accessFlags := 9, nameIndex := 69, descriptorIndex := 70, attributes := #[] }] 48 6 #[] #[{ accessFlags := 26, nameIndex := 61, descriptorIndex := 62, attributes := #[] }, { accessFlags := 26, nameIndex := 65, descriptorIndex := 62, attributes := #[] }, { accessFlags := 24, nameIndex := 430, descriptorIndex := 62, attributes := #[] }, { accessFlags := 4120, nameIndex := 46, descriptorIndex := 47, attributes := #[] }])
  fields := #[{ name := "HI_BYTE_SHIFT", type := .int, accessFlags := 26, slot := 0, constantValue := 0 }, { name := "LO_BYTE_SHIFT", type := .int, accessFlags := 26, slot := 1, constantValue := 0 }, { name := "MAX_LENGTH", type := .int, accessFlags := 24, slot := 2, constantValue := 0 }, { name := "$assertionsDisabled", type := .boolean, accessFlags := 4120, slot := 3, constantValue := 0 }]
  methods := #[k8m0, k8m1, k8m2, k8m3, k8m4, k8m5, k8m6, k8m7, k8m8, k8m9, k8m10, k8m11]
  instanceTypes := #[]
  staticTypes := #[.int, .int, .int, .boolean]
  resolved := Array.replicate 635 none
  statics := some 1 }

def pool9 : Array CpInfo := pool [(1, .methodref 2 3), (0, .class_ 4), (0, .nameAndType 5 6), (0, u "java/lang/Object"), (0, u "<init>"), (0, u "()V"), (0, .methodref 8 9), (0, .class_ 10), (0, .nameAndType 11 12), (0, u "java/lang/String"), (0, u "charAt"), (0, u "(I)C"), (0, .long 10), (1, .fieldref 16 17), (0, .class_ 18), (0, .nameAndType 19 20), (0, u "com/example/bandmark/bandmark/PlainDecimal"), (0, u "text"), (0, u "Ljava/lang/String;"), (0, .fieldref 16 22), (0, .nameAndType 23 24), (0, u "from"), (0, u "I"), (0, .fieldref 16 26), (0, .nameAndType 27 24), (0, u "to"), (0, .fieldref 16 29), (0, .nameAndType 30 31), (0, u "unscaled"), (0, u "J"), (0, .fieldref 16 33), (0, .nameAndType 34 24), (0, u "scale"), (0, .fieldref 16 36), (0, .nameAndType 37 24), (0, u "digits"), (0, .methodref 16 39), (0, .nameAndType 40 41), (0, u "isCompact"), (0, u "()Z"), (9, u "()I"), (11, u "LONG_DIGITS"), (4, u "read"), (0, u "(Ljava/lang/String;II)Z"), (1, u "()J"), (0, u "isNegative")] 2

def k9c0 : Code := { maxStack := 1, maxLocals := 1, code := prog_8_method_1_code, exceptionTable := #[], attributes := #[] }
def k9m0 : Method := { name := "<init>", desc := "()V", sig := { parameters := [], returnType := none }, accessFlags := 0, code := some k9c0 }
def k9c1 : Code := { maxStack := 4, maxLocals := 12, code := prog_8_method_2_code, exceptionTable := #[], attributes := #[] }
def k9m1 : Method := { name := "read", desc := "(Ljava/lang/String;II)Z", sig := { parameters := [(.object "java/lang/String"), .int, .int], returnType := some .boolean }, accessFlags := 0, code := some k9c1 }
def k9c2 : Code := { maxStack := 2, maxLocals := 1, code := prog_8_method_3_code, exceptionTable := #[], attributes := #[] }
def k9m2 : Method := { name := "isCompact", desc := "()Z", sig := { parameters := [], returnType := some .boolean }, accessFlags := 0, code := some k9c2 }
def k9c3 : Code := { maxStack := 2, maxLocals := 1, code := prog_8_method_4_code, exceptionTable := #[], attributes := #[] }
def k9m3 : Method := { name := "unscaled", desc := "()J", sig := { parameters := [], returnType := some .long }, accessFlags := 0, code := some k9c3 }
def k9c4 : Code := { maxStack := 1, maxLocals := 1, code := prog_8_method_5_code, exceptionTable := #[], attributes := #[] }
def k9m4 : Method := { name := "scale", desc := "()I", sig := { parameters := [], returnType := some .int }, accessFlags := 0, code := some k9c4 }
def k9c5 : Code := { maxStack := 4, maxLocals := 2, code := prog_8_method_6_code, exceptionTable := #[], attributes := #[] }
def k9m5 : Method := { name := "isNegative", desc := "()Z", sig := { parameters := [], returnType := some .boolean }, accessFlags := 0, code := some k9c5 }
/-- com/example/bandmark/bandmark/PlainDecimal -/
def k9 : Class := { plain "com/example/bandmark/bandmark/PlainDecimal" (some 0) with
  accessFlags := 48
  interfaces := #[]
  cf := some (fileOf pool9 16 #[] #[{ accessFlags := 0, nameIndex := 5, descriptorIndex := 6, attributes := #[] }, { accessFlags := 0, nameIndex := 68, descriptorIndex := 69, attributes := #[] }, { accessFlags := 0, nameIndex := 40, descriptorIndex := 41, attributes := #[] }, { accessFlags := 0, nameIndex := 30, descriptorIndex := 71, attributes := #[] }, { accessFlags := 0, nameIndex := 34, descriptorIndex := 51, attributes := #[] }, { accessFlags := 0, nameIndex := 72, descriptorIndex := 41, attributes := #[] }] 48 2 #[] #[{ accessFlags := 24, nameIndex := 63, descriptorIndex := 24, attributes := #[] }, { accessFlags := 2, nameIndex := 19, descriptorIndex := 20, attributes := #[] }, { accessFlags := 2, nameIndex := 23, descriptorIndex := 24, attributes := #[] }, { accessFlags := 2, nameIndex := 27, descriptorIndex := 24, attributes := #[] }, { accessFlags := 2, nameIndex := 30, descriptorIndex := 31, attributes := #[] }, { accessFlags := 2, nameIndex := 34, descriptorIndex := 24, attributes := #[] }, { accessFlags := 2, nameIndex := 37, descriptorIndex := 24, attributes := #[] }])
  fields := #[{ name := "LONG_DIGITS", type := .int, accessFlags := 24, slot := 0, constantValue := 0 }, { name := "text", type := (.object "java/lang/String"), accessFlags := 2, slot := 0, constantValue := 0 }, { name := "from", type := .int, accessFlags := 2, slot := 1, constantValue := 0 }, { name := "to", type := .int, accessFlags := 2, slot := 2, constantValue := 0 }, { name := "unscaled", type := .long, accessFlags := 2, slot := 3, constantValue := 0 }, { name := "scale", type := .int, accessFlags := 2, slot := 4, constantValue := 0 }, { name := "digits", type := .int, accessFlags := 2, slot := 5, constantValue := 0 }]
  methods := #[k9m0, k9m1, k9m2, k9m3, k9m4, k9m5]
  instanceTypes := #[(.object "java/lang/String"), .int, .int, .long, .int, .int]
  staticTypes := #[.int]
  resolved := Array.replicate 75 none
  statics := none }

def pool10 : Array CpInfo := pool [(1, .class_ 2), (0, u "java/lang/String"), (1, .class_ 6), (1, u "java/lang/Object"), (0, u "<init>"), (0, u "()V"), (0, .methodref 1 10), (0, .nameAndType 11 12), (0, u "checkIndex"), (0, u "(II)V"), (1, .class_ 16), (1, u "java/lang/StringLatin1"), (36, u "([BI)C"), (67, u "$assertionsDisabled"), (0, u "Z"), (98, .class_ 223), (1, u "java/lang/StringLatin1$LinesSpliterator"), (28, u "charAt"), (137, .class_ 391), (0, u "java/lang/StringLatin1$CharsSpliterator")] 3

def k10m0 : Method := { name := "<init>", desc := "()V", sig := { parameters := [], returnType := none }, accessFlags := 0, code := none }
def k10c1 : Code := { maxStack := 2, maxLocals := 2, code := jdk_43_method_2_code, exceptionTable := #[], attributes := #[] }
def k10m1 : Method := { name := "charAt", desc := "([BI)C", sig := { parameters := [(.array .byte), .int], returnType := some .char }, accessFlags := 9, code := some k10c1 }
/-- java/lang/StringLatin1 -/
def k10 : Class := { plain "java/lang/StringLatin1" (some 0) with
  accessFlags := 48
  interfaces := #[]
  cf := some (fileOf pool10 14 #[.nestMembers #[390, 221]] #[{ accessFlags := 0, nameIndex := 7, descriptorIndex := 8, attributes := #[] }, { accessFlags := 9, nameIndex := 252, descriptorIndex := 53, attributes := #[] }] 48 4 #[] #[{ accessFlags := 4120, nameIndex := 121, descriptorIndex := 122, attributes := #[] }])
  fields := #[{ name := "$assertionsDisabled", type := .boolean, accessFlags := 4120, slot := 0, constantValue := 0 }]
  methods := #[k10m0, k10m1]
  instanceTypes := #[]
  staticTypes := #[.boolean]
  resolved := Array.replicate 395 none
  statics := none }

def pool11 : Array CpInfo := pool [(2, .class_ 4), (1, u "java/lang/Object"), (0, u "<init>"), (0, u "()V"), (17, .class_ 26), (1, u "jdk/internal/util/Preconditions"), (6, u "checkIndex"), (21, .class_ 56), (0, u "jdk/internal/util/Preconditions$4"), (57, .class_ 115), (0, u "jdk/internal/util/Preconditions$1"), (7, u "SIOOBE_FORMATTER"), (0, u "Ljava/util/function/BiFunction;"), (0, .class_ 126), (0, u "jdk/internal/util/Preconditions$2"), (3, u "AIOOBE_FORMATTER"), (0, .class_ 132), (0, u "jdk/internal/util/Preconditions$3"), (3, u "IOOBE_FORMATTER"), (41, u "(IILjava/util/function/BiFunction;)I")] 15

def k11m0 : Method := { name := "<init>", desc := "()V", sig := { parameters := [], returnType := none }, accessFlags := 1, code := none }
def k11c1 : Code := { maxStack := 3, maxLocals := 3, code := jdk_41_method_11_code, exceptionTable := #[], attributes := #[] }
def k11m1 : Method := { name := "checkIndex", desc := "(IILjava/util/function/BiFunction;)I", sig := { parameters := [.int, .int, (.object "java/util/function/BiFunction")], returnType := some .int }, accessFlags := 9, code := some k11c1 }
/-- jdk/internal/util/Preconditions -/
def k11 : Class := { plain "jdk/internal/util/Preconditions" (some 0) with
  accessFlags := 33
  interfaces := #[]
  cf := some (fileOf pool11 24 #[.nestMembers #[55, 131, 125, 114]] #[{ accessFlags := 1, nameIndex := 5, descriptorIndex := 6, attributes := #[] }, { accessFlags := 9, nameIndex := 33, descriptorIndex := 178, attributes := #[] }] 33 2 #[] #[{ accessFlags := 25, nameIndex := 123, descriptorIndex := 124, attributes := #[] }, { accessFlags := 25, nameIndex := 130, descriptorIndex := 124, attributes := #[] }, { accessFlags := 25, nameIndex := 136, descriptorIndex := 124, attributes := #[] }])
  fields := #[{ name := "SIOOBE_FORMATTER", type := (.object "java/util/function/BiFunction"), accessFlags := 25, slot := 0, constantValue := 0 }, { name := "AIOOBE_FORMATTER", type := (.object "java/util/function/BiFunction"), accessFlags := 25, slot := 1, constantValue := 0 }, { name := "IOOBE_FORMATTER", type := (.object "java/util/function/BiFunction"), accessFlags := 25, slot := 2, constantValue := 0 }]
  methods := #[k11m0, k11m1]
  instanceTypes := #[]
  staticTypes := #[(.object "java/util/function/BiFunction"), (.object "java/util/function/BiFunction"), (.object "java/util/function/BiFunction")]
  resolved := Array.replicate 194 none
  statics := some 2 }

def pool12 : Array CpInfo := pool [(9, u "<init>"), (6, .class_ 18), (1, u "java/lang/Object"), (0, u "()V"), (1, .class_ 23), (1, u "jdk/internal/util/ArraysSupport"), (0, u "LOG2_ARRAY_LONG_INDEX_SCALE"), (0, u "I"), (2, u "U"), (0, u "Ljdk/internal/misc/Unsafe;"), (8, u "BIG_ENDIAN"), (0, u "Z"), (8, u "LOG2_BYTE_BIT_SIZE"), (4, u "LOG2_ARRAY_INT_INDEX_SCALE"), (54, u "JLA"), (0, u "Ljdk/internal/access/JavaLangAccess;"), (11, u "LOG2_ARRAY_BOOLEAN_INDEX_SCALE"), (9, u "LOG2_ARRAY_BYTE_INDEX_SCALE"), (5, u "LOG2_ARRAY_CHAR_INDEX_SCALE"), (5, u "LOG2_ARRAY_SHORT_INDEX_SCALE"), (18, u "LOG2_ARRAY_FLOAT_INDEX_SCALE"), (24, u "LOG2_ARRAY_DOUBLE_INDEX_SCALE"), (89, u "T_BOOLEAN"), (2, u "T_CHAR"), (1, u "T_FLOAT"), (1, u "T_DOUBLE"), (1, u "T_BYTE"), (1, u "T_SHORT"), (1, u "T_INT"), (1, u "T_LONG"), (1, u "SOFT_MAX_ARRAY_LENGTH")] 83

def k12m0 : Method := { name := "<init>", desc := "()V", sig := { parameters := [], returnType := none }, accessFlags := 2, code := none }
/-- jdk/internal/util/ArraysSupport -/
def k12 : Class := { plain "jdk/internal/util/ArraysSupport" (some 0) with
  accessFlags := 33
  interfaces := #[]
  cf := some (fileOf pool12 21 #[] #[{ accessFlags := 2, nameIndex := 9, descriptorIndex := 19, attributes := #[] }] 33 16 #[] #[{ accessFlags := 24, nameIndex := 28, descriptorIndex := 29, attributes := #[] }, { accessFlags := 26, nameIndex := 38, descriptorIndex := 39, attributes := #[] }, { accessFlags := 25, nameIndex := 121, descriptorIndex := 25, attributes := #[] }, { accessFlags := 25, nameIndex := 131, descriptorIndex := 25, attributes := #[] }, { accessFlags := 25, nameIndex := 137, descriptorIndex := 25, attributes := #[] }, { accessFlags := 25, nameIndex := 143, descriptorIndex := 25, attributes := #[] }, { accessFlags := 25, nameIndex := 53, descriptorIndex := 25, attributes := #[] }, { accessFlags := 25, nameIndex := 24, descriptorIndex := 25, attributes := #[] }, { accessFlags := 25, nameIndex := 162, descriptorIndex := 25, attributes := #[] }, { accessFlags := 25, nameIndex := 187, descriptorIndex := 25, attributes := #[] }, { accessFlags := 26, nameIndex := 48, descriptorIndex := 25, attributes := #[] }, { accessFlags := 25, nameIndex := 277, descriptorIndex := 25, attributes := #[] }, { accessFlags := 25, nameIndex := 280, descriptorIndex := 25, attributes := #[] }, { accessFlags := 25, nameIndex := 282, descriptorIndex := 25, attributes := #[] }, { accessFlags := 25, nameIndex := 284, descriptorIndex := 25, attributes := #[] }, { accessFlags := 25, nameIndex := 286, descriptorIndex := 25, attributes := #[] }, { accessFlags := 25, nameIndex := 288, descriptorIndex := 25, attributes := #[] }, { accessFlags := 25, nameIndex := 290, descriptorIndex := 25, attributes := #[] }, { accessFlags := 25, nameIndex := 292, descriptorIndex := 25, attributes := #[] }, { accessFlags := 26, nameIndex := 108, descriptorIndex := 109, attributes := #[] }, { accessFlags := 25, nameIndex := 294, descriptorIndex := 25, attributes := #[] }])
  fields := #[{ name := "U", type := (.object "jdk/internal/misc/Unsafe"), accessFlags := 24, slot := 0, constantValue := 0 }, { name := "BIG_ENDIAN", type := .boolean, accessFlags := 26, slot := 1, constantValue := 0 }, { name := "LOG2_ARRAY_BOOLEAN_INDEX_SCALE", type := .int, accessFlags := 25, slot := 2, constantValue := 0 }, { name := "LOG2_ARRAY_BYTE_INDEX_SCALE", type := .int, accessFlags := 25, slot := 3, constantValue := 0 }, { name := "LOG2_ARRAY_CHAR_INDEX_SCALE", type := .int, accessFlags := 25, slot := 4, constantValue := 0 }, { name := "LOG2_ARRAY_SHORT_INDEX_SCALE", type := .int, accessFlags := 25, slot := 5, constantValue := 0 }, { name := "LOG2_ARRAY_INT_INDEX_SCALE", type := .int, accessFlags := 25, slot := 6, constantValue := 0 }, { name := "LOG2_ARRAY_LONG_INDEX_SCALE", type := .int, accessFlags := 25, slot := 7, constantValue := 0 }, { name := "LOG2_ARRAY_FLOAT_INDEX_SCALE", type := .int, accessFlags := 25, slot := 8, constantValue := 0 }, { name := "LOG2_ARRAY_DOUBLE_INDEX_SCALE", type := .int, accessFlags := 25, slot := 9, constantValue := 0 }, { name := "LOG2_BYTE_BIT_SIZE", type := .int, accessFlags := 26, slot := 10, constantValue := 0 }, { name := "T_BOOLEAN", type := .int, accessFlags := 25, slot := 11, constantValue := 0 }, { name := "T_CHAR", type := .int, accessFlags := 25, slot := 12, constantValue := 0 }, { name := "T_FLOAT", type := .int, accessFlags := 25, slot := 13, constantValue := 0 }, { name := "T_DOUBLE", type := .int, accessFlags := 25, slot := 14, constantValue := 0 }, { name := "T_BYTE", type := .int, accessFlags := 25, slot := 15, constantValue := 0 }, { name := "T_SHORT", type := .int, accessFlags := 25, slot := 16, constantValue := 0 }, { name := "T_INT", type := .int, accessFlags := 25, slot := 17, constantValue := 0 }, { name := "T_LONG", type := .int, accessFlags := 25, slot := 18, constantValue := 0 }, { name := "JLA", type := (.object "jdk/internal/access/JavaLangAccess"), accessFlags := 26, slot := 19, constantValue := 0 }, { name := "SOFT_MAX_ARRAY_LENGTH", type := .int, accessFlags := 25, slot := 20, constantValue := 0 }]
  methods := #[k12m0]
  instanceTypes := #[]
  staticTypes := #[(.object "jdk/internal/misc/Unsafe"), .boolean, .int, .int, .int, .int, .int, .int, .int, .int, .int, .int, .int, .int, .int, .int, .int, .int, .int, (.object "jdk/internal/access/JavaLangAccess"), .int]
  resolved := Array.replicate 378 none
  statics := none }

def pool13 : Array CpInfo := pool [(1, u "java/lang/Cloneable"), (0, .class_ 1), (0, u "java/lang/Object"), (0, .class_ 3)] 3

/-- java/lang/Cloneable -/
def k13 : Class := { plain "java/lang/Cloneable" (some 0) with
  accessFlags := 1537
  interfaces := #[]
  cf := some (fileOf pool13 2 #[] #[] 1537 4 #[] #[])
  fields := #[]
  methods := #[]
  instanceTypes := #[]
  staticTypes := #[]
  resolved := Array.replicate 8 none
  statics := none }

/-- the primitive byte -/
def k14 : Class := { plain "byte" none with kind := .primitive 'B', accessFlags := 0x411 }
/-- [B -/
def k15 : Class := { plain "[B" (some 0) with kind := .array 14 .byte, interfaces := #[13, 2], accessFlags := 1041 }

/-- the primitive char -/
def k16 : Class := { plain "char" none with kind := .primitive 'C', accessFlags := 0x411 }
/-- [C -/
def k17 : Class := { plain "[C" (some 0) with kind := .array 16 .char, interfaces := #[13, 2], accessFlags := 1041 }

/-- the primitive int -/
def k18 : Class := { plain "int" none with kind := .primitive 'I', accessFlags := 0x411 }
/-- [I -/
def k19 : Class := { plain "[I" (some 0) with kind := .array 18 .int, interfaces := #[13, 2], accessFlags := 1041 }

def heap : Heap := #[{ cls := 7, slots := #[.long 0, .int 1, .null, .int 0, .null, .int 0, .int 0], vm := .statics 7 },
  { cls := 8, slots := #[.int 0, .int 8, .int 0, .int 1], vm := .statics 8 },
  { cls := 11, slots := #[.null, .null, .null], vm := .statics 11 }]
def classes : Array Class := #[k0, k1, k2, k3, k4, k5, k6, k7, k8, k9, k10, k11, k12, k13, k14, k15, k16, k17, k18, k19]
def interned : List (Array UInt16 × Addr) := []
def slotsUsed : Nat := 14
def theMethod : MethodId := ⟨1, 8⟩
def args0 : Array Value := #[.int 1, .int 10, .int 5, .int 11, .int 12, .int 774]
def aboutOver (below : List Frame) : State where
  vm := { classes := classes, interned := interned.toArray }
  heap := heap
  slotsUsed := slotsUsed
  threads := #[{ frames := .invoking theMethod args0 :: below }]
def below0 : List Frame := [.native { method := ⟨0, 0⟩, args := #[] }]
def about1 : State := aboutOver below0
def p0 : Program := .bare "" "" ""
def e0 : Env := launch0.env 0 0 0
theorem w_frames : about1.frames = Frame.invoking theMethod args0 :: below0 := rfl
set_option maxRecDepth 65536 in
theorem w_args : argsFit about1.vm theMethod args0 = true := by decide +kernel
set_option maxRecDepth 65536 in
theorem w_heap : heapFits about1 = true := by decide +kernel
set_option maxRecDepth 65536 in
theorem w_runnable : about1.curStatus? = some .runnable := by decide +kernel
set_option maxRecDepth 65536 in
theorem w_alone : about1.alone = true := by decide +kernel
set_option maxRecDepth 65536 in
theorem w_named : about1.methodNamed? x = some theMethod := by decide +kernel
set_option maxRecDepth 65536 in
theorem w_hears : about1.hears theMethod below0 = true := by decide +kernel
set_option maxRecDepth 65536 in
theorem w_ripe : about1.ripe theMethod args0 below0 = true := by decide +kernel
theorem w_running : about1.status = .running := rfl
set_option maxRecDepth 65536 in
theorem w_room : about1.hasRoom e0.platform room_1 = true :=
  launch0.hasRoom_least _ room_1 (by decide +kernel) (by decide +kernel) (by decide +kernel) (by decide +kernel) (by decide +kernel) (by decide +kernel)
theorem allAtoms_all (ts : List Jvm.Cond) (a : Array Jvm.Value) (st : Jvm.State) : (allAtoms ts).before a st = ts.all (fun c => c.before a st) := by
  induction ts with
  | nil => rfl
  | cons c t ih =>
    show (Jvm.Cond.and c (allAtoms t)).before a st = _
    rw [Jvm.Cond.before_and, ih, List.all_cons]
def words1 : List Jvm.Cond := Jvm.Cond.code x code maxLocals ret :: tables_1
/-- a 'code' word, met by the world's own term for the bytes: nothing is compared byte by byte -/
theorem code_word {y : MethodName} {bytes : ByteArray} {mx : Nat} {rt : Option FieldType} {a : Array Value} {s : State} {m : MethodId} {meth : Method} {c : Code} (h1 : s.methodNamed? y = some m) (h2 : s.vm.method? m = some meth) (h3 : meth.code = some c) (h4 : c.code = bytes)
    (h5 : (c.maxLocals == mx && c.exceptionTable.isEmpty && decide (c.maxStack ≤ mostOperands) && decide (meth.sig.returnType = rt) && !meth.locks && decide (parseMethodDescriptor y.desc = some meth.sig)) = true) : (Jvm.Cond.code y bytes mx rt).before a s = true := by
  simp only [Bool.and_eq_true, beq_iff_eq, Bool.not_eq_true', decide_eq_true_eq] at h5
  obtain ⟨⟨⟨⟨⟨g1, g2⟩, g3⟩, g4⟩, g5⟩, g6⟩ := h5
  simp [Cond.before, Cond.holds, Cond.value, h1, h2, h3, h4, g1, g2, g3, g4, g5, g6]
def isCode : Jvm.Cond → Bool
  | .code _ _ _ _ => true
  | _ => false
theorem all_split {L : List Jvm.Cond} {P : Jvm.Cond → Bool} (h1 : L.all (fun c => isCode c || P c) = true) (h2 : ∀ c ∈ L.filter isCode, P c = true) : L.all P = true := by
  refine List.all_eq_true.mpr fun c hc => ?_
  have h := List.all_eq_true.mp h1 c hc
  rcases Bool.eq_false_or_eq_true (isCode c) with hi | hi
  · exact h2 c (List.mem_filter.mpr ⟨hc, hi⟩)
  · simpa [hi] using h
set_option maxRecDepth 65536 in
theorem w_c0 : (Jvm.Cond.code x code maxLocals ret).before args0 about1 = true := code_word (m := ⟨1, 8⟩) (meth := k1m8) (c := k1c8) (by decide +kernel) rfl rfl rfl (by decide +kernel)
set_option maxRecDepth 65536 in
theorem w_c1 : (Jvm.Cond.code ({ cls := "com/example/bandmark/bandmark/PlainDecimalReadPinLaw", name := "ch", desc := "(I)C" } : Jvm.MethodName) method_2_code (2 : Nat) (Option.some Jvm.ClassFile.FieldType.char)).before args0 about1 = true := code_word (m := ⟨1, 1⟩) (meth := k1m1) (c := k1c1) (by decide +kernel) rfl rfl rfl (by decide +kernel)
set_option maxRecDepth 65536 in
theorem w_c2 : (Jvm.Cond.code ({ cls := "java/lang/String", name := "<init>", desc := "([C)V" } : Jvm.MethodName) jdk_42_method_3_code (2 : Nat) (Option.none : Option Jvm.ClassFile.FieldType)).before args0 about1 = true := code_word (m := ⟨7, 1⟩) (meth := k7m1) (c := k7c1) (by decide +kernel) rfl rfl rfl (by decide +kernel)
set_option maxRecDepth 65536 in
theorem w_c3 : (Jvm.Cond.code ({ cls := "java/lang/String", name := "<init>", desc := "([CIILjava/lang/Void;)V" } : Jvm.MethodName) jdk_42_method_149_code (6 : Nat) (Option.none : Option Jvm.ClassFile.FieldType)).before args0 about1 = true := code_word (m := ⟨7, 3⟩) (meth := k7m3) (c := k7c3) (by decide +kernel) rfl rfl rfl (by decide +kernel)
set_option maxRecDepth 65536 in
theorem w_c4 : (Jvm.Cond.code ({ cls := "java/lang/Object", name := "<init>", desc := "()V" } : Jvm.MethodName) object_method_1_code (1 : Nat) (Option.none : Option Jvm.ClassFile.FieldType)).before args0 about1 = true := code_word (m := ⟨0, 0⟩) (meth := k0m0) (c := k0c0) (by decide +kernel) rfl rfl rfl (by decide +kernel)
set_option maxRecDepth 65536 in
theorem w_c5 : (Jvm.Cond.code ({ cls := "java/lang/StringUTF16", name := "compress", desc := "([CII)[B" } : Jvm.MethodName) jdk_52_method_16_code (6 : Nat) (Option.some (Jvm.ClassFile.FieldType.array Jvm.ClassFile.FieldType.byte))).before args0 about1 = true := code_word (m := ⟨8, 8⟩) (meth := k8m8) (c := k8c8) (by decide +kernel) rfl rfl rfl (by decide +kernel)
set_option maxRecDepth 65536 in
theorem w_c6 : (Jvm.Cond.code ({ cls := "java/lang/StringUTF16", name := "compress", desc := "([CI[BII)I" } : Jvm.MethodName) jdk_52_method_21_code (7 : Nat) (Option.some Jvm.ClassFile.FieldType.int)).before args0 about1 = true := code_word (m := ⟨8, 9⟩) (meth := k8m9) (c := k8c9) (by decide +kernel) rfl rfl rfl (by decide +kernel)
set_option maxRecDepth 65536 in
theorem w_c7 : (Jvm.Cond.code ({ cls := "java/lang/StringUTF16", name := "coderFromArrayLen", desc := "([BI)B" } : Jvm.MethodName) jdk_52_method_15_code (2 : Nat) (Option.some Jvm.ClassFile.FieldType.byte)).before args0 about1 = true := code_word (m := ⟨8, 7⟩) (meth := k8m7) (c := k8c7) (by decide +kernel) rfl rfl rfl (by decide +kernel)
set_option maxRecDepth 65536 in
theorem w_c8 : (Jvm.Cond.code ({ cls := "com/example/bandmark/bandmark/PlainDecimalReadPinLaw", name := "dig", desc := "([CIII)I" } : Jvm.MethodName) method_4_code (4 : Nat) (Option.some Jvm.ClassFile.FieldType.int)).before args0 about1 = true := code_word (m := ⟨1, 3⟩) (meth := k1m3) (c := k1c3) (by decide +kernel) rfl rfl rfl (by decide +kernel)
set_option maxRecDepth 65536 in
theorem w_c9 : (Jvm.Cond.code ({ cls := "com/example/bandmark/bandmark/PlainDecimalReadPinLaw", name := "in", desc := "(III)Z" } : Jvm.MethodName) method_3_code (3 : Nat) (Option.some Jvm.ClassFile.FieldType.boolean)).before args0 about1 = true := code_word (m := ⟨1, 2⟩) (meth := k1m2) (c := k1c2) (by decide +kernel) rfl rfl rfl (by decide +kernel)
set_option maxRecDepth 65536 in
theorem w_c10 : (Jvm.Cond.code ({ cls := "com/example/bandmark/bandmark/PlainDecimalReadPinLaw", name := "pt", desc := "([CIII)I" } : Jvm.MethodName) method_5_code (4 : Nat) (Option.some Jvm.ClassFile.FieldType.int)).before args0 about1 = true := code_word (m := ⟨1, 4⟩) (meth := k1m4) (c := k1c4) (by decide +kernel) rfl rfl rfl (by decide +kernel)
set_option maxRecDepth 65536 in
theorem w_c11 : (Jvm.Cond.code ({ cls := "com/example/bandmark/bandmark/PlainDecimalReadPinLaw", name := "bad", desc := "([CIII)I" } : Jvm.MethodName) method_6_code (4 : Nat) (Option.some Jvm.ClassFile.FieldType.int)).before args0 about1 = true := code_word (m := ⟨1, 5⟩) (meth := k1m5) (c := k1c5) (by decide +kernel) rfl rfl rfl (by decide +kernel)
set_option maxRecDepth 65536 in
theorem w_c12 : (Jvm.Cond.code ({ cls := "com/example/bandmark/bandmark/PlainDecimalReadPinLaw", name := "dv", desc := "([CIII)J" } : Jvm.MethodName) method_7_code (4 : Nat) (Option.some Jvm.ClassFile.FieldType.long)).before args0 about1 = true := code_word (m := ⟨1, 6⟩) (meth := k1m6) (c := k1c6) (by decide +kernel) rfl rfl rfl (by decide +kernel)
set_option maxRecDepth 65536 in
theorem w_c13 : (Jvm.Cond.code ({ cls := "com/example/bandmark/bandmark/PlainDecimalReadPinLaw", name := "p10", desc := "(I)J" } : Jvm.MethodName) method_8_code (1 : Nat) (Option.some Jvm.ClassFile.FieldType.long)).before args0 about1 = true := code_word (m := ⟨1, 7⟩) (meth := k1m7) (c := k1c7) (by decide +kernel) rfl rfl rfl (by decide +kernel)
set_option maxRecDepth 65536 in
theorem w_c14 : (Jvm.Cond.code ({ cls := "com/example/bandmark/bandmark/PlainDecimal", name := "<init>", desc := "()V" } : Jvm.MethodName) prog_8_method_1_code (1 : Nat) (Option.none : Option Jvm.ClassFile.FieldType)).before args0 about1 = true := code_word (m := ⟨9, 0⟩) (meth := k9m0) (c := k9c0) (by decide +kernel) rfl rfl rfl (by decide +kernel)
set_option maxRecDepth 65536 in
theorem w_c15 : (Jvm.Cond.code ({ cls := "com/example/bandmark/bandmark/PlainDecimal", name := "read", desc := "(Ljava/lang/String;II)Z" } : Jvm.MethodName) prog_8_method_2_code (12 : Nat) (Option.some Jvm.ClassFile.FieldType.boolean)).before args0 about1 = true := code_word (m := ⟨9, 1⟩) (meth := k9m1) (c := k9c1) (by decide +kernel) rfl rfl rfl (by decide +kernel)
set_option maxRecDepth 65536 in
theorem w_c16 : (Jvm.Cond.code ({ cls := "java/lang/String", name := "charAt", desc := "(I)C" } : Jvm.MethodName) jdk_42_method_56_code (2 : Nat) (Option.some Jvm.ClassFile.FieldType.char)).before args0 about1 = true := code_word (m := ⟨7, 2⟩) (meth := k7m2) (c := k7c2) (by decide +kernel) rfl rfl rfl (by decide +kernel)
set_option maxRecDepth 65536 in
theorem w_c17 : (Jvm.Cond.code ({ cls := "java/lang/String", name := "isLatin1", desc := "()Z" } : Jvm.MethodName) jdk_42_method_154_code (1 : Nat) (Option.some Jvm.ClassFile.FieldType.boolean)).before args0 about1 = true := code_word (m := ⟨7, 4⟩) (meth := k7m4) (c := k7c4) (by decide +kernel) rfl rfl rfl (by decide +kernel)
set_option maxRecDepth 65536 in
theorem w_c18 : (Jvm.Cond.code ({ cls := "java/lang/StringLatin1", name := "charAt", desc := "([BI)C" } : Jvm.MethodName) jdk_43_method_2_code (2 : Nat) (Option.some Jvm.ClassFile.FieldType.char)).before args0 about1 = true := code_word (m := ⟨10, 1⟩) (meth := k10m1) (c := k10c1) (by decide +kernel) rfl rfl rfl (by decide +kernel)
set_option maxRecDepth 65536 in
theorem w_c19 : (Jvm.Cond.code ({ cls := "java/lang/String", name := "checkIndex", desc := "(II)V" } : Jvm.MethodName) jdk_42_method_155_code (2 : Nat) (Option.none : Option Jvm.ClassFile.FieldType)).before args0 about1 = true := code_word (m := ⟨7, 5⟩) (meth := k7m5) (c := k7c5) (by decide +kernel) rfl rfl rfl (by decide +kernel)
set_option maxRecDepth 65536 in
theorem w_c20 : (Jvm.Cond.code ({ cls := "jdk/internal/util/Preconditions", name := "checkIndex", desc := "(IILjava/util/function/BiFunction;)I" } : Jvm.MethodName) jdk_41_method_11_code (3 : Nat) (Option.some Jvm.ClassFile.FieldType.int)).before args0 about1 = true := code_word (m := ⟨11, 1⟩) (meth := k11m1) (c := k11c1) (by decide +kernel) rfl rfl rfl (by decide +kernel)
set_option maxRecDepth 65536 in
theorem w_c21 : (Jvm.Cond.code ({ cls := "com/example/bandmark/bandmark/PlainDecimal", name := "unscaled", desc := "()J" } : Jvm.MethodName) prog_8_method_4_code (1 : Nat) (Option.some Jvm.ClassFile.FieldType.long)).before args0 about1 = true := code_word (m := ⟨9, 3⟩) (meth := k9m3) (c := k9c3) (by decide +kernel) rfl rfl rfl (by decide +kernel)
set_option maxRecDepth 65536 in
theorem w_c22 : (Jvm.Cond.code ({ cls := "com/example/bandmark/bandmark/PlainDecimal", name := "scale", desc := "()I" } : Jvm.MethodName) prog_8_method_5_code (1 : Nat) (Option.some Jvm.ClassFile.FieldType.int)).before args0 about1 = true := code_word (m := ⟨9, 4⟩) (meth := k9m4) (c := k9c4) (by decide +kernel) rfl rfl rfl (by decide +kernel)
set_option maxRecDepth 65536 in
theorem w_c23 : (Jvm.Cond.code ({ cls := "com/example/bandmark/bandmark/PlainDecimal", name := "isNegative", desc := "()Z" } : Jvm.MethodName) prog_8_method_6_code (2 : Nat) (Option.some Jvm.ClassFile.FieldType.boolean)).before args0 about1 = true := code_word (m := ⟨9, 5⟩) (meth := k9m5) (c := k9c5) (by decide +kernel) rfl rfl rfl (by decide +kernel)
set_option maxRecDepth 65536 in
theorem w_c24 : (Jvm.Cond.code ({ cls := "com/example/bandmark/bandmark/PlainDecimal", name := "isCompact", desc := "()Z" } : Jvm.MethodName) prog_8_method_3_code (1 : Nat) (Option.some Jvm.ClassFile.FieldType.boolean)).before args0 about1 = true := code_word (m := ⟨9, 2⟩) (meth := k9m2) (c := k9c2) (by decide +kernel) rfl rfl rfl (by decide +kernel)
set_option maxRecDepth 65536 in
theorem w_c25 : (Jvm.Cond.code ({ cls := "java/lang/StringUTF16", name := "toBytes", desc := "([CII)[B" } : Jvm.MethodName) jdk_52_method_14_code (5 : Nat) (Option.some (Jvm.ClassFile.FieldType.array Jvm.ClassFile.FieldType.byte))).before args0 about1 = true := code_word (m := ⟨8, 6⟩) (meth := k8m6) (c := k8c6) (by decide +kernel) rfl rfl rfl (by decide +kernel)
set_option maxRecDepth 65536 in
theorem w_c26 : (Jvm.Cond.code ({ cls := "java/lang/StringUTF16", name := "newBytesFor", desc := "(I)[B" } : Jvm.MethodName) jdk_52_method_2_code (1 : Nat) (Option.some (Jvm.ClassFile.FieldType.array Jvm.ClassFile.FieldType.byte))).before args0 about1 = true := code_word (m := ⟨8, 1⟩) (meth := k8m1) (c := k8c1) (by decide +kernel) rfl rfl rfl (by decide +kernel)
set_option maxRecDepth 65536 in
theorem w_c27 : (Jvm.Cond.code ({ cls := "java/lang/StringUTF16", name := "newBytesLength", desc := "(I)I" } : Jvm.MethodName) jdk_52_method_3_code (1 : Nat) (Option.some Jvm.ClassFile.FieldType.int)).before args0 about1 = true := code_word (m := ⟨8, 2⟩) (meth := k8m2) (c := k8c2) (by decide +kernel) rfl rfl rfl (by decide +kernel)
set_option maxRecDepth 65536 in
theorem w_c28 : (Jvm.Cond.code ({ cls := "java/lang/StringUTF16", name := "putChar", desc := "([BII)V" } : Jvm.MethodName) jdk_52_method_4_code (3 : Nat) (Option.none : Option Jvm.ClassFile.FieldType)).before args0 about1 = true := code_word (m := ⟨8, 3⟩) (meth := k8m3) (c := k8c3) (by decide +kernel) rfl rfl rfl (by decide +kernel)
set_option maxRecDepth 65536 in
theorem w_c29 : (Jvm.Cond.code ({ cls := "java/lang/StringUTF16", name := "getChar", desc := "([BI)C" } : Jvm.MethodName) jdk_52_method_5_code (2 : Nat) (Option.some Jvm.ClassFile.FieldType.char)).before args0 about1 = true := code_word (m := ⟨8, 4⟩) (meth := k8m4) (c := k8c4) (by decide +kernel) rfl rfl rfl (by decide +kernel)
set_option maxRecDepth 65536 in
theorem w_c30 : (Jvm.Cond.code ({ cls := "java/lang/StringUTF16", name := "charAt", desc := "([BI)C" } : Jvm.MethodName) jdk_52_method_83_code (2 : Nat) (Option.some Jvm.ClassFile.FieldType.char)).before args0 about1 = true := code_word (m := ⟨8, 10⟩) (meth := k8m10) (c := k8c10) (by decide +kernel) rfl rfl rfl (by decide +kernel)
set_option maxRecDepth 65536 in
theorem w_c31 : (Jvm.Cond.code ({ cls := "java/lang/StringUTF16", name := "checkIndex", desc := "(I[B)V" } : Jvm.MethodName) jdk_52_method_91_code (2 : Nat) (Option.none : Option Jvm.ClassFile.FieldType)).before args0 about1 = true := code_word (m := ⟨8, 11⟩) (meth := k8m11) (c := k8c11) (by decide +kernel) rfl rfl rfl (by decide +kernel)
set_option maxRecDepth 65536 in
theorem w_c32 : (Jvm.Cond.code ({ cls := "java/lang/StringUTF16", name := "length", desc := "([B)I" } : Jvm.MethodName) jdk_52_method_6_code (1 : Nat) (Option.some Jvm.ClassFile.FieldType.int)).before args0 about1 = true := code_word (m := ⟨8, 5⟩) (meth := k8m5) (c := k8c5) (by decide +kernel) rfl rfl rfl (by decide +kernel)
def codes1 : List Jvm.Cond := [Jvm.Cond.code x code maxLocals ret, Jvm.Cond.code ({ cls := "com/example/bandmark/bandmark/PlainDecimalReadPinLaw", name := "ch", desc := "(I)C" } : Jvm.MethodName) method_2_code (2 : Nat) (Option.some Jvm.ClassFile.FieldType.char), Jvm.Cond.code ({ cls := "java/lang/String", name := "<init>", desc := "([C)V" } : Jvm.MethodName) jdk_42_method_3_code (2 : Nat) (Option.none : Option Jvm.ClassFile.FieldType), Jvm.Cond.code ({ cls := "java/lang/String", name := "<init>", desc := "([CIILjava/lang/Void;)V" } : Jvm.MethodName) jdk_42_method_149_code (6 : Nat) (Option.none : Option Jvm.ClassFile.FieldType), Jvm.Cond.code ({ cls := "java/lang/Object", name := "<init>", desc := "()V" } : Jvm.MethodName) object_method_1_code (1 : Nat) (Option.none : Option Jvm.ClassFile.FieldType), Jvm.Cond.code ({ cls := "java/lang/StringUTF16", name := "compress", desc := "([CII)[B" } : Jvm.MethodName) jdk_52_method_16_code (6 : Nat) (Option.some (Jvm.ClassFile.FieldType.array Jvm.ClassFile.FieldType.byte)), Jvm.Cond.code ({ cls := "java/lang/StringUTF16", name := "compress", desc := "([CI[BII)I" } : Jvm.MethodName) jdk_52_method_21_code (7 : Nat) (Option.some Jvm.ClassFile.FieldType.int), Jvm.Cond.code ({ cls := "java/lang/StringUTF16", name := "coderFromArrayLen", desc := "([BI)B" } : Jvm.MethodName) jdk_52_method_15_code (2 : Nat) (Option.some Jvm.ClassFile.FieldType.byte), Jvm.Cond.code ({ cls := "com/example/bandmark/bandmark/PlainDecimalReadPinLaw", name := "dig", desc := "([CIII)I" } : Jvm.MethodName) method_4_code (4 : Nat) (Option.some Jvm.ClassFile.FieldType.int), Jvm.Cond.code ({ cls := "com/example/bandmark/bandmark/PlainDecimalReadPinLaw", name := "in", desc := "(III)Z" } : Jvm.MethodName) method_3_code (3 : Nat) (Option.some Jvm.ClassFile.FieldType.boolean), Jvm.Cond.code ({ cls := "com/example/bandmark/bandmark/PlainDecimalReadPinLaw", name := "pt", desc := "([CIII)I" } : Jvm.MethodName) method_5_code (4 : Nat) (Option.some Jvm.ClassFile.FieldType.int), Jvm.Cond.code ({ cls := "com/example/bandmark/bandmark/PlainDecimalReadPinLaw", name := "bad", desc := "([CIII)I" } : Jvm.MethodName) method_6_code (4 : Nat) (Option.some Jvm.ClassFile.FieldType.int), Jvm.Cond.code ({ cls := "com/example/bandmark/bandmark/PlainDecimalReadPinLaw", name := "dv", desc := "([CIII)J" } : Jvm.MethodName) method_7_code (4 : Nat) (Option.some Jvm.ClassFile.FieldType.long), Jvm.Cond.code ({ cls := "com/example/bandmark/bandmark/PlainDecimalReadPinLaw", name := "p10", desc := "(I)J" } : Jvm.MethodName) method_8_code (1 : Nat) (Option.some Jvm.ClassFile.FieldType.long), Jvm.Cond.code ({ cls := "com/example/bandmark/bandmark/PlainDecimal", name := "<init>", desc := "()V" } : Jvm.MethodName) prog_8_method_1_code (1 : Nat) (Option.none : Option Jvm.ClassFile.FieldType), Jvm.Cond.code ({ cls := "com/example/bandmark/bandmark/PlainDecimal", name := "read", desc := "(Ljava/lang/String;II)Z" } : Jvm.MethodName) prog_8_method_2_code (12 : Nat) (Option.some Jvm.ClassFile.FieldType.boolean), Jvm.Cond.code ({ cls := "java/lang/String", name := "charAt", desc := "(I)C" } : Jvm.MethodName) jdk_42_method_56_code (2 : Nat) (Option.some Jvm.ClassFile.FieldType.char), Jvm.Cond.code ({ cls := "java/lang/String", name := "isLatin1", desc := "()Z" } : Jvm.MethodName) jdk_42_method_154_code (1 : Nat) (Option.some Jvm.ClassFile.FieldType.boolean), Jvm.Cond.code ({ cls := "java/lang/StringLatin1", name := "charAt", desc := "([BI)C" } : Jvm.MethodName) jdk_43_method_2_code (2 : Nat) (Option.some Jvm.ClassFile.FieldType.char), Jvm.Cond.code ({ cls := "java/lang/String", name := "checkIndex", desc := "(II)V" } : Jvm.MethodName) jdk_42_method_155_code (2 : Nat) (Option.none : Option Jvm.ClassFile.FieldType), Jvm.Cond.code ({ cls := "jdk/internal/util/Preconditions", name := "checkIndex", desc := "(IILjava/util/function/BiFunction;)I" } : Jvm.MethodName) jdk_41_method_11_code (3 : Nat) (Option.some Jvm.ClassFile.FieldType.int), Jvm.Cond.code ({ cls := "com/example/bandmark/bandmark/PlainDecimal", name := "unscaled", desc := "()J" } : Jvm.MethodName) prog_8_method_4_code (1 : Nat) (Option.some Jvm.ClassFile.FieldType.long), Jvm.Cond.code ({ cls := "com/example/bandmark/bandmark/PlainDecimal", name := "scale", desc := "()I" } : Jvm.MethodName) prog_8_method_5_code (1 : Nat) (Option.some Jvm.ClassFile.FieldType.int), Jvm.Cond.code ({ cls := "com/example/bandmark/bandmark/PlainDecimal", name := "isNegative", desc := "()Z" } : Jvm.MethodName) prog_8_method_6_code (2 : Nat) (Option.some Jvm.ClassFile.FieldType.boolean), Jvm.Cond.code ({ cls := "com/example/bandmark/bandmark/PlainDecimal", name := "isCompact", desc := "()Z" } : Jvm.MethodName) prog_8_method_3_code (1 : Nat) (Option.some Jvm.ClassFile.FieldType.boolean), Jvm.Cond.code ({ cls := "java/lang/StringUTF16", name := "toBytes", desc := "([CII)[B" } : Jvm.MethodName) jdk_52_method_14_code (5 : Nat) (Option.some (Jvm.ClassFile.FieldType.array Jvm.ClassFile.FieldType.byte)), Jvm.Cond.code ({ cls := "java/lang/StringUTF16", name := "newBytesFor", desc := "(I)[B" } : Jvm.MethodName) jdk_52_method_2_code (1 : Nat) (Option.some (Jvm.ClassFile.FieldType.array Jvm.ClassFile.FieldType.byte)), Jvm.Cond.code ({ cls := "java/lang/StringUTF16", name := "newBytesLength", desc := "(I)I" } : Jvm.MethodName) jdk_52_method_3_code (1 : Nat) (Option.some Jvm.ClassFile.FieldType.int), Jvm.Cond.code ({ cls := "java/lang/StringUTF16", name := "putChar", desc := "([BII)V" } : Jvm.MethodName) jdk_52_method_4_code (3 : Nat) (Option.none : Option Jvm.ClassFile.FieldType), Jvm.Cond.code ({ cls := "java/lang/StringUTF16", name := "getChar", desc := "([BI)C" } : Jvm.MethodName) jdk_52_method_5_code (2 : Nat) (Option.some Jvm.ClassFile.FieldType.char), Jvm.Cond.code ({ cls := "java/lang/StringUTF16", name := "charAt", desc := "([BI)C" } : Jvm.MethodName) jdk_52_method_83_code (2 : Nat) (Option.some Jvm.ClassFile.FieldType.char), Jvm.Cond.code ({ cls := "java/lang/StringUTF16", name := "checkIndex", desc := "(I[B)V" } : Jvm.MethodName) jdk_52_method_91_code (2 : Nat) (Option.none : Option Jvm.ClassFile.FieldType), Jvm.Cond.code ({ cls := "java/lang/StringUTF16", name := "length", desc := "([B)I" } : Jvm.MethodName) jdk_52_method_6_code (1 : Nat) (Option.some Jvm.ClassFile.FieldType.int)]
set_option maxRecDepth 65536 in
theorem codes_eq : words1.filter isCode = codes1 := rfl
theorem w_codes : ∀ c ∈ words1.filter isCode, c.before args0 about1 = true := by
  rw [codes_eq]
  intro c hc
  simp only [codes1, List.mem_cons, List.not_mem_nil, or_false] at hc
  rcases hc with rfl | rfl | rfl | rfl | rfl | rfl | rfl | rfl | rfl | rfl | rfl | rfl | rfl | rfl | rfl | rfl | rfl | rfl | rfl | rfl | rfl | rfl | rfl | rfl | rfl | rfl | rfl | rfl | rfl | rfl | rfl | rfl | rfl
  · exact w_c0
  · exact w_c1
  · exact w_c2
  · exact w_c3
  · exact w_c4
  · exact w_c5
  · exact w_c6
  · exact w_c7
  · exact w_c8
  · exact w_c9
  · exact w_c10
  · exact w_c11
  · exact w_c12
  · exact w_c13
  · exact w_c14
  · exact w_c15
  · exact w_c16
  · exact w_c17
  · exact w_c18
  · exact w_c19
  · exact w_c20
  · exact w_c21
  · exact w_c22
  · exact w_c23
  · exact w_c24
  · exact w_c25
  · exact w_c26
  · exact w_c27
  · exact w_c28
  · exact w_c29
  · exact w_c30
  · exact w_c31
  · exact w_c32
set_option maxRecDepth 65536 in
theorem w_t1 : (words1.take 24).all (fun c => isCode c || c.before args0 about1) = true := by decide +kernel
set_option maxRecDepth 65536 in
theorem w_t2 : ((words1.drop 24).take 24).all (fun c => isCode c || c.before args0 about1) = true := by decide +kernel
set_option maxRecDepth 65536 in
theorem w_t3 : (((words1.drop 24).drop 24).take 24).all (fun c => isCode c || c.before args0 about1) = true := by decide +kernel
set_option maxRecDepth 65536 in
theorem w_t4 : ((((words1.drop 24).drop 24).drop 24).take 24).all (fun c => isCode c || c.before args0 about1) = true := by decide +kernel
set_option maxRecDepth 65536 in
theorem w_t5 : (((((words1.drop 24).drop 24).drop 24).drop 24).take 24).all (fun c => isCode c || c.before args0 about1) = true := by decide +kernel
set_option maxRecDepth 65536 in
theorem w_t6 : ((((((words1.drop 24).drop 24).drop 24).drop 24).drop 24).take 24).all (fun c => isCode c || c.before args0 about1) = true := by decide +kernel
set_option maxRecDepth 65536 in
theorem w_t7 : ((((((words1.drop 24).drop 24).drop 24).drop 24).drop 24).drop 24).all (fun c => isCode c || c.before args0 about1) = true := by decide +kernel
theorem w_tables : (allAtoms (Jvm.Cond.code x code maxLocals ret :: tables_1)).before args0 about1 = true := by
  rw [allAtoms_all]
  show words1.all (fun c => c.before args0 about1) = true
  refine all_split ?_ w_codes
  rw [← List.take_append_drop 24 words1, List.all_append, w_t1, ← List.take_append_drop 24 (words1.drop 24), List.all_append, w_t2, ← List.take_append_drop 24 ((words1.drop 24).drop 24), List.all_append, w_t3, ← List.take_append_drop 24 (((words1.drop 24).drop 24).drop 24), List.all_append, w_t4, ← List.take_append_drop 24 ((((words1.drop 24).drop 24).drop 24).drop 24), List.all_append, w_t5, ← List.take_append_drop 24 (((((words1.drop 24).drop 24).drop 24).drop 24).drop 24), List.all_append, w_t6, w_t7]
  rfl
set_option maxRecDepth 65536 in
theorem w_rest : rest_1_c.before args0 about1 = true := by decide +kernel
set_option maxRecDepth 65536 in
theorem w_case : (Jvm.Cond.and given_1 narrow_1).before args0 about1 = true := by decide +kernel
set_option maxRecDepth 65536 in
theorem w_consts : constsHeld consts_1 about1 := Jvm.Lit.constsHeldB_iff.mp (by decide +kernel)
theorem w_applies : (headSpec (Jvm.Cond.code x code maxLocals ret :: tables_1) room_1).applies x e0.platform about1 = true :=
  (Spec.applies_iff w_frames).mpr ⟨w_running, w_runnable, w_alone, w_named, w_hears, w_ripe, w_room, w_tables⟩
theorem atStart : AtStart classFile x code maxLocals ret World_1 tables_1 room_1 Calls_1 rest_1 Pre_1 launch0 p0 e0 about1 theMethod args0 below0 :=
  ⟨lists_1, trivial, launch0.admits_env _ _ _, launch0.least_env, fairChoices_fair.cas, fairChoices_fair.clock, w_frames, w_args, w_heap, w_applies, ⟨w_consts, trivial⟩, w_rest, w_case⟩
end start1
theorem witness_1 : WitnessClaimed_1 := ⟨start1.p0, start1.e0, start1.about1, start1.theMethod, start1.args0, start1.below0, start1.atStart⟩
end Jvm.Pilot.@@N@@
