import JvmDerived
import JvmDerived.Pilot.@@N@@Statement
import JvmDerived.Pilot.@@N@@Code
set_option linter.unusedVariables false
set_option linter.unusedSimpArgs false
namespace Jvm.RoadKit
open Sem ClassFile Op Lib Jvm.Stand Jvm.Free Jvm.LawKit
section New
variable {p:Program} {l:Launch} {e:Env} {R:Room} {s:State} {m:MethodId} {args:Array Value} {below:List Frame} {meth:Method} {c:Code} {T:State} {locs:List Loc} {cells slots:Nat}
theorem retI (X:Stand p l e R s m args below meth c T locs cells slots) (hx:p.tables.exec = Jvm.exec) {pc:Nat} {Ls:Array Slot} {z:Int32} {rest:List Value} (hret:meth.sig.returnType = some .int) (hd:decode c.code pc = .ok (.ireturn,1)) {fs:List Frame}
    (hl:∀ (f:JFrame) (acts:List Action),f.method = m → f.locked = none → f.entered = [] → (doReturn e (T.setTop f) acts (some (.int z))).1 = T.setFrames fs) : Steps p.tables e below (T.setTop (mkF m pc Ls (.int z :: rest))) (T.setFrames fs) := by
  have hm' : T.vm.method? m = some meth := X.method'
  have hn : narrow .int (.int z) = .int z := rfl
  show Steps p.tables e below (T.setTop { method := m,pc := pc,locals := Ls,stack := _ :: rest,locked := none }) _
  jvm_step X.here [X.here.top,hx,hd,hm',hret,hn]
  first | (intro acts; rw [hl _ acts rfl rfl rfl]) | rw [hl _ _ rfl rfl rfl]
  exact Steps.refl _
end New
end Jvm.RoadKit
namespace Jvm.Pilot.@@N@@
namespace StrChars
open Jvm Sem ClassFile Op Lib Jvm.Stand Jvm.Free.XT Jvm.Free.ALB Jvm.Free.JM Jvm.Free
open Jvm.Lib.Cold (StaticIs)
def Ch (a:Addr) (A:Cell) (U:State) : Prop := Arr .char a A U ∧ Typed .char A
theorem Ch.mv {a:Addr} {A:Cell} {U U':State} (h:Ch a A U) (hal:U.vm.Alike U'.vm) (hh:U'.heap = U.heap) : Ch a A U' := ⟨h.1.mv hal hh,h.2⟩
theorem Ch.keep {a:Addr} {A:Cell} {U U':State} (h:Ch a A U) (hal:U.vm.Alike U'.vm) (hk:U'.heap[a]? = some A) : Ch a A U' := ⟨h.1.keep hal hk,h.2⟩
def cv (A:Cell) (i:Nat) : Int32 := match A.slots[i]? with | some (.int x) => x | _ => 0
theorem Ch.get {a:Addr} {A:Cell} {U:State} (h:Ch a A U) {i:Nat} (hi:i < A.slots.size) : A.slots[i]? = some (.int (cv A i)) := by
  have e := Array.getElem?_eq_getElem hi
  have f := h.2 i _ e
  unfold cv; rw [e]
  generalize A.slots[i] = v at f
  cases v <;> simp [fits] at f ⊢
def lo8 (x:Int32) : Int32 := x.toInt8.toInt32
theorem fits_lo8 (y:Int32) : fits .byte (.int (lo8 y)) = true := by
  have h1 := y.toInt8.le_toInt
  have h2 := y.toInt8.toInt_lt
  simp only [lo8,fits,Bool.and_eq_true,decide_eq_true_eq,Int32.le_iff_toInt_le,Int8.toInt_toInt32,show (-128 : Int32).toInt = -128 from by decide,show (127:Int32).toInt = 127 from by decide]
  omega
def Laid (A A':Cell) (lo hi:Nat) (f:Nat → Value) : Prop := A'.cls = A.cls ∧ A'.vm = A.vm ∧ A'.slots.size = A.slots.size ∧ ∀ i,A'.slots[i]? = if lo ≤ i ∧ i < hi then some (f i) else A.slots[i]?
theorem Laid.zero (A:Cell) (lo:Nat) (f:Nat → Value) : Laid A A lo (lo + 0) f := ⟨rfl,rfl,rfl,fun i => by rw [if_neg (by omega)]⟩
theorem Laid.step {A Ak:Cell} {lo k:Nat} {f:Nat → Value} {v:Value} (h:Laid A Ak lo k f) (hlo:lo ≤ k) (hk:k < Ak.slots.size) (hv:v = f k) : Laid A (Ak.setSlot k v) lo (k + 1) f := by
  refine ⟨h.1,h.2.1,by simpa [Cell.setSlot] using h.2.2.1,fun i => ?_⟩
  by_cases e : k = i
  · subst e; rw [Cell.slots_setSlot_self v hk,if_pos (by omega),hv]
  · rw [Cell.slots_setSlot_ne v e,h.2.2.2 i]
    by_cases q : lo ≤ i ∧ i < k
    · rw [if_pos q,if_pos (by omega)]
    · rw [if_neg q,if_neg (by omega)]
def U16 : String := "java/lang/StringUTF16"
namespace Cmp5
def yN : MethodName := ⟨"java/lang/StringUTF16", "compress", "([CI[BII)I"⟩
abbrev yB : ByteArray := jdk_52_method_21_code
theorem d0 : decode yB 0 = .ok (.iconst 0,1) := by decide +kernel
theorem d1 : decode yB 1 = .ok (.istore 5,2) := by decide +kernel
theorem d3 : decode yB 3 = .ok (.iload 5,2) := by decide +kernel
theorem d5 : decode yB 5 = .ok (.iload 4,2) := by decide +kernel
theorem d7 : decode yB 7 = .ok (.if_icmp (.ge) 37,3) := by decide +kernel
theorem d10 : decode yB 10 = .ok (.aload_n 0,1) := by decide +kernel
theorem d11 : decode yB 11 = .ok (.iload_n 1,1) := by decide +kernel
theorem d12 : decode yB 12 = .ok (.caload,1) := by decide +kernel
theorem d13 : decode yB 13 = .ok (.istore 6,2) := by decide +kernel
theorem d15 : decode yB 15 = .ok (.iload 6,2) := by decide +kernel
theorem d17 : decode yB 17 = .ok (.sipush 255,3) := by decide +kernel
theorem d20 : decode yB 20 = .ok (.if_icmp (.le) 6,3) := by decide +kernel
theorem d26 : decode yB 26 = .ok (.aload_n 2,1) := by decide +kernel
theorem d27 : decode yB 27 = .ok (.iload_n 3,1) := by decide +kernel
theorem d28 : decode yB 28 = .ok (.iload 6,2) := by decide +kernel
theorem d30 : decode yB 30 = .ok (.i2b,1) := by decide +kernel
theorem d31 : decode yB 31 = .ok (.bastore,1) := by decide +kernel
theorem d32 : decode yB 32 = .ok (.iinc 1 1,3) := by decide +kernel
theorem d35 : decode yB 35 = .ok (.iinc 3 1,3) := by decide +kernel
theorem d38 : decode yB 38 = .ok (.iinc 5 1,3) := by decide +kernel
theorem d41 : decode yB 41 = .ok (.goto (-38),3) := by decide +kernel
theorem d44 : decode yB 44 = .ok (.iload 4,2) := by decide +kernel
theorem d46 : decode yB 46 = .ok (.ireturn,1) := by decide +kernel
def site : List Cond := []
def tab : Cond := tabOf yN yB 7 (some .int) site
def P (b:Addr) (A:Cell) (d:Addr) (B:Cell) (o q len:Nat) (args:Array Value) (s:State) : Prop := args = #[.ref b,.int (Int32.ofNat o),.ref d,.int (Int32.ofNat q),.int (Int32.ofNat len)] ∧ Ch b A s ∧ Arr .byte d B s ∧ b ≠ d ∧ o + len ≤ A.slots.size ∧ q + len ≤ B.slots.size ∧ ∀ i,i < len → ¬ 255 < cv A (o + i)
def E (b:Addr) (A:Cell) (d:Addr) (B:Cell) (o q len:Nat) (r:Option Value) (s u:State) : Prop := r = some (.int (Int32.ofNat len)) ∧ ∃ B',Put d B' s u ∧ Laid B B' q (q + len) (fun j => Value.int (lo8 (cv A (o + (j - q)))))
theorem law (l:Launch) (b:Addr) (A:Cell) (d:Addr) (B:Cell) (o q len:Nat) : Law l yN 5 5 0 0 yB 7 (some .int) site (P b A d B o q len) (E b A d B o q len) (copyLocs d q len) 0 0 := by
  refine Law.of_walk (plainFor_of_name (by decide +kernel)) (by decide +kernel) (by decide +kernel) (by decide) (fun _ _ h => by rw [h.1]; rfl) (fun _ U U' hal hh h => ⟨h.1,h.2.1.mv hal hh,h.2.2.1.mv hal hh,h.2.2.2⟩) (fun r U U' V V' h1 hal h2 h => ⟨h.1,h.2.elim fun B' q => ⟨B',q.1.mv h1 h2,q.2⟩⟩) ?_
  intro p e s m args below meth c s₁ X0 hexec hbytes hml hret hlk hnm hown hh0 W hP
  obtain ⟨rfl,hA,hB,hne,l1,l2,hp⟩ := hP
  have c1 : Steps p.tables e below (s₁.setTop (entryFrame m #[.ref b,.int (Int32.ofNat o),.ref d,.int (Int32.ofNat q),.int (Int32.ofNat len)] 7)) (s₁.setTop (mkF m 0 #[.val (.ref b),.val (.int (Int32.ofNat o)),.val (.ref d),.val (.int (Int32.ofNat q)),.val (.int (Int32.ofNat len)),.unset,.unset] [])) := entry rfl
  have hA0 := hA.1.mv X0.warmed.alike hh0
  have hB0 := hB.mv X0.warmed.alike hh0
  have a31 := hA.1.2.2.2
  have c2 : Steps p.tables e below (s₁.setTop (entryFrame m #[.ref b,.int (Int32.ofNat o),.ref d,.int (Int32.ofNat q),.int (Int32.ofNat len)] 7)) (s₁.setTop (mkF m 3 #[.val (.ref b),.val (.int (Int32.ofNat o)),.val (.ref d),.val (.int (Int32.ofNat q)),.val (.int (Int32.ofNat len)),.val (.int 0),.unset] [])) := c1.trans (by
    refine iconstV X0.here hexec rfl 0 (hb hbytes d0) (by decide) ?_
    refine XS.istore X0.here hexec rfl (hb hbytes d1) rfl rfl ?_
    exact Steps.refl _)
  have loop : ∀ (r i:Nat),i + r = len → ∀ (z:Slot),(z = .unset ∨ ∃ w,z = .val w ∧ w.category = 1) → ∀ (Tl:State) (Bk:Cell),Stand p l e { frames := 0,locals := 0,cells := 0,slots := 0 } s m #[.ref b,.int (Int32.ofNat o),.ref d,.int (Int32.ofNat q),.int (Int32.ofNat len)] below meth c Tl ([] ++ copyLocs d q i) 0 0 → Put d Bk s₁ Tl → Laid B Bk q (q + i) (fun j => Value.int (lo8 (cv A (o + (j - q))))) →
      Steps p.tables e below (s₁.setTop (entryFrame m #[.ref b,.int (Int32.ofNat o),.ref d,.int (Int32.ofNat q),.int (Int32.ofNat len)] 7)) (Tl.setTop (mkF m 3 #[.val (.ref b),.val (.int (Int32.ofNat (o + i))),.val (.ref d),.val (.int (Int32.ofNat (q + i))),.val (.int (Int32.ofNat len)),.val (.int (Int32.ofNat i)),z] [])) → ∃ (T':State) (B':Cell) (z':Slot),Stand p l e { frames := 0,locals := 0,cells := 0,slots := 0 } s m #[.ref b,.int (Int32.ofNat o),.ref d,.int (Int32.ofNat q),.int (Int32.ofNat len)] below meth c T' ([] ++ copyLocs d q len) 0 0 ∧ Put d B' s₁ T' ∧ Laid B B' q (q + len) (fun j => Value.int (lo8 (cv A (o + (j - q))))) ∧
      Steps p.tables e below (s₁.setTop (entryFrame m #[.ref b,.int (Int32.ofNat o),.ref d,.int (Int32.ofNat q),.int (Int32.ofNat len)] 7)) (T'.setTop (mkF m 3 #[.val (.ref b),.val (.int (Int32.ofNat (o + len))),.val (.ref d),.val (.int (Int32.ofNat (q + len))),.val (.int (Int32.ofNat len)),.val (.int (Int32.ofNat len)),z'] [])) := by
    intro r
    induction r with
    | zero =>
      intro i hi z hz Tl Bk Xl pl fl cl
      have hil : i = len := by omega
      rw [hil] at Xl fl cl
      exact ⟨Tl,Bk,z,Xl,pl,fl,cl⟩
    | succ r ih =>
      intro i hi z hz Tl Bk Xl pl fl cl
      have all := X0.warmed.alike.symm.trans Xl.warmed.alike
      have hAl := hA0.keep all (pl.other hne hA0.1)
      have hBk := hB0.like all pl.1 fl.1 fl.2.1 fl.2.2.1
      have hlt : q + i < Bk.slots.size := by rw [fl.2.2.1]; omega
      have c3 : Steps p.tables e below (s₁.setTop (entryFrame m #[.ref b,.int (Int32.ofNat o),.ref d,.int (Int32.ofNat q),.int (Int32.ofNat len)] 7)) (Tl.setTop (mkF m 12 #[.val (.ref b),.val (.int (Int32.ofNat (o + i))),.val (.ref d),.val (.int (Int32.ofNat (q + i))),.val (.int (Int32.ofNat len)),.val (.int (Int32.ofNat i)),z] [.int (Int32.ofNat (o + i)),.ref b])) := cl.trans (by
        refine XS.iload Xl.here hexec rfl (hb hbytes d3) rfl ?_
        refine XS.iload Xl.here hexec rfl (hb hbytes d5) rfl ?_
        refine XS.icmpNo Xl.here hexec rfl (hb hbytes d7) rfl (ii_ge_f (lt32 (by omega) (by omega))) ?_
        refine XS.aloadN Xl.here hexec rfl (hb hbytes d10) rfl rfl ?_
        refine XS.iloadN Xl.here hexec rfl (hb hbytes d11) rfl ?_
        exact Steps.refl _)
      have c4 : Steps p.tables e below (s₁.setTop (entryFrame m #[.ref b,.int (Int32.ofNat o),.ref d,.int (Int32.ofNat q),.int (Int32.ofNat len)] 7)) (Tl.setTop (mkF m 13 #[.val (.ref b),.val (.int (Int32.ofNat (o + i))),.val (.ref d),.val (.int (Int32.ofNat (q + i))),.val (.int (Int32.ofNat len)),.val (.int (Int32.ofNat i)),z] [.int (cv A (o + i))])) := c3.trans (by
        refine Xl.aget hexec hAl rfl (hA.get (i:=o + i) (by omega)) rfl rfl (hb hbytes d12) ?_
        exact Steps.refl _)
      have c5 : Steps p.tables e below (s₁.setTop (entryFrame m #[.ref b,.int (Int32.ofNat o),.ref d,.int (Int32.ofNat q),.int (Int32.ofNat len)] 7)) (Tl.setTop (mkF m 15 #[.val (.ref b),.val (.int (Int32.ofNat (o + i))),.val (.ref d),.val (.int (Int32.ofNat (q + i))),.val (.int (Int32.ofNat len)),.val (.int (Int32.ofNat i)),.val (.int (cv A (o + i)))] [])) := c4.trans (by
        refine XS.istoreS Xl.here hexec rfl (hb hbytes d13) rfl rfl hz ?_
        exact Steps.refl _)
      have c6 : Steps p.tables e below (s₁.setTop (entryFrame m #[.ref b,.int (Int32.ofNat o),.ref d,.int (Int32.ofNat q),.int (Int32.ofNat len)] 7)) (Tl.setTop (mkF m 31 #[.val (.ref b),.val (.int (Int32.ofNat (o + i))),.val (.ref d),.val (.int (Int32.ofNat (q + i))),.val (.int (Int32.ofNat len)),.val (.int (Int32.ofNat i)),.val (.int (cv A (o + i)))] [.int (lo8 (cv A (o + i))),.int (Int32.ofNat (q + i)),.ref d])) := c5.trans (by
        refine XS.iload Xl.here hexec rfl (hb hbytes d15) rfl ?_
        refine sipushV Xl.here hexec rfl 255 (hb hbytes d17) (by decide) ?_
        refine XS.icmpYes Xl.here hexec rfl (pc0 := 20) rfl (hb hbytes d20) rfl (ii_le_t (hp i (by omega))) (by decide) rfl ?_
        refine XS.aloadN Xl.here hexec rfl (hb hbytes d26) rfl rfl ?_
        refine XS.iloadN Xl.here hexec rfl (hb hbytes d27) rfl ?_
        refine XS.iload Xl.here hexec rfl (hb hbytes d28) rfl ?_
        refine i2b Xl.here hexec rfl (hb hbytes d30) rfl ?_
        exact Steps.refl _)
      obtain ⟨T7,X7,p7,st7⟩ := Xl.aput hexec hBk rfl hlt rfl (fits_lo8 (cv A (o + i))) (g:=(mkF m 31 #[.val (.ref b),.val (.int (Int32.ofNat (o + i))),.val (.ref d),.val (.int (Int32.ofNat (q + i))),.val (.int (Int32.ofNat len)),.val (.int (Int32.ofNat i)),.val (.int (cv A (o + i)))] [.int (lo8 (cv A (o + i))),.int (Int32.ofNat (q + i)),.ref d])) rfl (rest:=[]) rfl (hb hbytes d31)
      have c8 : Steps p.tables e below (s₁.setTop (entryFrame m #[.ref b,.int (Int32.ofNat o),.ref d,.int (Int32.ofNat q),.int (Int32.ofNat len)] 7)) (T7.setTop (mkF m 32 #[.val (.ref b),.val (.int (Int32.ofNat (o + i))),.val (.ref d),.val (.int (Int32.ofNat (q + i))),.val (.int (Int32.ofNat len)),.val (.int (Int32.ofNat i)),.val (.int (cv A (o + i)))] [])) := c6.trans (st7 _ (Steps.refl _))
      have c9 : Steps p.tables e below (s₁.setTop (entryFrame m #[.ref b,.int (Int32.ofNat o),.ref d,.int (Int32.ofNat q),.int (Int32.ofNat len)] 7)) (T7.setTop (mkF m 3 #[.val (.ref b),.val (.int (Int32.ofNat (o + i) + 1)),.val (.ref d),.val (.int (Int32.ofNat (q + i) + 1)),.val (.int (Int32.ofNat len)),.val (.int (Int32.ofNat i + 1)),.val (.int (cv A (o + i)))] [])) := c8.trans (by
        refine iincV X7.here hexec rfl 1 (hb hbytes d32) (by decide) rfl rfl ?_
        refine iincV X7.here hexec rfl 1 (hb hbytes d35) (by decide) rfl rfl ?_
        refine iincV X7.here hexec rfl 1 (hb hbytes d38) (by decide) rfl rfl ?_
        refine XS.goto X7.here hexec rfl (pc0 := 41) rfl (hb hbytes d41) (by decide) rfl ?_
        exact Steps.refl _)
      have c10 : Steps p.tables e below (s₁.setTop (entryFrame m #[.ref b,.int (Int32.ofNat o),.ref d,.int (Int32.ofNat q),.int (Int32.ofNat len)] 7)) (T7.setTop (mkF m 3 #[.val (.ref b),.val (.int (Int32.ofNat (o + (i + 1)))),.val (.ref d),.val (.int (Int32.ofNat (q + (i + 1)))),.val (.int (Int32.ofNat len)),.val (.int (Int32.ofNat (i + 1))),.val (.int (cv A (o + i)))] [])) := by
        have := c9
        rw [succ32,succ32,succ32] at this
        exact this
      exact ih (i + 1) (by omega) _ (Or.inr ⟨_,rfl,rfl⟩) T7 _ (by rw [copyLocs_step,← List.append_assoc]; exact X7) (pl.trans p7) (fl.step (by omega) hlt (by simp)) c10
  obtain ⟨T9,B9,z9,X9,p9,f9,g9⟩ := loop len 0 (by omega) .unset (Or.inl rfl) s₁ B (by simpa [copyLocs] using X0) ⟨hB0.1,fun _ _ => rfl,rfl⟩ (Laid.zero _ _ _) c2
  have c11 : Steps p.tables e below (s₁.setTop (entryFrame m #[.ref b,.int (Int32.ofNat o),.ref d,.int (Int32.ofNat q),.int (Int32.ofNat len)] 7)) (T9.setTop (mkF m 46 #[.val (.ref b),.val (.int (Int32.ofNat (o + len))),.val (.ref d),.val (.int (Int32.ofNat (q + len))),.val (.int (Int32.ofNat len)),.val (.int (Int32.ofNat len)),z9] [.int (Int32.ofNat len)])) := g9.trans (by
    refine XS.iload X9.here hexec rfl (hb hbytes d3) rfl ?_
    refine XS.iload X9.here hexec rfl (hb hbytes d5) rfl ?_
    refine XS.icmpYes X9.here hexec rfl (pc0 := 7) rfl (hb hbytes d7) rfl (ii_ge_t (nlt32 (by omega) (Nat.le_refl _))) (by decide) rfl ?_
    refine XS.iload X9.here hexec rfl (hb hbytes d44) rfl ?_
    exact Steps.refl _)
  exact ⟨T9,some (.int (Int32.ofNat len)),_,_,_,X9,by simp,rfl,rfl,(fun h => by cases h),⟨rfl,B9,p9.from hh0,f9⟩,fun fs hl => c11.trans (X9.ireturnOut hexec hret rfl (Or.inl rfl) (hb hbytes d46) hl)⟩
end Cmp5
namespace Cmp3
def yN : MethodName := ⟨"java/lang/StringUTF16", "compress", "([CII)[B"⟩
abbrev yB : ByteArray := jdk_52_method_16_code
theorem d0 : decode yB 0 = .ok (.iload_n 2,1) := by decide +kernel
theorem d1 : decode yB 1 = .ok (.newarray .byte,2) := by decide +kernel
theorem d3 : decode yB 3 = .ok (.astore_n 3,1) := by decide +kernel
theorem d4 : decode yB 4 = .ok (.aload_n 0,1) := by decide +kernel
theorem d5 : decode yB 5 = .ok (.iload_n 1,1) := by decide +kernel
theorem d6 : decode yB 6 = .ok (.aload_n 3,1) := by decide +kernel
theorem d7 : decode yB 7 = .ok (.iconst 0,1) := by decide +kernel
theorem d8 : decode yB 8 = .ok (.iload_n 2,1) := by decide +kernel
theorem d9 : decode yB 9 = .ok (.invokestatic 115,3) := by decide +kernel
theorem d12 : decode yB 12 = .ok (.istore 4,2) := by decide +kernel
theorem d14 : decode yB 14 = .ok (.iload 4,2) := by decide +kernel
theorem d16 : decode yB 16 = .ok (.iload_n 2,1) := by decide +kernel
theorem d17 : decode yB 17 = .ok (.if_icmp (.eq) 40,3) := by decide +kernel
theorem d57 : decode yB 57 = .ok (.aload_n 3,1) := by decide +kernel
theorem d58 : decode yB 58 = .ok (.areturn,1) := by decide +kernel
def site : List Cond := [.arrayClass .byte,Cmp5.tab] ++ staticW U16 115 Cmp5.yN
def tab : Cond := tabOf yN yB 6 (some (.array .byte)) site
def P (b:Addr) (A:Cell) (o len:Nat) (args:Array Value) (s:State) : Prop := args = #[.ref b,.int (Int32.ofNat o),.int (Int32.ofNat len)] ∧ Ch b A s ∧ o + len ≤ A.slots.size ∧ len ≤ 536870912 ∧ ∀ i,i < len → ¬ 255 < cv A (o + i)
def E (b:Addr) (A:Cell) (o len:Nat) (r:Option Value) (s u:State) : Prop := NewArr .byte "[B" len (fun j => .int (lo8 (cv A (o + j)))) r s u ∧ u.heap.size = s.heap.size + 1
theorem law (l:Launch) (b:Addr) (A:Cell) (o len:Nat) : Law l yN 3 3 1 18 yB 6 (some (.array .byte)) site (P b A o len) (E b A o len) [] 1 len := by
  refine Law.of_walk (plainFor_of_name (by decide +kernel)) (by decide +kernel) (by decide +kernel) (by decide) (fun _ _ h => by rw [h.1]; rfl) (fun _ U U' hal hh h => ⟨h.1,h.2.1.mv hal hh,h.2.2⟩) (fun r U U' V V' h1 hal h2 h => ⟨NewArr.mv r U U' V V' h1 hal h2 h.1,by rw [h1,h2]; exact h.2⟩) ?_
  intro p e s m args below meth c s₁ X0 hexec hbytes hml hret hlk hnm hown hh0 W hP
  obtain ⟨rfl,hA,l1,l2,hp⟩ := hP
  have a31 := hA.1.2.2.2
  have c1 : Steps p.tables e below (s₁.setTop (entryFrame m #[.ref b,.int (Int32.ofNat o),.int (Int32.ofNat len)] 6)) (s₁.setTop (mkF m 0 #[.val (.ref b),.val (.int (Int32.ofNat o)),.val (.int (Int32.ofNat len)),.unset,.unset,.unset] [])) := entry rfl
  have c2 : Steps p.tables e below (s₁.setTop (entryFrame m #[.ref b,.int (Int32.ofNat o),.int (Int32.ofNat len)] 6)) (s₁.setTop (mkF m 1 #[.val (.ref b),.val (.int (Int32.ofNat o)),.val (.int (Int32.ofNat len)),.unset,.unset,.unset] [.int (Int32.ofNat len)])) := c1.trans (by
    refine XS.iloadN X0.here hexec rfl (hb hbytes d0) rfl ?_
    exact Steps.refl _)
  obtain ⟨T3,B3,X3,ba3,bs3,bv3,bh3,bf3,st3⟩ := X0.anew hexec (atype:=.byte) (wk W (.arrayClass .byte)) rfl (by show len * 1 ≤ _; omega) (by omega) (g:=(mkF m 1 #[.val (.ref b),.val (.int (Int32.ofNat o)),.val (.int (Int32.ofNat len)),.unset,.unset,.unset] [.int (Int32.ofNat len)])) rfl (hb hbytes d1) (rest:=[]) rfl (Nat.le_refl _) (by show 0 + len ≤ len; omega)
  rw [hh0] at ba3 st3
  have kp3 : XT.Kept s T3 := (XT.Kept.of_eq hh0).push bh3
  have hA3 := hA.keep X3.warmed.alike (kp3 _ _ hA.1.1)
  have hne : b ≠ s.heap.size := hA.1.ne
  have c4 : Steps p.tables e below (s₁.setTop (entryFrame m #[.ref b,.int (Int32.ofNat o),.int (Int32.ofNat len)] 6)) (T3.setTop (mkF m 3 #[.val (.ref b),.val (.int (Int32.ofNat o)),.val (.int (Int32.ofNat len)),.unset,.unset,.unset] [.ref s.heap.size])) := c2.trans (st3 _ (Steps.refl _))
  have c5 : Steps p.tables e below (s₁.setTop (entryFrame m #[.ref b,.int (Int32.ofNat o),.int (Int32.ofNat len)] 6)) (T3.setTop (mkF m 9 #[.val (.ref b),.val (.int (Int32.ofNat o)),.val (.int (Int32.ofNat len)),.val (.ref s.heap.size),.unset,.unset] [.int (Int32.ofNat len),.int 0,.ref s.heap.size,.int (Int32.ofNat o),.ref b])) := c4.trans (by
    refine XS.astoreN X3.here hexec rfl (hb hbytes d3) rfl rfl rfl ?_
    refine XS.aloadN X3.here hexec rfl (hb hbytes d4) rfl rfl ?_
    refine XS.iloadN X3.here hexec rfl (hb hbytes d5) rfl ?_
    refine XS.aloadN X3.here hexec rfl (hb hbytes d6) rfl rfl ?_
    refine iconstV X3.here hexec rfl 0 (hb hbytes d7) (by decide) ?_
    refine XS.iloadN X3.here hexec rfl (hb hbytes d8) rfl ?_
    exact Steps.refl _)
  obtain ⟨v6,T6,X6,E6,g6⟩ := X3.callS hexec (Cmp5.law l b A s.heap.size B3 o 0 len) hown (wks W (staticW U16 115 Cmp5.yN)) (wk W Cmp5.tab) (W:=0) (Nat.le_of_ble_eq_true rfl) (Nat.le_of_ble_eq_true rfl) (Nat.le_refl _) (by show 0 + len + 0 ≤ len; omega) (g:=(mkF m 9 #[.val (.ref b),.val (.int (Int32.ofNat o)),.val (.int (Int32.ofNat len)),.val (.ref s.heap.size),.unset,.unset] [.int (Int32.ofNat len),.int (Int32.ofNat 0),.ref s.heap.size,.int (Int32.ofNat o),.ref b])) rfl (by rw [hml]; rfl) c5 (argsL:=[.ref b,.int (Int32.ofNat o),.ref s.heap.size,.int (Int32.ofNat 0),.int (Int32.ofNat len)]) (rest:=[]) rfl rfl (by show 2 * 0 + 0 ≤ _; decide) (hb hbytes d9) (⟨rfl,hA3,ba3,hne,l1,by rw [bs3]; simp,hp⟩)
  obtain ⟨rfl,B6,p6,f6⟩ := E6
  have c7 : Steps p.tables e below (s₁.setTop (entryFrame m #[.ref b,.int (Int32.ofNat o),.int (Int32.ofNat len)] 6)) (T6.setTop (mkF m 12 #[.val (.ref b),.val (.int (Int32.ofNat o)),.val (.int (Int32.ofNat len)),.val (.ref s.heap.size),.unset,.unset] [.int (Int32.ofNat len)])) := g6
  have c8 : Steps p.tables e below (s₁.setTop (entryFrame m #[.ref b,.int (Int32.ofNat o),.int (Int32.ofNat len)] 6)) (T6.setTop (mkF m 58 #[.val (.ref b),.val (.int (Int32.ofNat o)),.val (.int (Int32.ofNat len)),.val (.ref s.heap.size),.val (.int (Int32.ofNat len)),.unset] [.ref s.heap.size])) := c7.trans (by
    refine XS.istore X6.here hexec rfl (hb hbytes d12) rfl rfl ?_
    refine XS.iload X6.here hexec rfl (hb hbytes d14) rfl ?_
    refine XS.iloadN X6.here hexec rfl (hb hbytes d16) rfl ?_
    refine XS.icmpYes X6.here hexec rfl (pc0 := 17) rfl (hb hbytes d17) rfl (ii_eq_t rfl) (by decide) rfl ?_
    refine XS.aloadN X6.here hexec rfl (hb hbytes d57) rfl rfl ?_
    exact Steps.refl _)
  have X8 := X6.wide (L':=[]) (cells':=1) (slots':=len) (fun x hx hlt => by
    simp only [List.nil_append,copyLocs,List.mem_map,List.mem_range] at hx
    obtain ⟨i,-,rfl⟩ := hx
    exact absurd hlt (Nat.lt_irrefl _)) (Nat.le_refl _) (by omega)
  exact ⟨T6,some (.ref s.heap.size),_,_,_,X8,rfl,rfl,rfl,(fun h => by cases h),⟨⟨rfl,B6,ba3.like (X3.warmed.alike.symm.trans X6.warmed.alike) p6.1 f6.1 f6.2.1 f6.2.2.1,f6.2.1.trans bv3,by rw [X6.warmed.alike.findClass,f6.1]; exact bf3,by rw [f6.2.2.1,bs3]; simp,fun j hj => by rw [f6.2.2.2 j,if_pos (by omega)]; rfl,kp3.put p6 (Nat.le_refl _)⟩,by rw [p6.2.2,bh3,hh0]; simp⟩,fun fs hl => c8.trans (X8.areturnOut hexec rfl hret rfl (hb hbytes d58) hl)⟩
end Cmp3
namespace CodL
def yN : MethodName := ⟨"java/lang/StringUTF16", "coderFromArrayLen", "([BI)B"⟩
abbrev yB : ByteArray := jdk_52_method_15_code
theorem d0 : decode yB 0 = .ok (.iload_n 1,1) := by decide +kernel
theorem d1 : decode yB 1 = .ok (.aload_n 0,1) := by decide +kernel
theorem d2 : decode yB 2 = .ok (.arraylength,1) := by decide +kernel
theorem d3 : decode yB 3 = .ok (.isub,1) := by decide +kernel
theorem d4 : decode yB 4 = .ok (.bipush 31,2) := by decide +kernel
theorem d6 : decode yB 6 = .ok (.iushr,1) := by decide +kernel
theorem d7 : decode yB 7 = .ok (.i2b,1) := by decide +kernel
theorem d8 : decode yB 8 = .ok (.ireturn,1) := by decide +kernel
def site : List Cond := []
def tab : Cond := tabOf yN yB 2 (some .byte) site
def P (d:Addr) (B:Cell) (args:Array Value) (s:State) : Prop := args = #[.ref d,.int (Int32.ofNat B.slots.size)] ∧ Arr .byte d B s
def E (r:Option Value) (s u:State) : Prop := XT.PureE (some (.int 0)) r s u
theorem law (l:Launch) (d:Addr) (B:Cell) : Law l yN 2 2 0 0 yB 2 (some .byte) site (P d B) E [] 0 0 := by
  refine Law.of_walk (plainFor_of_name (by decide +kernel)) (by decide +kernel) (by decide +kernel) (by decide) (fun _ _ h => by rw [h.1]; rfl) (fun _ U U' hal hh h => ⟨h.1,h.2.mv hal hh⟩) (fun r U U' V V' h1 hal h2 h => XT.PureE.mv r U U' V V' h1 hal h2 h) ?_
  intro p e s m args below meth c s₁ X0 hexec hbytes hml hret hlk hnm hown hh0 W hP
  obtain ⟨rfl,hB⟩ := hP
  have hB0 := hB.mv X0.warmed.alike hh0
  have c1 : Steps p.tables e below (s₁.setTop (entryFrame m #[.ref d,.int (Int32.ofNat B.slots.size)] 2)) (s₁.setTop (mkF m 0 #[.val (.ref d),.val (.int (Int32.ofNat B.slots.size))] [])) := entry rfl
  have c2 : Steps p.tables e below (s₁.setTop (entryFrame m #[.ref d,.int (Int32.ofNat B.slots.size)] 2)) (s₁.setTop (mkF m 2 #[.val (.ref d),.val (.int (Int32.ofNat B.slots.size))] [.ref d,.int (Int32.ofNat B.slots.size)])) := c1.trans (by
    refine XS.iloadN X0.here hexec rfl (hb hbytes d0) rfl ?_
    refine XS.aloadN X0.here hexec rfl (hb hbytes d1) rfl rfl ?_
    exact Steps.refl _)
  have c3 : Steps p.tables e below (s₁.setTop (entryFrame m #[.ref d,.int (Int32.ofNat B.slots.size)] 2)) (s₁.setTop (mkF m 8 #[.val (.ref d),.val (.int (Int32.ofNat B.slots.size))] [.int (lo8 (ushr (Int32.ofNat B.slots.size - Int32.ofNat B.slots.size) 31))])) := c2.trans (by
    refine X0.alen hexec hB0 rfl rfl (hb hbytes d2) ?_
    refine XS.isub X0.here hexec rfl (hb hbytes d3) rfl ?_
    refine bipushV X0.here hexec rfl 31 (hb hbytes d4) (by decide) ?_
    refine iushr X0.here hexec rfl (hb hbytes d6) rfl ?_
    refine i2b X0.here hexec rfl (hb hbytes d7) rfl ?_
    exact Steps.refl _)
  have e0 : lo8 (ushr (Int32.ofNat B.slots.size - Int32.ofNat B.slots.size) 31) = 0 := by rw [Int32.sub_self]; decide
  rw [e0] at c3
  exact ⟨s₁,some (.int 0),_,_,_,X0,rfl,rfl,rfl,(fun h => by cases h),⟨rfl,hh0⟩,fun fs hl => c3.trans (X0.ireturnOut hexec hret rfl (Or.inr (Or.inr (Or.inl rfl))) (hb hbytes d8) hl)⟩
end CodL
def Got (a:Addr) (D:Cell) (fV fC:Field) (A:Cell) (o len:Nat) (r:Option Value) (s u:State) : Prop := r = none ∧ ∃ D' V : Cell,Blank "java/lang/String" a D' u ∧ Same D D' [fV.slot,fC.slot] ∧ D'.slots[fV.slot]? = some (.ref s.heap.size) ∧ D'.slots[fC.slot]? = some (.int 0) ∧ Arr .byte s.heap.size V u ∧ V.vm = .none ∧ u.vm.findClass "[B" = some V.cls ∧ V.slots.size = len ∧ (∀ j,j < len → V.slots[j]? = some (.int (lo8 (cv A (o + j))))) ∧ (∀ (y:Addr) (c:Cell),y ≠ a → s.heap[y]? = some c → u.heap[y]? = some c) ∧ u.heap.size = s.heap.size + 1
theorem Got.mv {a:Addr} {D A:Cell} {fV fC:Field} {o len:Nat} : ∀ r (U U' V V':State),U'.heap = U.heap → V.vm.Alike V'.vm → V'.heap = V.heap → Got a D fV fC A o len r U V → Got a D fV fC A o len r U' V' :=
  fun r U U' V V' h1 hal h2 ⟨e0,D',X,a1,a2,a3,a4,a5,a6,a7,a8,a9,a10,a11⟩ => ⟨e0,D',X,a1.mv hal h2,a2,by rw [h1]; exact a3,a4,by rw [h1]; exact a5.mv hal h2,a6,by rw [hal.findClass]; exact a7,a8,a9,by rw [h1,h2]; exact a10,by rw [h1,h2]; exact a11⟩
namespace New4
def yN : MethodName := ⟨"java/lang/String", "<init>", "([CIILjava/lang/Void;)V"⟩
abbrev yB : ByteArray := jdk_42_method_149_code
theorem d0 : decode yB 0 = .ok (.aload_n 0,1) := by decide +kernel
theorem d1 : decode yB 1 = .ok (.invokespecial 1,3) := by decide +kernel
theorem d4 : decode yB 4 = .ok (.iload_n 3,1) := by decide +kernel
theorem d5 : decode yB 5 = .ok (.ifCond (.ne) 22,3) := by decide +kernel
theorem d27 : decode yB 27 = .ok (.getstatic 38,3) := by decide +kernel
theorem d30 : decode yB 30 = .ok (.ifCond (.eq) 28,3) := by decide +kernel
theorem d33 : decode yB 33 = .ok (.aload_n 1,1) := by decide +kernel
theorem d34 : decode yB 34 = .ok (.iload_n 2,1) := by decide +kernel
theorem d35 : decode yB 35 = .ok (.iload_n 3,1) := by decide +kernel
theorem d36 : decode yB 36 = .ok (.invokestatic 177,3) := by decide +kernel
theorem d39 : decode yB 39 = .ok (.astore 5,2) := by decide +kernel
theorem d41 : decode yB 41 = .ok (.aload_n 0,1) := by decide +kernel
theorem d42 : decode yB 42 = .ok (.aload 5,2) := by decide +kernel
theorem d44 : decode yB 44 = .ok (.iload_n 3,1) := by decide +kernel
theorem d45 : decode yB 45 = .ok (.invokestatic 47,3) := by decide +kernel
theorem d48 : decode yB 48 = .ok (.putfield 15,3) := by decide +kernel
theorem d51 : decode yB 51 = .ok (.aload_n 0,1) := by decide +kernel
theorem d52 : decode yB 52 = .ok (.aload 5,2) := by decide +kernel
theorem d54 : decode yB 54 = .ok (.putfield 9,3) := by decide +kernel
theorem d57 : decode yB 57 = .ok (.return_,1) := by decide +kernel
def site : List Cond := [.fieldLink "java/lang/String" 38 "java/lang/String" "COMPACT_STRINGS" "Z",Cmp3.tab,CodL.tab,.laysFinal "java/lang/String" "java/lang/String" "value" "[B",.fieldLink "java/lang/String" 9 "java/lang/String" "value" "[B",.laysFinal "java/lang/String" "java/lang/String" "coder" "B",.fieldLink "java/lang/String" 15 "java/lang/String" "coder" "B"] ++ objW "java/lang/String" 1 ++ staticW "java/lang/String" 177 Cmp3.yN ++ staticW "java/lang/String" 47 CodL.yN
def tab : Cond := tabOf yN yB 6 none site
def P (a:Addr) (D:Cell) (fV fC:Field) (b:Addr) (A:Cell) (z:Int32) (o len:Nat) (args:Array Value) (s:State) : Prop := args = #[.ref a,.ref b,.int (Int32.ofNat o),.int (Int32.ofNat len),.null] ∧ Blank "java/lang/String" a D s ∧ Found "java/lang/String" "value" "[B" fV s ∧ Found "java/lang/String" "coder" "B" fC s ∧ Ch b A s ∧ StaticIs s "java/lang/String" "COMPACT_STRINGS" "Z" (.int z) ∧ ¬ z = 0 ∧ 0 < len ∧ o + len ≤ A.slots.size ∧ len ≤ 536870912 ∧ ∀ i,i < len → ¬ 255 < cv A (o + i)
def E (a:Addr) (D:Cell) (fV fC:Field) (A:Cell) (o len:Nat) (r:Option Value) (s u:State) : Prop := Got a D fV fC A o len r s u
theorem law (l:Launch) (a:Addr) (D:Cell) (fV fC:Field) (b:Addr) (A:Cell) (z:Int32) (o len:Nat) : Law l yN 5 4 2 35 yB 6 none site (P a D fV fC b A z o len) (E a D fV fC A o len) [⟨a,fC.slot⟩,⟨a,fV.slot⟩] 1 len := by
  refine Law.of_walk (plainFor_of_name (by decide +kernel)) (by decide +kernel) (by decide +kernel) (by decide) (fun _ _ h => by rw [h.1]; rfl) (fun _ U U' hal hh h => ⟨h.1,h.2.1.mv hal hh,h.2.2.1.al hal,h.2.2.2.1.al hal,h.2.2.2.2.1.mv hal hh,h.2.2.2.2.2.1.there hal hh,h.2.2.2.2.2.2⟩) (fun r U U' V V' h1 hal h2 h => Got.mv r U U' V V' h1 hal h2 h) ?_
  intro p e s m args below meth c s₁ X0 hexec hbytes hml hret hlk hnm hown hh0 W hP
  obtain ⟨rfl,hB,f1,f2,hA,s1,hz,l0,l1,l2,hp⟩ := hP
  have a31 := hA.1.2.2.2
  have c1 : Steps p.tables e below (s₁.setTop (entryFrame m #[.ref a,.ref b,.int (Int32.ofNat o),.int (Int32.ofNat len),.null] 6)) (s₁.setTop (mkF m 0 #[.val (.ref a),.val (.ref b),.val (.int (Int32.ofNat o)),.val (.int (Int32.ofNat len)),.val .null,.unset] [])) := entry rfl
  have c2 : Steps p.tables e below (s₁.setTop (entryFrame m #[.ref a,.ref b,.int (Int32.ofNat o),.int (Int32.ofNat len),.null] 6)) (s₁.setTop (mkF m 1 #[.val (.ref a),.val (.ref b),.val (.int (Int32.ofNat o)),.val (.int (Int32.ofNat len)),.val .null,.unset] [.ref a])) := c1.trans (by
    refine XS.aloadN X0.here hexec rfl (hb hbytes d0) rfl rfl ?_
    exact Steps.refl _)
  obtain ⟨T3,X3,q3,st3⟩ := X0.oinit hexec hown (wks W (objW "java/lang/String" 1)) (g:=(mkF m 1 #[.val (.ref a),.val (.ref b),.val (.int (Int32.ofNat o)),.val (.int (Int32.ofNat len)),.val .null,.unset] [.ref a])) rfl (by rw [hml]; rfl) (rest:=[]) rfl (hb hbytes d1) (W:=0) (by show 2 * 0 + 0 ≤ _; decide) (Nat.le_of_ble_eq_true rfl) (Nat.le_of_ble_eq_true rfl)
  have hh3 := q3.trans hh0
  have c4 : Steps p.tables e below (s₁.setTop (entryFrame m #[.ref a,.ref b,.int (Int32.ofNat o),.int (Int32.ofNat len),.null] 6)) (T3.setTop (mkF m 27 #[.val (.ref a),.val (.ref b),.val (.int (Int32.ofNat o)),.val (.int (Int32.ofNat len)),.val .null,.unset] [])) := (c2.trans (st3 _ (Steps.refl _))).trans (by
    refine XS.iloadN X3.here hexec rfl (hb hbytes d4) rfl ?_
    refine XS.ifYes X3.here hexec rfl (pc0 := 5) rfl (hb hbytes d5) rfl (i0_ne_t (nz32 (by omega) l0)) (by decide) rfl ?_
    exact Steps.refl _)
  obtain ⟨T5,X5,q5,st5⟩ := X3.sget hexec hown (wk W (.fieldLink "java/lang/String" 38 "java/lang/String" "COMPACT_STRINGS" "Z")) s1 (fun _ _ h => by rw [hh3]; exact h) (g:=(mkF m 27 #[.val (.ref a),.val (.ref b),.val (.int (Int32.ofNat o)),.val (.int (Int32.ofNat len)),.val .null,.unset] [])) rfl (hb hbytes d27)
  have hh5 := q5.trans hh3
  have c6 : Steps p.tables e below (s₁.setTop (entryFrame m #[.ref a,.ref b,.int (Int32.ofNat o),.int (Int32.ofNat len),.null] 6)) (T5.setTop (mkF m 30 #[.val (.ref a),.val (.ref b),.val (.int (Int32.ofNat o)),.val (.int (Int32.ofNat len)),.val .null,.unset] [.int z])) := c4.trans (st5 _ (Steps.refl _))
  have c7 : Steps p.tables e below (s₁.setTop (entryFrame m #[.ref a,.ref b,.int (Int32.ofNat o),.int (Int32.ofNat len),.null] 6)) (T5.setTop (mkF m 36 #[.val (.ref a),.val (.ref b),.val (.int (Int32.ofNat o)),.val (.int (Int32.ofNat len)),.val .null,.unset] [.int (Int32.ofNat len),.int (Int32.ofNat o),.ref b])) := c6.trans (by
    refine XS.ifNo X5.here hexec rfl (hb hbytes d30) rfl (i0_eq_f hz) ?_
    refine XS.aloadN X5.here hexec rfl (hb hbytes d33) rfl rfl ?_
    refine XS.iloadN X5.here hexec rfl (hb hbytes d34) rfl ?_
    refine XS.iloadN X5.here hexec rfl (hb hbytes d35) rfl ?_
    exact Steps.refl _)
  obtain ⟨v8,T8,X8,E8,g8⟩ := X5.callS hexec (Cmp3.law l b A o len) hown (wks W (staticW "java/lang/String" 177 Cmp3.yN)) (wk W Cmp3.tab) (W:=0) (Nat.le_of_ble_eq_true rfl) (Nat.le_of_ble_eq_true rfl) (Nat.le_refl _) (by show 0 + len ≤ len; omega) (g:=(mkF m 36 #[.val (.ref a),.val (.ref b),.val (.int (Int32.ofNat o)),.val (.int (Int32.ofNat len)),.val .null,.unset] [.int (Int32.ofNat len),.int (Int32.ofNat o),.ref b])) rfl (by rw [hml]; rfl) c7 (argsL:=[.ref b,.int (Int32.ofNat o),.int (Int32.ofNat len)]) (rest:=[]) rfl rfl (by show 2 * 0 + 0 ≤ _; decide) (hb hbytes d36) (⟨rfl,hA.mv X5.warmed.alike hh5,l1,l2,hp⟩)
  obtain ⟨e8,z8⟩ := E8
  obtain ⟨rfl,N,n1,n2,n3,n4,n5,n6⟩ := NewArr.mv _ T5 s _ _ hh5.symm (Vm.Alike.refl _) rfl e8
  rw [hh5] at z8
  have hB1 := hB.keep X8.warmed.alike (n6 _ _ hB.1)
  have hne : s.heap.size ≠ a := (Nat.ne_of_lt (Array.getElem?_eq_some_iff.mp hB.1).1).symm
  have c9 : Steps p.tables e below (s₁.setTop (entryFrame m #[.ref a,.ref b,.int (Int32.ofNat o),.int (Int32.ofNat len),.null] 6)) (T8.setTop (mkF m 39 #[.val (.ref a),.val (.ref b),.val (.int (Int32.ofNat o)),.val (.int (Int32.ofNat len)),.val .null,.unset] [.ref s.heap.size])) := g8
  have c10 : Steps p.tables e below (s₁.setTop (entryFrame m #[.ref a,.ref b,.int (Int32.ofNat o),.int (Int32.ofNat len),.null] 6)) (T8.setTop (mkF m 45 #[.val (.ref a),.val (.ref b),.val (.int (Int32.ofNat o)),.val (.int (Int32.ofNat len)),.val .null,.val (.ref s.heap.size)] [.int (Int32.ofNat N.slots.size),.ref s.heap.size,.ref a])) := by
    have hc : Steps p.tables e below (s₁.setTop (entryFrame m #[.ref a,.ref b,.int (Int32.ofNat o),.int (Int32.ofNat len),.null] 6)) (T8.setTop (mkF m 45 #[.val (.ref a),.val (.ref b),.val (.int (Int32.ofNat o)),.val (.int (Int32.ofNat len)),.val .null,.val (.ref s.heap.size)] [.int (Int32.ofNat len),.ref s.heap.size,.ref a])) := c9.trans (by
      refine XS.astore X8.here hexec rfl (hb hbytes d39) rfl rfl rfl ?_
      refine XS.aloadN X8.here hexec rfl (hb hbytes d41) rfl rfl ?_
      refine XS.aload X8.here hexec rfl (hb hbytes d42) rfl rfl ?_
      refine XS.iloadN X8.here hexec rfl (hb hbytes d44) rfl ?_
      exact Steps.refl _)
    rw [n4]; exact hc
  obtain ⟨v11,T11,X11,E11,g11⟩ := X8.callS hexec (CodL.law l s.heap.size N) hown (wks W (staticW "java/lang/String" 47 CodL.yN)) (wk W CodL.tab) (W:=1) (Nat.le_of_ble_eq_true rfl) (Nat.le_of_ble_eq_true rfl) (Nat.le_refl _) (by show 0 + len + 0 ≤ len; omega) (g:=(mkF m 45 #[.val (.ref a),.val (.ref b),.val (.int (Int32.ofNat o)),.val (.int (Int32.ofNat len)),.val .null,.val (.ref s.heap.size)] [.int (Int32.ofNat N.slots.size),.ref s.heap.size,.ref a])) rfl (by rw [hml]; rfl) c10 (argsL:=[.ref s.heap.size,.int (Int32.ofNat N.slots.size)]) (rest:=[.ref a]) rfl rfl (by show 2 * 0 + (1 + 0) ≤ _; decide) (hb hbytes d45) (⟨rfl,n1⟩)
  obtain ⟨rfl,q11⟩ := E11
  have hB11 := hB1.mv (X8.warmed.alike.symm.trans X11.warmed.alike) q11
  have c12 : Steps p.tables e below (s₁.setTop (entryFrame m #[.ref a,.ref b,.int (Int32.ofNat o),.int (Int32.ofNat len),.null] 6)) (T11.setTop (mkF m 48 #[.val (.ref a),.val (.ref b),.val (.int (Int32.ofNat o)),.val (.int (Int32.ofNat len)),.val .null,.val (.ref s.heap.size)] [.int 0,.ref a])) := g11
  obtain ⟨T13,X13,p13,bl13,sl13,st13⟩ := X11.finit hexec hown (wk W (.fieldLink "java/lang/String" 15 "java/lang/String" "coder" "B")) (Or.inr ⟨_,(wk W (.laysFinal "java/lang/String" "java/lang/String" "coder" "B"))⟩) (Or.inl ⟨rfl,hnm⟩) f2 (Or.inl rfl) hB11 (t:=.byte) (by decide +kernel) rfl (g:=(mkF m 48 #[.val (.ref a),.val (.ref b),.val (.int (Int32.ofNat o)),.val (.int (Int32.ofNat len)),.val .null,.val (.ref s.heap.size)] [.int 0,.ref a])) rfl (rest:=[]) rfl (hb hbytes d48)
  have c14 : Steps p.tables e below (s₁.setTop (entryFrame m #[.ref a,.ref b,.int (Int32.ofNat o),.int (Int32.ofNat len),.null] 6)) (T13.setTop (mkF m 54 #[.val (.ref a),.val (.ref b),.val (.int (Int32.ofNat o)),.val (.int (Int32.ofNat len)),.val .null,.val (.ref s.heap.size)] [.ref s.heap.size,.ref a])) := (c12.trans (st13 _ (Steps.refl _))).trans (by
    refine XS.aloadN X13.here hexec rfl (hb hbytes d51) rfl rfl ?_
    refine XS.aload X13.here hexec rfl (hb hbytes d52) rfl rfl ?_
    exact Steps.refl _)
  obtain ⟨T15,X15,p15,bl15,sl15,st15⟩ := X13.finit hexec hown (wk W (.fieldLink "java/lang/String" 9 "java/lang/String" "value" "[B")) (Or.inr ⟨_,(wk W (.laysFinal "java/lang/String" "java/lang/String" "value" "[B"))⟩) (Or.inl ⟨rfl,hnm⟩) f1 (Or.inl rfl) bl13 (t:=(.array .byte)) (by decide +kernel) rfl (g:=(mkF m 54 #[.val (.ref a),.val (.ref b),.val (.int (Int32.ofNat o)),.val (.int (Int32.ofNat len)),.val .null,.val (.ref s.heap.size)] [.ref s.heap.size,.ref a])) rfl (rest:=[]) rfl (hb hbytes d54)
  have c16 : Steps p.tables e below (s₁.setTop (entryFrame m #[.ref a,.ref b,.int (Int32.ofNat o),.int (Int32.ofNat len),.null] 6)) (T15.setTop (mkF m 57 #[.val (.ref a),.val (.ref b),.val (.int (Int32.ofNat o)),.val (.int (Int32.ofNat len)),.val .null,.val (.ref s.heap.size)] [])) := c14.trans (st15 _ (Steps.refl _))
  have ap := apart (Or.inr ⟨_,(wk W (.laysFinal "java/lang/String" "java/lang/String" "value" "[B"))⟩) (Or.inr ⟨_,(wk W (.laysFinal "java/lang/String" "java/lang/String" "coder" "B"))⟩) f1 f2 (t₁ := .array .byte) (t₂ := .byte) (by decide +kernel) (by decide +kernel) (by decide)
  have al := X8.warmed.alike.symm.trans X15.warmed.alike
  have n7 : T11.heap[s.heap.size]? = some N := by rw [q11]; exact n1.1
  exact ⟨T15,none,_,_,_,X15,by simp,rfl,by omega,(fun _ => rfl),⟨rfl,_,N,bl15,((Same.refl D _).set _ (by simp)).set _ (by simp),sl15,(Cell.slots_setSlot_ne _ ap).trans sl13,n1.keep al (p15.other hne (p13.other hne n7)),n2,by rw [al.findClass]; exact n3,n4,n5,fun y c h1 h2 => p15.other h1 (p13.other h1 (by rw [q11]; exact n6 y c h2)),by rw [p15.2.2,p13.2.2,q11]; exact z8⟩,fun fs hl => c16.trans (X15.returnOut hexec hret (hb hbytes d57) hl)⟩
end New4
namespace New1
def yN : MethodName := ⟨"java/lang/String", "<init>", "([C)V"⟩
abbrev yB : ByteArray := jdk_42_method_3_code
theorem d0 : decode yB 0 = .ok (.aload_n 0,1) := by decide +kernel
theorem d1 : decode yB 1 = .ok (.aload_n 1,1) := by decide +kernel
theorem d2 : decode yB 2 = .ok (.iconst 0,1) := by decide +kernel
theorem d3 : decode yB 3 = .ok (.aload_n 1,1) := by decide +kernel
theorem d4 : decode yB 4 = .ok (.arraylength,1) := by decide +kernel
theorem d5 : decode yB 5 = .ok (.aconst_null,1) := by decide +kernel
theorem d6 : decode yB 6 = .ok (.invokespecial 27,3) := by decide +kernel
theorem d9 : decode yB 9 = .ok (.return_,1) := by decide +kernel
def site : List Cond := [New4.tab] ++ initW "java/lang/String" 27 New4.yN
def tab : Cond := tabOf yN yB 2 none site
def P (a:Addr) (D:Cell) (fV fC:Field) (b:Addr) (A:Cell) (z:Int32) (args:Array Value) (s:State) : Prop := args = #[.ref a,.ref b] ∧ Blank "java/lang/String" a D s ∧ Found "java/lang/String" "value" "[B" fV s ∧ Found "java/lang/String" "coder" "B" fC s ∧ Ch b A s ∧ StaticIs s "java/lang/String" "COMPACT_STRINGS" "Z" (.int z) ∧ ¬ z = 0 ∧ 0 < A.slots.size ∧ A.slots.size ≤ 536870912 ∧ ∀ i,i < A.slots.size → ¬ 255 < cv A i
def E (a:Addr) (D:Cell) (fV fC:Field) (A:Cell) (r:Option Value) (s u:State) : Prop := Got a D fV fC A 0 A.slots.size r s u
theorem law (l:Launch) (a:Addr) (D:Cell) (fV fC:Field) (b:Addr) (A:Cell) (z:Int32) : Law l yN 2 1 3 52 yB 2 none site (P a D fV fC b A z) (E a D fV fC A) [⟨a,fC.slot⟩,⟨a,fV.slot⟩] 1 A.slots.size := by
  refine Law.of_walk (plainFor_of_name (by decide +kernel)) (by decide +kernel) (by decide +kernel) (by decide) (fun _ _ h => by rw [h.1]; rfl) (fun _ U U' hal hh h => ⟨h.1,h.2.1.mv hal hh,h.2.2.1.al hal,h.2.2.2.1.al hal,h.2.2.2.2.1.mv hal hh,h.2.2.2.2.2.1.there hal hh,h.2.2.2.2.2.2⟩) (fun r U U' V V' h1 hal h2 h => Got.mv r U U' V V' h1 hal h2 h) ?_
  intro p e s m args below meth c s₁ X0 hexec hbytes hml hret hlk hnm hown hh0 W hP
  obtain ⟨rfl,hB,f1,f2,hA,s1,hz,l0,l2,hp⟩ := hP
  have c1 : Steps p.tables e below (s₁.setTop (entryFrame m #[.ref a,.ref b] 2)) (s₁.setTop (mkF m 0 #[.val (.ref a),.val (.ref b)] [])) := entry rfl
  have c2 : Steps p.tables e below (s₁.setTop (entryFrame m #[.ref a,.ref b] 2)) (s₁.setTop (mkF m 6 #[.val (.ref a),.val (.ref b)] [.null,.int (Int32.ofNat A.slots.size),.int 0,.ref b,.ref a])) := c1.trans (by
    refine XS.aloadN X0.here hexec rfl (hb hbytes d0) rfl rfl ?_
    refine XS.aloadN X0.here hexec rfl (hb hbytes d1) rfl rfl ?_
    refine iconstV X0.here hexec rfl 0 (hb hbytes d2) (by decide) ?_
    refine XS.aloadN X0.here hexec rfl (hb hbytes d3) rfl rfl ?_
    refine X0.alen hexec (hA.1.mv X0.warmed.alike hh0) rfl rfl (hb hbytes d4) ?_
    refine XS.aconstNull X0.here hexec rfl (hb hbytes d5) ?_
    exact Steps.refl _)
  obtain ⟨v3,T3,X3,E3,g3⟩ := X0.callN hexec (New4.law l a D fV fC b A z 0 A.slots.size) rfl hown (wks W (initW "java/lang/String" 27 New4.yN)) (W New4.tab (by simp only [site,List.mem_cons,List.mem_append,true_or,or_true])) (W:=0) (Nat.le_of_ble_eq_true rfl) (Nat.le_of_ble_eq_true rfl) (Nat.le_refl _) (by show 0 + A.slots.size ≤ A.slots.size; omega) (g:=(mkF m 6 #[.val (.ref a),.val (.ref b)] [.null,.int (Int32.ofNat A.slots.size),.int (Int32.ofNat 0),.ref b,.ref a])) rfl (by rw [hml]; rfl) c2 (argsL:=[.ref b,.int (Int32.ofNat 0),.int (Int32.ofNat A.slots.size),.null]) (rest:=[]) rfl rfl (by show 2 * 0 + 0 ≤ _; decide) (hb hbytes d6) (⟨rfl,hB.mv X0.warmed.alike hh0,f1.al X0.warmed.alike,f2.al X0.warmed.alike,hA.mv X0.warmed.alike hh0,s1.there X0.warmed.alike hh0,hz,l0,by omega,l2,fun i hi => by rw [Nat.zero_add]; exact hp i hi⟩)
  have e0 := Got.mv _ s₁ s _ _ hh0.symm (Vm.Alike.refl _) rfl E3
  obtain rfl := e0.1
  have c4 : Steps p.tables e below (s₁.setTop (entryFrame m #[.ref a,.ref b] 2)) (T3.setTop (mkF m 9 #[.val (.ref a),.val (.ref b)] [])) := g3
  exact ⟨T3,none,_,_,_,X3,by simp,rfl,by omega,(fun _ => rfl),e0,fun fs hl => c4.trans (X3.returnOut hexec hret (hb hbytes d9) hl)⟩
theorem pays {l:Launch} {R:Room} {p:Program} {e:Env} {below:List Frame} {s:State} {sargs:Array Value} {len W:Nat} (a:Addr) (D:Cell) (fV fC:Field) (b:Addr) (A:Cell) (z:Int32) (htab:tab.before sargs s = true) (hfr:4 ≤ R.frames) (hlo:W + 65 ≤ R.locals) :
    Back l R p e below s sargs yN len W (fun A₁ a₁ => A₁.cells + 1 ≤ R.cells ∧ A₁.slots + A.slots.size ≤ R.slots ∧ P a D fV fC b A z a₁ A₁.U) (fun A₁ _ v₁ B₁ => E a D fV fC A v₁ A₁.U B₁.U ∧ B₁.locs = A₁.locs ++ [⟨a,fC.slot⟩,⟨a,fV.slot⟩] ∧ B₁.cells = A₁.cells + 1 ∧ B₁.slots = A₁.slots + A.slots.size) :=
  (law l a D fV fC b A z).pays htab hfr (by omega)
end New1
theorem lo8_mask {x:Int32} (h0:¬ x < 0) (h1:¬ 255 < x) : lo8 x &&& 255 = x := by
  have t : ∀ k : Fin 256,lo8 (Int32.ofNat k.val) &&& 255 = Int32.ofNat k.val := by decide +kernel
  rw [Int32.lt_iff_toInt_lt] at h0 h1
  have e0 : (0:Int32).toInt = 0 := rfl
  have e1 : (255:Int32).toInt = 255 := rfl
  obtain ⟨k,hk⟩ : ∃ k : Nat,x.toInt = k := ⟨x.toInt.toNat,by omega⟩
  have hx : x = Int32.ofNat k := Int32.toInt_inj.mp (by rw [hk,Int32.toInt_ofNat_small (by omega)])
  rw [hx]
  exact t ⟨k,by omega⟩
end StrChars
namespace StrChars.Road
open Jvm Sem ClassFile Op Lib Jvm.Stand Jvm.Free Jvm.Free.XT
open Jvm.Lib.Cold (StaticIs)
abbrev ST : String := "java/lang/String"
abbrev words : List Jvm.Cond := [.code New1.yN New1.yB 2 none,.initialized ST,.methodLink ST 27 New4.yN,.instanceMethod New4.yN,
  .code New4.yN New4.yB 6 none,.fieldLink ST 38 ST "COMPACT_STRINGS" "Z",.laysFinal ST ST "value" "[B",.fieldLink ST 9 ST "value" "[B",.laysFinal ST ST "coder" "B",.fieldLink ST 15 ST "coder" "B",
  .methodLink ST 1 Lib.objectInit,.instanceMethod Lib.objectInit,.code Lib.objectInit ⟨#[0xb1]⟩ 1 none,.methodLink ST 177 Cmp3.yN,.static Cmp3.yN,.methodLink ST 47 CodL.yN,.static CodL.yN,
  .code Cmp3.yN Cmp3.yB 6 (some (.array .byte)),.initialized U16,.arrayClass .byte,.methodLink U16 115 Cmp5.yN,.static Cmp5.yN,.code Cmp5.yN Cmp5.yB 7 (some .int),.code CodL.yN CodL.yB 2 (some .byte)]
theorem tab_of {a:Array Value} {s:State} (h:∀ w ∈ words,w.before a s = true) : New1.tab.before a s = true := by
  have h5 : Cmp5.tab.before a s = true := unparts (wk h (.code Cmp5.yN Cmp5.yB 7 (some .int))) (wks h (.initialized Cmp5.yN.cls :: Cmp5.site))
  have hc : CodL.tab.before a s = true := unparts (wk h (.code CodL.yN CodL.yB 2 (some .byte))) (wks h (.initialized CodL.yN.cls :: CodL.site))
  have q5 : ∀ w ∈ Cmp5.tab :: words,w.before a s = true := fun w hw => (List.mem_cons.mp hw).elim (fun e => e ▸ h5) (h w)
  have h3 : Cmp3.tab.before a s = true := unparts (wk q5 (.code Cmp3.yN Cmp3.yB 6 (some (.array .byte)))) (wks q5 (.initialized Cmp3.yN.cls :: Cmp3.site))
  have q3 : ∀ w ∈ Cmp3.tab :: CodL.tab :: words,w.before a s = true := fun w hw => (List.mem_cons.mp hw).elim (fun e => e ▸ h3) fun hw => (List.mem_cons.mp hw).elim (fun e => e ▸ hc) (h w)
  have h4 : New4.tab.before a s = true := unparts (wk q3 (.code New4.yN New4.yB 6 none)) (wks q3 (.initialized New4.yN.cls :: New4.site))
  have q4 : ∀ w ∈ New4.tab :: words,w.before a s = true := fun w hw => (List.mem_cons.mp hw).elim (fun e => e ▸ h4) (h w)
  exact unparts (wk q4 (.code New1.yN New1.yB 2 none)) (wks q4 (.initialized New1.yN.cls :: New1.site))
theorem moved {Z s:State} {a0 args:Array Value} (hZ:Z.Warmed39 s.vm) (hw:∀ d ∈ words,d.before a0 Z = true) : ∀ d ∈ words,d.before args s = true := fun d hd => by
  have q := hw d hd
  have t : ∀ d ∈ words,d = .arrayClass .byte ∨ (d.onTables && d.keepsFace) = true := by decide +kernel
  rcases t d hd with rfl | t
  · exact RoadKit.mvA hZ q
  · exact RoadKit.mv hZ q t
def Q (Z:State) (x:Addr) (A:Cell) (h:Heap) (v:Option Value) (h':Heap) (L:List Loc) : Prop := v = none ∧ (∀ y ∈ L,y.base = x) ∧ RoadKit.Keep h h' [x] ∧ h'.size = h.size + 1 ∧ RoadKit.Exa Z h' x ST ∧ RoadKit.Fld Z h' x ST "value" "[B" (.ref h.size) ∧ RoadKit.Fld Z h' x ST "coder" "B" (.int 0) ∧
  (∃ V : Cell,RoadKit.Arr Z h' h.size V .byte ∧ V.vm = .none ∧ Z.vm.findClass "[B" = some V.cls ∧ V.slots.size = A.slots.size ∧ ∀ j,j < A.slots.size → V.slots[j]? = some (.int (lo8 (cv A j)))) ∧
  ∀ (O n d:String) (w:Value),RoadKit.Fld Z h x O n d w → RoadKit.slotOf Z O n d ≠ RoadKit.slotOf Z ST "value" "[B" → RoadKit.slotOf Z O n d ≠ RoadKit.slotOf Z ST "coder" "B" → RoadKit.Fld Z h' x O n d w
theorem back {p:Program} {l:Launch} {e:Env} {R:Room} {s:State} {args:Array Value} {below:List Frame} {len W:Nat} {Z:State} {a0:Array Value} {h:Heap} (hZ:Z.Warmed39 s.vm) (hw:∀ d ∈ words,d.before a0 Z = true) {kI:Nat} (wi:(Jvm.Cond.instantiable ST kI).before a0 Z = true)
    {x b:Addr} {A:Cell} {z:Int32} {v0 c0:Value} (E:RoadKit.Exa Z h x ST) (V:RoadKit.Fld Z h x ST "value" "[B" v0) (C:RoadKit.Fld Z h x ST "coder" "B" c0) (K:RoadKit.Arr Z h b A .char) (hty:Typed .char A) (S:RoadKit.Sta Z h ST "COMPACT_STRINGS" "Z" (.int z)) (hz:¬ z = 0)
    (l0:0 < A.slots.size) (l2:A.slots.size ≤ 536870912) (hp:∀ i,i < A.slots.size → ¬ 255 < cv A i) (hfr:4 ≤ R.frames) (hlo:W + 65 ≤ R.locals) :
    Back l R p e below s args New1.yN len W (fun P a => a = #[.ref x,.ref b] ∧ P.U.heap = h ∧ P.cells + 1 ≤ R.cells ∧ P.slots + A.slots.size ≤ R.slots)
      (fun P _ v B => ∃ L,Q Z x A h v B.U.heap L ∧ B.locs = P.locs ++ L ∧ B.cells = P.cells + 1 ∧ B.slots = P.slots + A.slots.size) := by
  intro m meth c P g ig mk a X hg hsize hdg hW hn hp'
  obtain ⟨rfl,rfl,r1,r2⟩ := hp'
  have al : Z.vm.Alike P.U.vm := hZ.alike.trans X.warmed.alike
  obtain ⟨D,cfV,kV,iV,fV,hD,gV,stV,knV,obV,asV,slV⟩ := id V
  obtain ⟨D',cfC,kC,iC,fC,hD',gC,stC,-,-,asC,slC⟩ := id C
  cases hD.symm.trans hD'
  obtain ⟨D2,kD,e1,e2,e3,e4,e5⟩ := id E
  cases hD.symm.trans e1
  obtain ⟨c2,k2,i1,i2,i3,-⟩ := Cond.instantiable_spec wi
  cases e2.symm.trans i1
  cases e3.symm.trans i2
  obtain ⟨kU,u1,u2⟩ := al.2.2 _ _ e3
  have hB : Blank ST x D P.U := ⟨hD,⟨knV,fun q hq => by rw [hq] at obV; cases obV⟩,by rw [al.findClass]; exact e2,kU,u1,by rw [u2]; exact i3,by rw [u2]; exact e5 i3⟩
  have F1 : Found ST "value" "[B" fV P.U := ⟨SBG.found_only al ⟨cfV,kV,iV,gV⟩,stV⟩
  have F2 : Found ST "coder" "B" fC P.U := ⟨SBG.found_only al ⟨cfC,kC,iC,gC⟩,stC⟩
  have hA : Ch b A P.U := ⟨⟨K.1,State.isArrayOf_alike al K.2.1,K.2.2,by omega⟩,hty⟩
  have hS : StaticIs P.U ST "COMPACT_STRINGS" "Z" (.int z) := by
    obtain ⟨cfS,iS,kS,fS,st,cS,t1,t2,t3,t4,t5,t6,t7⟩ := S
    exact StaticIs.there (s:={ Z with heap := P.U.heap }) ⟨cfS,iS,kS,fS,st,cS,t1,t2,t3,t4,t5,(fun q => by rw [q] at t6; cases t6),t7⟩ al rfl
  obtain ⟨v,B,X',⟨⟨hv,E',V',q1,q2,q3,q4,q5,q6,q7,q8,q9,q10,q11⟩,hl,hc,hs⟩,st⟩ := New1.pays x D fV fC b A z (tab_of (moved hZ hw)) hfr hlo m meth c P g ig mk _ X hg hsize hdg hW hn ⟨r1,r2,rfl,hB,F1,F2,hA,hS,hz,l0,l2,hp⟩
  have al' : Z.vm.Alike B.U.vm := hZ.alike.trans X'.warmed.alike
  have hsz : E'.slots.size = D.slots.size := by
    obtain ⟨-,-,-,kB,w1,w2,w3⟩ := q1
    obtain ⟨kB',y1,y2⟩ := al'.2.2 _ _ e3
    rw [q2.2.1] at w1
    cases w1.symm.trans y1
    rw [w3,e5 i3,y2]
  refine ⟨v,B,X',⟨_,⟨hv,?_,⟨by omega,fun y cy hy hn' => q10 y cy (by simpa using hn') hy,fun y cy hy => ?_⟩,q11,⟨E',_,q1.1,by rw [q2.2.1]; exact e2,by rw [q2.2.1]; exact e3,by rw [q2.1]; exact obV,fun _ => by rw [hsz]; exact e5 i3⟩,
    ⟨E',cfV,kV,iV,fV,q1.1,gV,stV,by rw [q2.1]; exact knV,by rw [q2.1]; exact obV,by rw [q2.2.1]; exact asV,q3⟩,⟨E',cfC,kC,iC,fC,q1.1,gC,stC,by rw [q2.1]; exact knV,by rw [q2.1]; exact obV,by rw [q2.2.1]; exact asC,q4⟩,
    ⟨V',⟨q5.1,State.isArrayOf_alike al'.symm q5.2.1,q5.2.2.1⟩,q6,by rw [← al'.findClass]; exact q7,q8,fun j hj => by have := q9 j hj; rwa [Nat.zero_add] at this⟩,fun O n d w F n1 n2 => ?_⟩,hl,hc,hs⟩,st⟩
  · intro y hy
    simp only [List.mem_cons,List.not_mem_nil,or_false] at hy
    rcases hy with rfl | rfl <;> rfl
  · by_cases q : y = x
    · subst q
      cases hD.symm.trans hy
      exact ⟨E',q1.1,q2.2.1,q2.1,hsz⟩
    · exact ⟨cy,q10 y cy q hy,rfl,rfl,rfl⟩
  · obtain ⟨D3,cf,k,i,f,g1,g2,g3,g4,g5,g6,g7⟩ := F
    cases hD.symm.trans g1
    simp only [RoadKit.slotOf,g2,gV,gC,Option.map_some,Option.getD_some] at n1 n2
    exact ⟨E',cf,k,i,f,q1.1,g2,g3,by rw [q2.1]; exact g4,by rw [q2.1]; exact g5,by rw [q2.2.1]; exact g6,by rw [q2.2.2 f.slot (by simp [n1,n2])]; exact g7⟩
end StrChars.Road
namespace StrChars.Road
open Jvm Sem ClassFile Op Lib Jvm.Stand Jvm.Free Jvm.Free.XT
def QA (Z:State) (x:Addr) (zn:Int32) (cs:List Int32) (h:Heap) (v:Option Value) (h':Heap) (L:List Loc) : Prop := v = none ∧ (∀ y ∈ L,y.base = x) ∧ RoadKit.Keep h h' [x] ∧ h'.size = h.size + 1 ∧ RoadKit.Exa Z h' x ST ∧ RoadKit.Fld Z h' x ST "value" "[B" (.ref h.size) ∧ RoadKit.Fld Z h' x ST "coder" "B" (.int 0) ∧
  (∃ kb,Z.vm.findClass "[B" = some kb ∧ RoadKit.Arv Z h' h.size kb .byte zn (cs.map fun c => .int (lo8 c)) (.int 0)) ∧
  ∀ (O n d:String) (w:Value),RoadKit.Fld Z h x O n d w → RoadKit.slotOf Z O n d ≠ RoadKit.slotOf Z ST "value" "[B" → RoadKit.slotOf Z O n d ≠ RoadKit.slotOf Z ST "coder" "B" → RoadKit.Fld Z h' x O n d w
theorem backArv {p:Program} {l:Launch} {e:Env} {R:Room} {s:State} {args:Array Value} {below:List Frame} {len W:Nat} {Z:State} {a0:Array Value} {h:Heap} (hZ:Z.Warmed39 s.vm) (hw:∀ d ∈ words,d.before a0 Z = true) {kI:Nat} (wi:(Jvm.Cond.instantiable ST kI).before a0 Z = true)
    {x b:Addr} {k:ClassId} {zn z:Int32} {cs:List Int32} {dv v0 c0:Value} (E:RoadKit.Exa Z h x ST) (V:RoadKit.Fld Z h x ST "value" "[B" v0) (C:RoadKit.Fld Z h x ST "coder" "B" c0) (K:RoadKit.Arv Z h b k .char zn (cs.map Value.int) dv) (S:RoadKit.Sta Z h ST "COMPACT_STRINGS" "Z" (.int z)) (hz:¬ z = 0)
    (hlen:zn.toNatClampNeg = cs.length) (h0:0 < cs.length) (hbig:cs.length ≤ 536870912) (hall:∀ c ∈ cs,¬ 255 < c) (hfr:4 ≤ R.frames) (hlo:W + 65 ≤ R.locals) :
    Back l R p e below s args New1.yN len W (fun P a => a = #[.ref x,.ref b] ∧ P.U.heap = h ∧ P.cells + 1 ≤ R.cells ∧ P.slots + cs.length ≤ R.slots)
      (fun P _ v B => ∃ L,QA Z x zn cs h v B.U.heap L ∧ B.locs = P.locs ++ L ∧ B.cells = P.cells + 1 ∧ B.slots = P.slots + cs.length) := by
  obtain ⟨A,K1,K2,K3,K4,K5,K6⟩ := K
  have e : A.slots.size = cs.length := K3.trans hlen
  have hat : ∀ (i:Nat) (hi:i < cs.length),A.slots[i]? = some (.int cs[i]) := fun i hi => by rw [K5 i (by omega)]; simp [List.getD_eq_getElem?_getD,hi]
  have hcv : ∀ (i:Nat) (hi:i < cs.length),cv A i = cs[i] := fun i hi => by unfold cv; rw [hat i hi]
  have hty : Typed .char A := fun i v hv => by
    have hi : i < A.slots.size := (Array.getElem?_eq_some_iff.mp hv).1
    have q := K5 i hi
    rw [hv] at q
    rw [Option.some.inj q]
    exact K6 i hi
  refine Back.mono (back hZ hw wi E V C K1 hty S hz (by omega) (by omega) (fun i hi => by rw [hcv i (by omega)]; exact hall _ (List.getElem_mem _)) hfr hlo) (fun P a hp => ⟨hp.1,hp.2.1,hp.2.2.1,by rw [e]; exact hp.2.2.2⟩) (fun P a v B hp hq => ?_)
  obtain ⟨L,⟨q1,q2,q3,q4,q5,q6,q7,⟨V',v1,v2,v3,v4,v5⟩,q9⟩,hl,hc,hs⟩ := hq
  refine ⟨L,⟨q1,q2,q3,q4,q5,q6,q7,⟨V'.cls,v3,V',v1,rfl,by rw [v4,e,hlen],K4,fun i hi => ?_,fun i hi => ?_⟩,q9⟩,hl,hc,by rw [hs,e]⟩
  · have hi' : i < cs.length := by omega
    rw [v5 i (by omega),hcv i hi']; simp [List.getD_eq_getElem?_getD,hi']
  · have hi' : i < cs.length := by omega
    simp only [List.getD_eq_getElem?_getD,List.getElem?_map,List.getElem?_eq_getElem hi',Option.map_some,Option.getD_some]
    exact fits_lo8 _
end StrChars.Road
namespace StrChars.Road
open Jvm Sem ClassFile Op Lib Jvm.Stand Jvm.Free Jvm.Free.XT
def QV (Z:State) (x:Addr) (N:Int32) (bs:List Int32) (h:Heap) (n0:Nat) (v:Option Value) (h':Heap) (L:List Loc) : Prop := v = none ∧ RoadKit.Fr n0 L ∧ RoadKit.Keep h h' [x] ∧ RoadKit.Exa Z h' x ST ∧ RoadKit.Fld Z h' x ST "coder" "B" (.int 0) ∧
  ∃ (t:Addr) (kb:ClassId),n0 ≤ t ∧ h.size ≤ t ∧ ¬ t = x ∧ RoadKit.Fld Z h' x ST "value" "[B" (.ref t) ∧ RoadKit.Arv Z h' t kb .byte N (bs.map Value.int) (.int 0)
theorem backV {p:Program} {l:Launch} {e:Env} {R:Room} {s:State} {args:Array Value} {below:List Frame} {len W:Nat} {Z:State} {a0:Array Value} {h:Heap} (hZ:Z.Warmed39 s.vm) (hw:∀ d ∈ words,d.before a0 Z = true) {kI:Nat} (wi:(Jvm.Cond.instantiable ST kI).before a0 Z = true)
    {x b:Addr} {kC:ClassId} {cs bs:List Int32} {d v0 c0:Value} {z N:Int32} {n n0:Nat} (hx0:n0 ≤ x) (hh0:n0 ≤ h.size) (E:RoadKit.Exa Z h x ST) (V:RoadKit.Fld Z h x ST "value" "[B" v0) (C:RoadKit.Fld Z h x ST "coder" "B" c0) (K:RoadKit.Arv Z h b kC .char N (cs.map Value.int) d) (S:RoadKit.Sta Z h ST "COMPACT_STRINGS" "Z" (.int z)) (hz:¬ z = 0)
    (hn:cs.length = n) (hN:N = Int32.ofNat n) (l0:0 < n) (l2:n ≤ 4000) (hp:∀ c ∈ cs,¬ c < 0 ∧ ¬ (255:Int32) < c) (hb:bs = cs.map (fun c => c.toInt8.toInt32)) (hfr:4 ≤ R.frames) (hlo:W + 65 ≤ R.locals) :
    Back l R p e below s args (⟨"java/lang/String", "<init>", "([C)V"⟩ : MethodName) len W (fun P a => a = #[.ref x,.ref b] ∧ P.U.heap = h ∧ P.cells + 1 ≤ R.cells ∧ P.slots + n ≤ R.slots)
      (fun P _ v B => ∃ L,QV Z x N bs h n0 v B.U.heap L ∧ B.locs = P.locs ++ L ∧ B.cells = P.cells + 1 ∧ B.slots = P.slots + n) := by
  subst hn hN hb
  refine Back.mono (backArv hZ hw wi E V C K S hz (n32 (by omega)) l0 (by omega) (fun c hc => (hp c hc).2) hfr hlo) (fun P a hp => hp) (fun P a v B hp hq => ?_)
  obtain ⟨L,⟨q1,q2,q3,q4,q5,q6,q7,⟨kb,v1,v2⟩,q9⟩,hl,hc,hs⟩ := hq
  exact ⟨L,⟨q1,fun y hy => by rw [q2 y hy]; exact hx0,q3,q5,q7,h.size,kb,hh0,Nat.le_refl _,Nat.ne_of_gt E.lt,q6,by rw [List.map_map]; exact v2⟩,hl,hc,hs⟩
end StrChars.Road
namespace StrChars
open Jvm Sem ClassFile Op Lib Jvm.Stand Jvm.Free.XT Jvm.Free.ALB Jvm.Free.JM Jvm.Free
open Jvm.Lib.Cold (StaticIs)
def hi8 (x:Int32) : Int32 := lo8 (x >>> ((8:Int32) &&& 31))
def pairCh (u v:Int32) : Int32 := (((u &&& 255) <<< ((0:Int32) &&& 31)) ||| ((v &&& 255) <<< ((8:Int32) &&& 31))).toUInt32.toUInt16.toUInt32.toInt32
theorem shr0 (c:Int32) : c >>> ((0:Int32) &&& 31) = c := by
  have e : ((0:Int32) &&& 31) = 0 := by decide
  rw [e]
  apply Int32.toBitVec_inj.mp
  rw [Int32.toBitVec_shiftRight]
  have e1 : ((0:Int32).toBitVec.smod 32) = 0#32 := by decide
  rw [e1,BitVec.sshiftRight_eq']
  exact BitVec.sshiftRight_zero
theorem lo8_and (x:Int32) : (lo8 x &&& 255).toBitVec.toNat = x.toBitVec.toNat % 256 := by
  have h : (lo8 x).toBitVec = (x.toBitVec.signExtend 8).signExtend 32 := by rw [lo8,Int8.toBitVec_toInt32,Int32.toBitVec_toInt8]
  rw [Int32.toBitVec_and,BitVec.toNat_and,h]
  have e : ((x.toBitVec.signExtend 8).signExtend 32).toNat % 256 = x.toBitVec.toNat % 256 := by
    rw [BitVec.toNat_signExtend]
    have hlt := x.toBitVec.isLt
    simp only [BitVec.toNat_setWidth,BitVec.toNat_signExtend]
    split <;> split <;> omega
  rw [← e]
  exact Nat.and_two_pow_sub_one_eq_mod _ 8
theorem pair_says {c:Int32} (h0:¬ c < 0) (h1:¬ 65535 < c) : pairCh (lo8 c) (hi8 c) = c := by
  rw [Int32.lt_iff_toInt_lt] at h0 h1
  have e0 : (0:Int32).toInt = 0 := rfl
  have e1 : (65535:Int32).toInt = 65535 := rfl
  have hc : c.toInt = c.toBitVec.toNat := by
    have := c.toBitVec.isLt
    have e : c.toInt = c.toBitVec.toInt := rfl
    rw [e] at h0 h1
    rw [e]
    rw [BitVec.toInt_eq_toNat_cond] at h0 h1 ⊢
    split at h0 <;> split <;> omega
  have hn : c.toBitVec.toNat < 65536 := by omega
  have a1 := lo8_and c
  have a2 : (hi8 c &&& 255).toBitVec.toNat = c.toBitVec.toNat / 256 := by
    rw [hi8,lo8_and]
    have e : ((8:Int32) &&& 31) = 8 := by decide
    rw [e,Int32.toBitVec_shiftRight]
    have e2 : ((8:Int32).toBitVec.smod 32) = 8#32 := by decide
    rw [e2,BitVec.sshiftRight_eq',BitVec.toNat_sshiftRight_of_msb_false (by rw [BitVec.msb_eq_false_iff_two_mul_lt]; omega)]
    show c.toBitVec.toNat >>> 8 % 256 = _
    rw [Nat.shiftRight_eq_div_pow]
    omega
  unfold pairCh
  apply Int32.toBitVec_inj.mp
  apply BitVec.eq_of_toNat_eq
  have f0 : ((0:Int32) &&& 31) = 0 := by decide
  have f8 : ((8:Int32) &&& 31) = 8 := by decide
  rw [f0,f8]
  have g : (((lo8 c &&& 255) <<< (0:Int32)) ||| ((hi8 c &&& 255) <<< (8:Int32))).toBitVec.toNat = c.toBitVec.toNat := by
    rw [Int32.toBitVec_or,Int32.toBitVec_shiftLeft,Int32.toBitVec_shiftLeft]
    have s0 : ((0:Int32).toBitVec.smod 32) = 0#32 := by decide
    have s8 : ((8:Int32).toBitVec.smod 32) = 8#32 := by decide
    rw [s0,s8,BitVec.toNat_or]
    simp only [BitVec.shiftLeft_eq',BitVec.toNat_shiftLeft,a1,a2]
    show (c.toBitVec.toNat % 256) <<< 0 % 2 ^ 32 ||| (c.toBitVec.toNat / 256) <<< 8 % 2 ^ 32 = _
    rw [Nat.shiftLeft_zero,Nat.mod_eq_of_lt (show c.toBitVec.toNat % 256 < 2 ^ 32 by omega),Nat.mod_eq_of_lt (show (c.toBitVec.toNat / 256) <<< 8 < 2 ^ 32 by rw [Nat.shiftLeft_eq]; omega),Nat.or_comm,← Nat.shiftLeft_add_eq_or_of_lt (by omega),Nat.shiftLeft_eq]
    omega
  show BitVec.toNat (((((lo8 c &&& 255) <<< (0:Int32)) ||| ((hi8 c &&& 255) <<< (8:Int32))).toBitVec.setWidth 16).setWidth 32) = _
  rw [BitVec.toNat_setWidth,BitVec.toNat_setWidth,g]
  omega
end StrChars
namespace StrChars
open Jvm Sem ClassFile Op Lib Jvm.Stand Jvm.Free.XT Jvm.Free.ALB Jvm.Free.JM Jvm.Free
open Jvm.Lib.Cold (StaticIs)
theorem shr1 {n:Nat} (h:2 * n < 2 ^ 31) : Int32.ofNat (2 * n) >>> ((1:Int32) &&& 31) = Int32.ofNat n := by
  have e : ((1:Int32) &&& 31) = 1 := by decide
  rw [e]
  apply Int32.toBitVec_inj.mp
  rw [Int32.toBitVec_shiftRight]
  have e1 : ((1:Int32).toBitVec.smod 32) = 1#32 := by decide
  have hm : (BitVec.ofNat 32 (2 * n)).toNat = 2 * n := by rw [BitVec.toNat_ofNat,Nat.mod_eq_of_lt (by omega)]
  rw [e1,BitVec.sshiftRight_eq']
  apply BitVec.eq_of_toNat_eq
  show ((BitVec.ofNat 32 (2 * n)).sshiftRight 1).toNat = (BitVec.ofNat 32 n).toNat
  rw [BitVec.toNat_sshiftRight_of_msb_false (by rw [BitVec.msb_eq_false_iff_two_mul_lt,hm]; omega),hm,BitVec.toNat_ofNat,Nat.shiftRight_eq_div_pow]
  omega
def chr8 (u:Int32) : Int32 := (u &&& 255).toUInt32.toUInt16.toUInt32.toInt32
theorem chr8_lo8 {c:Int32} (h0:¬ c < 0) (h1:¬ 255 < c) : chr8 (lo8 c) = c := by
  have t : ∀ k : Fin 256,(Int32.ofNat k.val).toUInt32.toUInt16.toUInt32.toInt32 = Int32.ofNat k.val := by decide +kernel
  unfold chr8
  rw [lo8_mask h0 h1]
  rw [Int32.lt_iff_toInt_lt] at h0 h1
  have e0 : (0:Int32).toInt = 0 := rfl
  have e1 : (255:Int32).toInt = 255 := rfl
  obtain ⟨k,hk⟩ : ∃ k : Nat,c.toInt = k := ⟨c.toInt.toNat,by omega⟩
  have hx : c = Int32.ofNat k := Int32.toInt_inj.mp (by rw [hk,Int32.toInt_ofNat_small (by omega)])
  rw [hx]
  exact t ⟨k,by omega⟩
theorem narrow_ch {c:Int32} (h0:¬ c < 0) (h1:¬ 65535 < c) : narrow .char (.int c) = .int c := by
  have q : narrow .char (.int (pairCh (lo8 c) (hi8 c))) = .int (pairCh (lo8 c) (hi8 c)) := narrow_c _
  rwa [pair_says h0 h1] at q
def Cod (cd:Int32) (n:Nat) (f:Nat → Int32) (V:Cell) : Prop := (cd = 0 ∧ V.slots.size = n ∧ ∀ j,j < n → V.slots[j]? = some (.int (lo8 (f j))) ∧ ¬ 255 < f j) ∨ (cd = 1 ∧ V.slots.size = 2 * n ∧ (∀ j,j < n → V.slots[2 * j]? = some (.int (lo8 (f j))) ∧ V.slots[2 * j + 1]? = some (.int (hi8 (f j)))) ∧ ∃ j,j < n ∧ 255 < f j)
theorem Cod.cd {cd:Int32} {n:Nat} {f:Nat → Int32} {V:Cell} (h:Cod cd n f V) : cd = 0 ∨ cd = 1 := h.imp (fun q => q.1) fun q => q.1
theorem Cod.len {cd:Int32} {n:Nat} {f:Nat → Int32} {V:Cell} (h:Cod cd n f V) (hs:V.slots.size < 2 ^ 31) : Int32.ofNat V.slots.size >>> (cd &&& 31) = Int32.ofNat n := by
  rcases h with ⟨rfl,h,-⟩ | ⟨rfl,h,-⟩
  · rw [shr0,h]
  · rw [h,shr1 (by omega)]
def Txt (x t:Addr) (V:Cell) (cd:Int32) (n:Nat) (f:Nat → Int32) (U:State) : Prop := Exact "java/lang/String" x U ∧ Has x "java/lang/String" "value" "[B" (.ref t) U ∧ Has x "java/lang/String" "coder" "B" (.int cd) U ∧ XT.Arr .byte t V U ∧ Cod cd n f V ∧ ∀ j,j < n → ¬ f j < 0 ∧ ¬ 65535 < f j
theorem Txt.mv {x t:Addr} {V:Cell} {cd:Int32} {n:Nat} {f:Nat → Int32} {U U':State} (h:Txt x t V cd n f U) (hal:U.vm.Alike U'.vm) (hh:U'.heap = U.heap) : Txt x t V cd n f U' := ⟨h.1.mv hal hh,h.2.1.mv hal hh,h.2.2.1.mv hal hh,h.2.2.2.1.mv hal hh,h.2.2.2.2⟩
namespace Cdr
def yN : MethodName := ⟨"java/lang/String", "coder", "()B"⟩
abbrev yB : ByteArray := jdk_42_method_152_code
theorem d0 : decode yB 0 = .ok (.getstatic 38,3) := by decide +kernel
theorem d3 : decode yB 3 = .ok (.ifCond (.eq) 10,3) := by decide +kernel
theorem d6 : decode yB 6 = .ok (.aload_n 0,1) := by decide +kernel
theorem d7 : decode yB 7 = .ok (.getfield 15,3) := by decide +kernel
theorem d10 : decode yB 10 = .ok (.goto 4,3) := by decide +kernel
theorem d14 : decode yB 14 = .ok (.ireturn,1) := by decide +kernel
def site : List Cond := [.fieldLink "java/lang/String" 38 "java/lang/String" "COMPACT_STRINGS" "Z",.fieldLink "java/lang/String" 15 "java/lang/String" "coder" "B"]
def tab : Cond := tabOf yN yB 1 (some .byte) site
def P (x:Addr) (cd z:Int32) (args:Array Value) (s:State) : Prop := args = #[.ref x] ∧ Has x "java/lang/String" "coder" "B" (.int cd) s ∧ (cd = 0 ∨ cd = 1) ∧ StaticIs s "java/lang/String" "COMPACT_STRINGS" "Z" (.int z) ∧ ¬ z = 0
def E (cd:Int32) (r:Option Value) (s u:State) : Prop := XT.PureE (some (.int cd)) r s u
theorem law (l:Launch) (x:Addr) (cd z:Int32) : Law l yN 1 0 0 0 yB 1 (some .byte) site (P x cd z) (E cd) [] 0 0 := by
  refine Law.of_walk (plainFor_of_name (by decide +kernel)) (by decide +kernel) (by decide +kernel) (by decide) (fun _ _ h => by rw [h.1]; rfl) (fun _ U U' hal hh h => ⟨h.1,h.2.1.mv hal hh,h.2.2.1,h.2.2.2.1.there hal hh,h.2.2.2.2⟩) (fun r U U' V V' h1 hal h2 h => XT.PureE.mv r U U' V V' h1 hal h2 h) ?_
  intro p e s m args below meth c s₁ X0 hexec hbytes hml hret hlk hnm hown hh0 W hP
  obtain ⟨rfl,hx,hc,s1,hz⟩ := hP
  have c1 : Steps p.tables e below (s₁.setTop (entryFrame m #[.ref x] 1)) (s₁.setTop (mkF m 0 #[.val (.ref x)] [])) := entry rfl
  obtain ⟨T2,X2,q2,st2⟩ := X0.sget hexec hown (wk W (.fieldLink "java/lang/String" 38 "java/lang/String" "COMPACT_STRINGS" "Z")) s1 (fun _ _ h => by rw [hh0]; exact h) (g:=(mkF m 0 #[.val (.ref x)] [])) rfl (hb hbytes d0)
  have hh2 := q2.trans hh0
  have c3 : Steps p.tables e below (s₁.setTop (entryFrame m #[.ref x] 1)) (T2.setTop (mkF m 7 #[.val (.ref x)] [.ref x])) := (c1.trans (st2 _ (Steps.refl _))).trans (by
    refine XS.ifNo X2.here hexec rfl (hb hbytes d3) rfl (i0_eq_f hz) ?_
    refine XS.aloadN X2.here hexec rfl (hb hbytes d6) rfl rfl ?_
    exact Steps.refl _)
  obtain ⟨T4,X4,q4,st4⟩ := X2.hget hexec hown (wk W (.fieldLink "java/lang/String" 15 "java/lang/String" "coder" "B")) (hx.mv X2.warmed.alike hh2) (g:=(mkF m 7 #[.val (.ref x)] [.ref x])) rfl (rest:=[]) rfl (hb hbytes d7)
  have c5 : Steps p.tables e below (s₁.setTop (entryFrame m #[.ref x] 1)) (T4.setTop (mkF m 14 #[.val (.ref x)] [.int cd])) := (c3.trans (st4 _ (Steps.refl _))).trans (by
    refine XS.goto X4.here hexec rfl (pc0 := 10) rfl (hb hbytes d10) (by decide) rfl ?_
    exact Steps.refl _)
  exact ⟨T4,some (.int cd),_,_,_,X4,rfl,rfl,rfl,(fun h => by cases h),⟨rfl,q4.trans hh2⟩,fun fs hl => c5.trans (X4.ireturnOut hexec hret (by rcases hc with rfl | rfl <;> rfl) (Or.inr (Or.inr (Or.inl rfl))) (hb hbytes d14) hl)⟩
end Cdr
namespace Len
def yN : MethodName := ⟨"java/lang/String", "length", "()I"⟩
abbrev yB : ByteArray := jdk_42_method_54_code
theorem d0 : decode yB 0 = .ok (.aload_n 0,1) := by decide +kernel
theorem d1 : decode yB 1 = .ok (.getfield 9,3) := by decide +kernel
theorem d4 : decode yB 4 = .ok (.arraylength,1) := by decide +kernel
theorem d5 : decode yB 5 = .ok (.aload_n 0,1) := by decide +kernel
theorem d6 : decode yB 6 = .ok (.invokevirtual 335,3) := by decide +kernel
theorem d9 : decode yB 9 = .ok (.ishr,1) := by decide +kernel
theorem d10 : decode yB 10 = .ok (.ireturn,1) := by decide +kernel
def site : List Cond := [.fieldLink "java/lang/String" 9 "java/lang/String" "value" "[B",Cdr.tab] ++ virtW "java/lang/String" 335 "java/lang/String" Cdr.yN Cdr.yN
def tab : Cond := tabOf yN yB 1 (some .int) site
def P (x t:Addr) (V:Cell) (cd:Int32) (n:Nat) (f:Nat → Int32) (z:Int32) (args:Array Value) (s:State) : Prop := args = #[.ref x] ∧ Txt x t V cd n f s ∧ StaticIs s "java/lang/String" "COMPACT_STRINGS" "Z" (.int z) ∧ ¬ z = 0
def E (n:Nat) (r:Option Value) (s u:State) : Prop := XT.PureE (some (.int (Int32.ofNat n))) r s u
theorem law (l:Launch) (x t:Addr) (V:Cell) (cd:Int32) (n:Nat) (f:Nat → Int32) (z:Int32) : Law l yN 1 0 1 13 yB 1 (some .int) site (P x t V cd n f z) (E n) [] 0 0 := by
  refine Law.of_walk (plainFor_of_name (by decide +kernel)) (by decide +kernel) (by decide +kernel) (by decide) (fun _ _ h => by rw [h.1]; rfl) (fun _ U U' hal hh h => ⟨h.1,h.2.1.mv hal hh,h.2.2.1.there hal hh,h.2.2.2⟩) (fun r U U' V V' h1 hal h2 h => XT.PureE.mv r U U' V V' h1 hal h2 h) ?_
  intro p e s m args below meth c s₁ X0 hexec hbytes hml hret hlk hnm hown hh0 W hP
  obtain ⟨rfl,hx,s1,hz⟩ := hP
  have v31 := hx.2.2.2.1.2.2.2
  have c1 : Steps p.tables e below (s₁.setTop (entryFrame m #[.ref x] 1)) (s₁.setTop (mkF m 1 #[.val (.ref x)] [.ref x])) := Steps.trans (entry rfl) (by
    refine XS.aloadN X0.here hexec rfl (hb hbytes d0) rfl rfl ?_
    exact Steps.refl _)
  obtain ⟨T2,X2,q2,st2⟩ := X0.hget hexec hown (wk W (.fieldLink "java/lang/String" 9 "java/lang/String" "value" "[B")) (hx.mv X0.warmed.alike hh0).2.1 (g:=(mkF m 1 #[.val (.ref x)] [.ref x])) rfl (rest:=[]) rfl (hb hbytes d1)
  have hh2 := q2.trans hh0
  have hx2 := hx.mv X2.warmed.alike hh2
  have c3 : Steps p.tables e below (s₁.setTop (entryFrame m #[.ref x] 1)) (T2.setTop (mkF m 6 #[.val (.ref x)] [.ref x,.int (Int32.ofNat V.slots.size)])) := (c1.trans (st2 _ (Steps.refl _))).trans (by
    refine X2.alen hexec hx2.2.2.2.1 rfl rfl (hb hbytes d4) ?_
    refine XS.aloadN X2.here hexec rfl (hb hbytes d5) rfl rfl ?_
    exact Steps.refl _)
  obtain ⟨v4,T4,X4,E4,g4⟩ := X2.callV hexec (Cdr.law l x cd z) hown (wks W (virtW "java/lang/String" 335 "java/lang/String" Cdr.yN Cdr.yN)) rfl (by decide) (wk W Cdr.tab) (W:=1) (Nat.le_of_ble_eq_true rfl) (Nat.le_of_ble_eq_true rfl) (Nat.le_refl _) (Nat.le_refl _) (hx2.1.fc X2.warmed.alike) hx2.1.is (g:=(mkF m 6 #[.val (.ref x)] [.ref x,.int (Int32.ofNat V.slots.size)])) rfl (by rw [hml]; rfl) c3 (argsL:=[]) (rest:=[.int (Int32.ofNat V.slots.size)]) rfl rfl (by show 2 * 0 + (1 + 0) ≤ _; decide) (hb hbytes d6) (⟨rfl,hx2.2.2.1,hx.2.2.2.2.1.cd,s1.there X2.warmed.alike hh2,hz⟩)
  obtain ⟨rfl,q4⟩ := E4
  have c5 : Steps p.tables e below (s₁.setTop (entryFrame m #[.ref x] 1)) (T4.setTop (mkF m 10 #[.val (.ref x)] [.int (Int32.ofNat V.slots.size >>> (cd &&& 31))])) := Steps.trans g4 (by
    refine ishr X4.here hexec rfl (hb hbytes d9) rfl ?_
    exact Steps.refl _)
  rw [hx.2.2.2.2.1.len v31] at c5
  exact ⟨T4,some (.int (Int32.ofNat n)),_,_,_,X4,rfl,rfl,rfl,(fun h => by cases h),⟨rfl,q4.trans hh2⟩,fun fs hl => c5.trans (X4.ireturnOut hexec hret rfl (Or.inl rfl) (hb hbytes d10) hl)⟩
theorem pays {l:Launch} {R:Room} {p:Program} {e:Env} {below:List Frame} {s:State} {sargs:Array Value} {len W:Nat} (x t:Addr) (V:Cell) (cd:Int32) (n:Nat) (f:Nat → Int32) (z:Int32) (htab:tab.before sargs s = true) (hfr:2 ≤ R.frames) (hlo:W + 25 ≤ R.locals) :
    Back l R p e below s sargs yN len W (fun A₁ a₁ => A₁.cells + 0 ≤ R.cells ∧ A₁.slots + 0 ≤ R.slots ∧ P x t V cd n f z a₁ A₁.U) (fun A₁ _ v₁ B₁ => E n v₁ A₁.U B₁.U ∧ B₁.locs = A₁.locs ++ [] ∧ B₁.cells = A₁.cells + 0 ∧ B₁.slots = A₁.slots + 0) :=
  (law l x t V cd n f z).pays htab hfr (by omega)
end Len
namespace IsL
def yN : MethodName := ⟨"java/lang/String", "isLatin1", "()Z"⟩
abbrev yB : ByteArray := jdk_42_method_154_code
theorem d0 : decode yB 0 = .ok (.getstatic 38,3) := by decide +kernel
theorem d3 : decode yB 3 = .ok (.ifCond (.eq) 14,3) := by decide +kernel
theorem d6 : decode yB 6 = .ok (.aload_n 0,1) := by decide +kernel
theorem d7 : decode yB 7 = .ok (.getfield 15,3) := by decide +kernel
theorem d10 : decode yB 10 = .ok (.ifCond (.ne) 7,3) := by decide +kernel
theorem d13 : decode yB 13 = .ok (.iconst 1,1) := by decide +kernel
theorem d14 : decode yB 14 = .ok (.goto 4,3) := by decide +kernel
theorem d17 : decode yB 17 = .ok (.iconst 0,1) := by decide +kernel
theorem d18 : decode yB 18 = .ok (.ireturn,1) := by decide +kernel
def site : List Cond := [.fieldLink "java/lang/String" 38 "java/lang/String" "COMPACT_STRINGS" "Z",.fieldLink "java/lang/String" 15 "java/lang/String" "coder" "B"]
def tab : Cond := tabOf yN yB 1 (some .boolean) site
def P (x:Addr) (cd z:Int32) (args:Array Value) (s:State) : Prop := args = #[.ref x] ∧ Has x "java/lang/String" "coder" "B" (.int cd) s ∧ (cd = 0 ∨ cd = 1) ∧ StaticIs s "java/lang/String" "COMPACT_STRINGS" "Z" (.int z) ∧ ¬ z = 0
def E (cd:Int32) (r:Option Value) (s u:State) : Prop := XT.PureE (some (.int (1 - cd))) r s u
theorem law (l:Launch) (x:Addr) (cd z:Int32) : Law l yN 1 0 0 0 yB 1 (some .boolean) site (P x cd z) (E cd) [] 0 0 := by
  refine Law.of_walk (plainFor_of_name (by decide +kernel)) (by decide +kernel) (by decide +kernel) (by decide) (fun _ _ h => by rw [h.1]; rfl) (fun _ U U' hal hh h => ⟨h.1,h.2.1.mv hal hh,h.2.2.1,h.2.2.2.1.there hal hh,h.2.2.2.2⟩) (fun r U U' V V' h1 hal h2 h => XT.PureE.mv r U U' V V' h1 hal h2 h) ?_
  intro p e s m args below meth c s₁ X0 hexec hbytes hml hret hlk hnm hown hh0 W hP
  obtain ⟨rfl,hx,hc,s1,hz⟩ := hP
  have c1 : Steps p.tables e below (s₁.setTop (entryFrame m #[.ref x] 1)) (s₁.setTop (mkF m 0 #[.val (.ref x)] [])) := entry rfl
  obtain ⟨T2,X2,q2,st2⟩ := X0.sget hexec hown (wk W (.fieldLink "java/lang/String" 38 "java/lang/String" "COMPACT_STRINGS" "Z")) s1 (fun _ _ h => by rw [hh0]; exact h) (g:=(mkF m 0 #[.val (.ref x)] [])) rfl (hb hbytes d0)
  have hh2 := q2.trans hh0
  have c3 : Steps p.tables e below (s₁.setTop (entryFrame m #[.ref x] 1)) (T2.setTop (mkF m 7 #[.val (.ref x)] [.ref x])) := (c1.trans (st2 _ (Steps.refl _))).trans (by
    refine XS.ifNo X2.here hexec rfl (hb hbytes d3) rfl (i0_eq_f hz) ?_
    refine XS.aloadN X2.here hexec rfl (hb hbytes d6) rfl rfl ?_
    exact Steps.refl _)
  obtain ⟨T4,X4,q4,st4⟩ := X2.hget hexec hown (wk W (.fieldLink "java/lang/String" 15 "java/lang/String" "coder" "B")) (hx.mv X2.warmed.alike hh2) (g:=(mkF m 7 #[.val (.ref x)] [.ref x])) rfl (rest:=[]) rfl (hb hbytes d7)
  have c5 : Steps p.tables e below (s₁.setTop (entryFrame m #[.ref x] 1)) (T4.setTop (mkF m 10 #[.val (.ref x)] [.int cd])) := c3.trans (st4 _ (Steps.refl _))
  have c6 : Steps p.tables e below (s₁.setTop (entryFrame m #[.ref x] 1)) (T4.setTop (mkF m 18 #[.val (.ref x)] [.int (1 - cd)])) := by
    rcases hc with rfl | rfl
    · exact c5.trans (by
        refine XS.ifNo X4.here hexec rfl (hb hbytes d10) rfl (i0_ne_f rfl) ?_
        refine iconstV X4.here hexec rfl 1 (hb hbytes d13) (by decide) ?_
        refine XS.goto X4.here hexec rfl (pc0 := 14) rfl (hb hbytes d14) (by decide) rfl ?_
        exact Steps.refl _)
    · exact c5.trans (by
        refine XS.ifYes X4.here hexec rfl (pc0 := 10) rfl (hb hbytes d10) rfl (i0_ne_t (by decide)) (by decide) rfl ?_
        refine iconstV X4.here hexec rfl 0 (hb hbytes d17) (by decide) ?_
        exact Steps.refl _)
  exact ⟨T4,some (.int (1 - cd)),_,_,_,X4,rfl,rfl,rfl,(fun h => by cases h),⟨rfl,q4.trans hh2⟩,fun fs hl => c6.trans (X4.ireturnOut hexec hret (by rcases hc with rfl | rfl <;> rfl) (Or.inr (Or.inl rfl)) (hb hbytes d18) hl)⟩
end IsL
namespace LChA
def yN : MethodName := ⟨"java/lang/StringLatin1", "charAt", "([BI)C"⟩
abbrev yB : ByteArray := jdk_43_method_2_code
theorem d0 : decode yB 0 = .ok (.iload_n 1,1) := by decide +kernel
theorem d1 : decode yB 1 = .ok (.aload_n 0,1) := by decide +kernel
theorem d2 : decode yB 2 = .ok (.arraylength,1) := by decide +kernel
theorem d3 : decode yB 3 = .ok (.invokestatic 9,3) := by decide +kernel
theorem d6 : decode yB 6 = .ok (.aload_n 0,1) := by decide +kernel
theorem d7 : decode yB 7 = .ok (.iload_n 1,1) := by decide +kernel
theorem d8 : decode yB 8 = .ok (.baload,1) := by decide +kernel
theorem d9 : decode yB 9 = .ok (.sipush 255,3) := by decide +kernel
theorem d12 : decode yB 12 = .ok (.iand,1) := by decide +kernel
theorem d13 : decode yB 13 = .ok (.i2c,1) := by decide +kernel
theorem d14 : decode yB 14 = .ok (.ireturn,1) := by decide +kernel
def site : List Cond := [JO.Str_checkIndex.tab] ++ staticW "java/lang/StringLatin1" 9 JO.Str_checkIndex.yN
def tab : Cond := tabOf yN yB 2 (some .char) site
def P (t:Addr) (V:Cell) (i:Nat) (u:Int32) (fm:Value) (args:Array Value) (s:State) : Prop := args = #[.ref t,.int (Int32.ofNat i)] ∧ XT.Arr .byte t V s ∧ V.slots[i]? = some (.int u) ∧ (StaticIs s "jdk/internal/util/Preconditions" "SIOOBE_FORMATTER" "Ljava/util/function/BiFunction;" fm ∧ fm.isRef = true)
def E (u:Int32) (r:Option Value) (s w:State) : Prop := XT.PureE (some (.int (chr8 u))) r s w
theorem law (l:Launch) (t:Addr) (V:Cell) (i:Nat) (u:Int32) (fm:Value) : Law l yN 2 2 2 27 yB 2 (some .char) site (P t V i u fm) (E u) [] 0 0 := by
  refine Law.of_walk (plainFor_of_name (by decide +kernel)) (by decide +kernel) (by decide +kernel) (by decide) (fun _ _ h => by rw [h.1]; rfl) (fun _ U U' hal hh h => ⟨h.1,h.2.1.mv hal hh,h.2.2.1,h.2.2.2.1.there hal hh,h.2.2.2.2⟩) (fun r U U' V V' h1 hal h2 h => XT.PureE.mv r U U' V V' h1 hal h2 h) ?_
  intro p e s m args below meth c s₁ X0 hexec hbytes hml hret hlk hnm hown hh0 W hP
  obtain ⟨rfl,hV,hu,s1,rf⟩ := hP
  have v31 := hV.2.2.2
  have hi : i < V.slots.size := (Array.getElem?_eq_some_iff.mp hu).1
  have c1 : Steps p.tables e below (s₁.setTop (entryFrame m #[.ref t,.int (Int32.ofNat i)] 2)) (s₁.setTop (mkF m 0 #[.val (.ref t),.val (.int (Int32.ofNat i))] [])) := entry rfl
  have c2 : Steps p.tables e below (s₁.setTop (entryFrame m #[.ref t,.int (Int32.ofNat i)] 2)) (s₁.setTop (mkF m 3 #[.val (.ref t),.val (.int (Int32.ofNat i))] [.int (Int32.ofNat V.slots.size),.int (Int32.ofNat i)])) := c1.trans (by
    refine XS.iloadN X0.here hexec rfl (hb hbytes d0) rfl ?_
    refine XS.aloadN X0.here hexec rfl (hb hbytes d1) rfl rfl ?_
    refine X0.alen hexec (hV.mv X0.warmed.alike hh0) rfl rfl (hb hbytes d2) ?_
    exact Steps.refl _)
  obtain ⟨v3,T3,X3,E3,g3⟩ := X0.callS hexec (JO.Str_checkIndex.law l (Int32.ofNat i) (Int32.ofNat V.slots.size) fm) hown (wks W (staticW "java/lang/StringLatin1" 9 JO.Str_checkIndex.yN)) (wk W JO.Str_checkIndex.tab) (W:=0) (Nat.le_of_ble_eq_true rfl) (Nat.le_of_ble_eq_true rfl) (Nat.le_refl _) (Nat.le_refl _) (g:=(mkF m 3 #[.val (.ref t),.val (.int (Int32.ofNat i))] [.int (Int32.ofNat V.slots.size),.int (Int32.ofNat i)])) rfl (by rw [hml]; rfl) c2 (argsL:=[.int (Int32.ofNat i),.int (Int32.ofNat V.slots.size)]) (rest:=[]) rfl rfl (by show 2 * 0 + 0 ≤ _; decide) (hb hbytes d3) (⟨rfl,rf,s1.there X0.warmed.alike hh0,Int32.ofNat_not_neg (by omega),lt32 v31 hi⟩)
  obtain ⟨rfl,q3⟩ := E3
  have hh3 := q3.trans hh0
  have c4 : Steps p.tables e below (s₁.setTop (entryFrame m #[.ref t,.int (Int32.ofNat i)] 2)) (T3.setTop (mkF m 14 #[.val (.ref t),.val (.int (Int32.ofNat i))] [.int (chr8 u)])) := Steps.trans g3 (by
    refine XS.aloadN X3.here hexec rfl (hb hbytes d6) rfl rfl ?_
    refine XS.iloadN X3.here hexec rfl (hb hbytes d7) rfl ?_
    refine X3.aget hexec (hV.mv X3.warmed.alike hh3) rfl hu rfl rfl (hb hbytes d8) ?_
    refine sipushV X3.here hexec rfl 255 (hb hbytes d9) (by decide) ?_
    refine XS.iand X3.here hexec rfl (hb hbytes d12) rfl ?_
    refine i2c X3.here hexec rfl (hb hbytes d13) rfl ?_
    exact Steps.refl _)
  exact ⟨T3,some (.int (chr8 u)),_,_,_,X3,rfl,rfl,rfl,(fun h => by cases h),⟨rfl,hh3⟩,fun fs hl => c4.trans (X3.ireturnOut hexec hret (narrow_c _) (Or.inr (Or.inr (Or.inr (Or.inl rfl)))) (hb hbytes d14) hl)⟩
end LChA
end StrChars
namespace StrChars.Road
open Jvm Sem ClassFile Op Lib Jvm.Stand Jvm.Free Jvm.Free.XT
open Jvm.Lib.Cold (StaticIs)
theorem consq {a:Array Value} {s:State} {c:Jvm.Cond} {L:List Jvm.Cond} (h0:c.before a s = true) (h:∀ w ∈ L,w.before a s = true) : ∀ w ∈ c :: L,w.before a s = true := fun w hw => (List.mem_cons.mp hw).elim (fun e => e ▸ h0) (h w)
abbrev wordsLen : List Jvm.Cond := [.code Len.yN Len.yB 1 (some .int),.initialized ST,.fieldLink ST 9 ST "value" "[B",.fieldLink ST 38 ST "COMPACT_STRINGS" "Z",.fieldLink ST 15 ST "coder" "B",.code Cdr.yN Cdr.yB 1 (some .byte),.methodLink ST 335 Cdr.yN,.declares Cdr.yN,.selects ST Cdr.yN Cdr.yN,.instanceMethod Cdr.yN]
theorem tabLen_of {a:Array Value} {s:State} (h:∀ w ∈ wordsLen,w.before a s = true) : Len.tab.before a s = true := by
  have hc : Cdr.tab.before a s = true := unparts (wk h (.code Cdr.yN Cdr.yB 1 (some .byte))) (wks h (.initialized Cdr.yN.cls :: Cdr.site))
  have q := consq hc h
  exact unparts (wk q (.code Len.yN Len.yB 1 (some .int))) (wks q (.initialized Len.yN.cls :: Len.site))
theorem movedLen {Z s:State} {a0 args:Array Value} (hZ:Z.Warmed39 s.vm) (hw:∀ d ∈ wordsLen,d.before a0 Z = true) : ∀ d ∈ wordsLen,d.before args s = true := fun d hd => by
  have q := hw d hd
  have t : ∀ d ∈ wordsLen,d = .arrayClass .byte ∨ (d.onTables && d.keepsFace) = true := by decide +kernel
  rcases t d hd with rfl | t
  · exact RoadKit.mvA hZ q
  · exact RoadKit.mv hZ q t
def wideBytes : List Int32 → List Value
  | [] => []
  | c :: cs => .int (lo8 c) :: .int (hi8 c) :: wideBytes cs
theorem wide_lo (d:Value) : ∀ (cs:List Int32) (j:Nat),j < cs.length → (wideBytes cs).getD (2 * j) d = .int (lo8 (cs.getD j 0))
  | [],j,h => absurd h (Nat.not_lt_zero j)
  | c :: cs,0,_ => rfl
  | c :: cs,j + 1,h => by
    have q := wide_lo d cs j (by simpa using h)
    rw [show 2 * (j + 1) = 2 * j + 1 + 1 from by omega]
    simpa [wideBytes] using q
theorem wide_hi (d:Value) : ∀ (cs:List Int32) (j:Nat),j < cs.length → (wideBytes cs).getD (2 * j + 1) d = .int (hi8 (cs.getD j 0))
  | [],j,h => absurd h (Nat.not_lt_zero j)
  | c :: cs,0,_ => rfl
  | c :: cs,j + 1,h => by
    have q := wide_hi d cs j (by simpa using h)
    rw [show 2 * (j + 1) + 1 = 2 * j + 1 + 1 + 1 from by omega]
    simpa [wideBytes] using q
theorem low_at (d:Value) (cs:List Int32) (j:Nat) (h:j < cs.length) : (cs.map fun c => Value.int (lo8 c)).getD j d = .int (lo8 (cs.getD j 0)) := by
  simp [List.getD_eq_getElem?_getD,h]
def CodA (cs:List Int32) (cd N2:Int32) (vs:List Value) : Prop := (cd = 0 ∧ N2 = Int32.ofNat cs.length ∧ vs = (cs.map fun c => Value.int (lo8 c)) ∧ ∀ c ∈ cs,¬ 255 < c) ∨ (cd = 1 ∧ N2 = Int32.ofNat (2 * cs.length) ∧ vs = wideBytes cs ∧ ∃ c ∈ cs,255 < c)
theorem CodA.cod {cs:List Int32} {cd N2:Int32} {vs:List Value} {V:Cell} (h:CodA cs cd N2 vs) (hn:2 * cs.length < 2 ^ 31) (hs:V.slots.size = N2.toNatClampNeg) (hv:RoadKit.Has V vs (.int 0)) : Cod cd cs.length (fun j => cs.getD j 0) V := by
  rcases h with ⟨rfl,rfl,rfl,h⟩ | ⟨rfl,rfl,rfl,c,hc,hw⟩
  · rw [n32 (by omega)] at hs
    exact Or.inl ⟨rfl,hs,fun j hj => ⟨by rw [hv j (by omega),low_at _ _ _ hj],by
      have e : cs.getD j 0 = cs[j] := by simp [List.getD_eq_getElem?_getD,hj]
      show ¬ 255 < cs.getD j 0
      rw [e]; exact h _ (List.getElem_mem _)⟩⟩
  · rw [n32 (by omega)] at hs
    obtain ⟨j,hj,rfl⟩ := List.getElem_of_mem hc
    exact Or.inr ⟨rfl,hs,fun j hj => ⟨by rw [hv _ (by omega),wide_lo _ _ _ hj],by rw [hv _ (by omega),wide_hi _ _ _ hj]⟩,j,hj,by
      have e : cs.getD j 0 = cs[j] := by simp [List.getD_eq_getElem?_getD,hj]
      show 255 < cs.getD j 0
      rw [e]; exact hw⟩
theorem strObj {Z U:State} {a0:Array Value} {kI:Nat} (wi:(Jvm.Cond.instantiable ST kI).before a0 Z = true) (al:Z.vm.Alike U.vm) {x:Addr} {v0 c0:Value} (E:RoadKit.Exa Z U.heap x ST) (V:RoadKit.Fld Z U.heap x ST "value" "[B" v0) (C:RoadKit.Fld Z U.heap x ST "coder" "B" c0) :
    ∃ (D:Cell) (fV fC:Field),Blank ST x D U ∧ Found ST "value" "[B" fV U ∧ Found ST "coder" "B" fC U ∧ D.slots[fV.slot]? = some v0 ∧ D.slots[fC.slot]? = some c0 ∧ RoadKit.slotOf Z ST "value" "[B" = fV.slot ∧ RoadKit.slotOf Z ST "coder" "B" = fC.slot := by
  obtain ⟨D,cfV,kV,iV,fV,hD,gV,stV,knV,obV,asV,slV⟩ := V
  obtain ⟨D',cfC,kC,iC,fC,hD',gC,stC,-,-,asC,slC⟩ := C
  cases hD.symm.trans hD'
  obtain ⟨D2,kD,e1,e2,e3,e4,e5⟩ := E
  cases hD.symm.trans e1
  obtain ⟨c2,k2,i1,i2,i3,-⟩ := Cond.instantiable_spec wi
  cases e2.symm.trans i1
  cases e3.symm.trans i2
  obtain ⟨kU,u1,u2⟩ := al.2.2 _ _ e3
  exact ⟨D,fV,fC,⟨hD,⟨knV,fun q hq => by rw [hq] at obV; cases obV⟩,by rw [al.findClass]; exact e2,kU,u1,by rw [u2]; exact i3,by rw [u2]; exact e5 i3⟩,⟨SBG.found_only al ⟨cfV,kV,iV,gV⟩,stV⟩,⟨SBG.found_only al ⟨cfC,kC,iC,gC⟩,stC⟩,slV,slC,by simp [RoadKit.slotOf,gV],by simp [RoadKit.slotOf,gC]⟩
theorem sta_is {Z U:State} (al:Z.vm.Alike U.vm) {C n d:String} {v:Value} (S:RoadKit.Sta Z U.heap C n d v) : StaticIs U C n d v := by
  obtain ⟨cfS,iS,kS,fS,st,cS,t1,t2,t3,t4,t5,t6,t7⟩ := S
  exact StaticIs.there (s:={ Z with heap := U.heap }) ⟨cfS,iS,kS,fS,st,cS,t1,t2,t3,t4,t5,(fun q => by rw [q] at t6; cases t6),t7⟩ al rfl
theorem lenW {p:Program} {l:Launch} {e:Env} {R:Room} {s:State} {args:Array Value} {below:List Frame} {len W:Nat} {Z:State} {a0:Array Value} {h:Heap} (hZ:Z.Warmed39 s.vm) (hw:∀ d ∈ wordsLen,d.before a0 Z = true) {kI:Nat} (wi:(Jvm.Cond.instantiable ST kI).before a0 Z = true)
    {x t:Addr} {kb:ClassId} {cs:List Int32} {cd N2 z:Int32} {vs:List Value} (E:RoadKit.Exa Z h x ST) (V:RoadKit.Fld Z h x ST "value" "[B" (.ref t)) (C:RoadKit.Fld Z h x ST "coder" "B" (.int cd)) (K:RoadKit.Arv Z h t kb .byte N2 vs (.int 0)) (hc:CodA cs cd N2 vs) (hb:∀ c ∈ cs,¬ c < 0 ∧ ¬ (65535:Int32) < c)
    (S:RoadKit.Sta Z h ST "COMPACT_STRINGS" "Z" (.int z)) (hz:¬ z = 0) (l2:cs.length ≤ 4000) (hfr:2 ≤ R.frames) (hlo:W + 25 ≤ R.locals) :
    Back l R p e below s args (⟨"java/lang/String", "length", "()I"⟩ : MethodName) len W (fun P a => a = #[.ref x] ∧ P.U.heap = h ∧ P.cells + 0 ≤ R.cells ∧ P.slots + 0 ≤ R.slots)
      (fun P _ v B => ∃ L,(v = some (.int (Int32.ofNat cs.length)) ∧ L = [] ∧ B.U.heap = h) ∧ B.locs = P.locs ++ L ∧ B.cells = P.cells + 0 ∧ B.slots = P.slots + 0) := by
  obtain ⟨A,K1,K2,K3,K4,K5,K6⟩ := K
  have hcod := hc.cod (by omega) K3 K5
  intro m meth c P g ig mk a X hg hsize hdg hW hn hp'
  obtain ⟨rfl,rfl,r1,r2⟩ := hp'
  have al : Z.vm.Alike P.U.vm := hZ.alike.trans X.warmed.alike
  obtain ⟨D,fV,fC,hB,F1,F2,g1,g2,-,-⟩ := strObj wi al E V C
  have hx : Txt x t A cd cs.length (fun j => cs.getD j 0) P.U := ⟨⟨_,hB.2.2.1,D,hB.1,rfl,by cases q : D.vm <;> first | rfl | exact absurd q (hB.2.1.2 _)⟩,Has.of hB F1 g1,Has.of hB F2 g2,⟨K1.1,State.isArrayOf_alike al K1.2.1,K1.2.2,by rcases hcod with ⟨-,q,-⟩ | ⟨-,q,-⟩ <;> omega⟩,hcod,fun j hj => by
    have e : cs.getD j 0 = cs[j] := by simp [List.getD_eq_getElem?_getD,hj]
    show ¬ cs.getD j 0 < 0 ∧ ¬ 65535 < cs.getD j 0
    rw [e]; exact hb _ (List.getElem_mem _)⟩
  obtain ⟨v,B,X',⟨⟨hv,hh⟩,hl,hk,hs⟩,st⟩ := Len.pays x t A cd cs.length (fun j => cs.getD j 0) z (tabLen_of (movedLen hZ hw)) hfr hlo m meth c P g ig mk _ X hg hsize hdg hW hn ⟨r1,r2,rfl,hx,sta_is al S,hz⟩
  exact ⟨v,B,X',⟨[],⟨hv,rfl,hh⟩,hl,hk,hs⟩,st⟩
end StrChars.Road
namespace StrChars
open Jvm Sem ClassFile Op Lib Jvm.Stand Jvm.Free.XT Jvm.Free.ALB Jvm.Free.JM Jvm.Free
open Jvm.Lib.Cold (StaticIs)
def yv (A:Cell) (i:Nat) : Int32 := match A.slots[i]? with | some (.int x) => x | _ => 0
theorem yv_get {a:Addr} {A:Cell} {U:State} (h:XT.Arr .byte a A U) (ht:Typed .byte A) {i:Nat} (hi:i < A.slots.size) : A.slots[i]? = some (.int (yv A i)) := by
  have e := Array.getElem?_eq_getElem hi
  have f := ht i _ e
  unfold yv; rw [e]
  generalize A.slots[i] = v at f
  cases v <;> simp [fits] at f ⊢
def EqC (A B:Cell) : Prop := A.slots.size = B.slots.size ∧ ∀ i,i < A.slots.size → yv A i = yv B i
def Says01 (q:Prop) (r:Option Value) (s u:State) : Prop := ∃ v : Int32,r = some (.int v) ∧ u.heap = s.heap ∧ ((v = 1 ∧ q) ∨ (v = 0 ∧ ¬ q))
theorem Says01.mv {q:Prop} : ∀ r (U U' V V':State),U'.heap = U.heap → V.vm.Alike V'.vm → V'.heap = V.heap → Says01 q r U V → Says01 q r U' V' :=
  fun r U U' V V' h1 _ h2 ⟨v,a,b,c⟩ => ⟨v,a,by rw [h1,h2]; exact b,c⟩
namespace LEq
def yN : MethodName := ⟨"java/lang/StringLatin1", "equals", "([B[B)Z"⟩
abbrev yB : ByteArray := jdk_43_method_13_code
theorem d0 : decode yB 0 = .ok (.aload_n 0,1) := by decide +kernel
theorem d1 : decode yB 1 = .ok (.arraylength,1) := by decide +kernel
theorem d2 : decode yB 2 = .ok (.aload_n 1,1) := by decide +kernel
theorem d3 : decode yB 3 = .ok (.arraylength,1) := by decide +kernel
theorem d4 : decode yB 4 = .ok (.if_icmp (.ne) 30,3) := by decide +kernel
theorem d7 : decode yB 7 = .ok (.iconst 0,1) := by decide +kernel
theorem d8 : decode yB 8 = .ok (.istore_n 2,1) := by decide +kernel
theorem d9 : decode yB 9 = .ok (.iload_n 2,1) := by decide +kernel
theorem d10 : decode yB 10 = .ok (.aload_n 0,1) := by decide +kernel
theorem d11 : decode yB 11 = .ok (.arraylength,1) := by decide +kernel
theorem d12 : decode yB 12 = .ok (.if_icmp (.ge) 20,3) := by decide +kernel
theorem d15 : decode yB 15 = .ok (.aload_n 0,1) := by decide +kernel
theorem d16 : decode yB 16 = .ok (.iload_n 2,1) := by decide +kernel
theorem d17 : decode yB 17 = .ok (.baload,1) := by decide +kernel
theorem d18 : decode yB 18 = .ok (.aload_n 1,1) := by decide +kernel
theorem d19 : decode yB 19 = .ok (.iload_n 2,1) := by decide +kernel
theorem d20 : decode yB 20 = .ok (.baload,1) := by decide +kernel
theorem d21 : decode yB 21 = .ok (.if_icmp (.eq) 5,3) := by decide +kernel
theorem d24 : decode yB 24 = .ok (.iconst 0,1) := by decide +kernel
theorem d25 : decode yB 25 = .ok (.ireturn,1) := by decide +kernel
theorem d26 : decode yB 26 = .ok (.iinc 2 1,3) := by decide +kernel
theorem d29 : decode yB 29 = .ok (.goto (-20),3) := by decide +kernel
theorem d32 : decode yB 32 = .ok (.iconst 1,1) := by decide +kernel
theorem d33 : decode yB 33 = .ok (.ireturn,1) := by decide +kernel
theorem d34 : decode yB 34 = .ok (.iconst 0,1) := by decide +kernel
theorem d35 : decode yB 35 = .ok (.ireturn,1) := by decide +kernel
def site : List Cond := []
def tab : Cond := tabOf yN yB 3 (some .boolean) site
def P (a:Addr) (A:Cell) (b:Addr) (B:Cell) (args:Array Value) (s:State) : Prop := args = #[.ref a,.ref b] ∧ XT.Arr .byte a A s ∧ Typed .byte A ∧ XT.Arr .byte b B s ∧ Typed .byte B
theorem law (l:Launch) (a:Addr) (A:Cell) (b:Addr) (B:Cell) : Law l yN 2 2 0 0 yB 3 (some .boolean) site (P a A b B) (Says01 (EqC A B)) [] 0 0 := by
  refine Law.of_walk (plainFor_of_name (by decide +kernel)) (by decide +kernel) (by decide +kernel) (by decide) (fun _ _ h => by rw [h.1]; rfl) (fun _ U U' hal hh h => ⟨h.1,h.2.1.mv hal hh,h.2.2.1,h.2.2.2.1.mv hal hh,h.2.2.2.2⟩) (fun r U U' V V' h1 hal h2 h => Says01.mv r U U' V V' h1 hal h2 h) ?_
  intro p e s m args below meth c s₁ X0 hexec hbytes hml hret hlk hnm hown hh0 W hP
  obtain ⟨rfl,hA,tA,hB,tB⟩ := hP
  have a31 := hA.2.2.2
  have b31 := hB.2.2.2
  have hA0 := hA.mv X0.warmed.alike hh0
  have hB0 := hB.mv X0.warmed.alike hh0
  have c1 : Steps p.tables e below (s₁.setTop (entryFrame m #[.ref a,.ref b] 3)) (s₁.setTop (mkF m 0 #[.val (.ref a),.val (.ref b),.unset] [])) := entry rfl
  have c2 : Steps p.tables e below (s₁.setTop (entryFrame m #[.ref a,.ref b] 3)) (s₁.setTop (mkF m 4 #[.val (.ref a),.val (.ref b),.unset] [.int (Int32.ofNat B.slots.size),.int (Int32.ofNat A.slots.size)])) := c1.trans (by
    refine XS.aloadN X0.here hexec rfl (hb hbytes d0) rfl rfl ?_
    refine X0.alen hexec hA0 rfl rfl (hb hbytes d1) ?_
    refine XS.aloadN X0.here hexec rfl (hb hbytes d2) rfl rfl ?_
    refine X0.alen hexec hB0 rfl rfl (hb hbytes d3) ?_
    exact Steps.refl _)
  by_cases hs : A.slots.size = B.slots.size
  · have c3 : Steps p.tables e below (s₁.setTop (entryFrame m #[.ref a,.ref b] 3)) (s₁.setTop (mkF m 9 #[.val (.ref a),.val (.ref b),.val (.int 0)] [])) := c2.trans (by
      refine XS.icmpNo X0.here hexec rfl (hb hbytes d4) rfl (ii_ne_f (by rw [hs])) ?_
      refine iconstV X0.here hexec rfl 0 (hb hbytes d7) (by decide) ?_
      refine XS.istoreN X0.here hexec rfl (hb hbytes d8) rfl rfl ?_
      exact Steps.refl _)
    have loop : ∀ (r i:Nat),i + r = A.slots.size → (∀ j,j < i → yv A j = yv B j) → Steps p.tables e below (s₁.setTop (entryFrame m #[.ref a,.ref b] 3)) (s₁.setTop (mkF m 9 #[.val (.ref a),.val (.ref b),.val (.int (Int32.ofNat i))] [])) → ∃ (pc:Nat) (Ls:Array Slot) (v:Int32),(pc = 25 ∨ pc = 33) ∧ ((v = 1 ∧ EqC A B) ∨ (v = 0 ∧ ¬ EqC A B)) ∧ Steps p.tables e below (s₁.setTop (entryFrame m #[.ref a,.ref b] 3)) (s₁.setTop (mkF m pc Ls [.int v])) := by
      intro r
      induction r with
      | zero =>
        intro i hi he cl
        exact ⟨33,_,1,Or.inr rfl,Or.inl ⟨rfl,hs,fun j hj => he j (by omega)⟩,cl.trans (by
          refine XS.iloadN X0.here hexec rfl (hb hbytes d9) rfl ?_
          refine XS.aloadN X0.here hexec rfl (hb hbytes d10) rfl rfl ?_
          refine X0.alen hexec hA0 rfl rfl (hb hbytes d11) ?_
          refine XS.icmpYes X0.here hexec rfl (pc0 := 12) rfl (hb hbytes d12) rfl (ii_ge_t (nlt32 (by omega) (by omega))) (by decide) rfl ?_
          refine iconstV X0.here hexec rfl 1 (hb hbytes d32) (by decide) ?_
          exact Steps.refl _)⟩
      | succ r ih =>
        intro i hi he cl
        have c4 : Steps p.tables e below (s₁.setTop (entryFrame m #[.ref a,.ref b] 3)) (s₁.setTop (mkF m 21 #[.val (.ref a),.val (.ref b),.val (.int (Int32.ofNat i))] [.int (yv B i),.int (yv A i)])) := cl.trans (by
          refine XS.iloadN X0.here hexec rfl (hb hbytes d9) rfl ?_
          refine XS.aloadN X0.here hexec rfl (hb hbytes d10) rfl rfl ?_
          refine X0.alen hexec hA0 rfl rfl (hb hbytes d11) ?_
          refine XS.icmpNo X0.here hexec rfl (hb hbytes d12) rfl (ii_ge_f (lt32 (by omega) (by omega))) ?_
          refine XS.aloadN X0.here hexec rfl (hb hbytes d15) rfl rfl ?_
          refine XS.iloadN X0.here hexec rfl (hb hbytes d16) rfl ?_
          refine X0.aget hexec hA0 rfl (yv_get hA tA (i:=i) (by omega)) rfl rfl (hb hbytes d17) ?_
          refine XS.aloadN X0.here hexec rfl (hb hbytes d18) rfl rfl ?_
          refine XS.iloadN X0.here hexec rfl (hb hbytes d19) rfl ?_
          refine X0.aget hexec hB0 rfl (yv_get hB tB (i:=i) (by omega)) rfl rfl (hb hbytes d20) ?_
          exact Steps.refl _)
        by_cases hv : yv A i = yv B i
        · have c5 : Steps p.tables e below (s₁.setTop (entryFrame m #[.ref a,.ref b] 3)) (s₁.setTop (mkF m 9 #[.val (.ref a),.val (.ref b),.val (.int (Int32.ofNat i + 1))] [])) := c4.trans (by
            refine XS.icmpYes X0.here hexec rfl (pc0 := 21) rfl (hb hbytes d21) rfl (ii_eq_t hv) (by decide) rfl ?_
            refine iincV X0.here hexec rfl 1 (hb hbytes d26) (by decide) rfl rfl ?_
            refine XS.goto X0.here hexec rfl (pc0 := 29) rfl (hb hbytes d29) (by decide) rfl ?_
            exact Steps.refl _)
          rw [succ32] at c5
          exact ih (i + 1) (by omega) (fun j hj => by
            by_cases e : j = i
            · rw [e]; exact hv
            · exact he j (by omega)) c5
        · exact ⟨25,_,0,Or.inl rfl,Or.inr ⟨rfl,fun q => hv (q.2 i (by omega))⟩,c4.trans (by
            refine XS.icmpNo X0.here hexec rfl (hb hbytes d21) rfl (ii_eq_f hv) ?_
            refine iconstV X0.here hexec rfl 0 (hb hbytes d24) (by decide) ?_
            exact Steps.refl _)⟩
    obtain ⟨pc,Ls,v,hpc,hv,cz⟩ := loop A.slots.size 0 (by omega) (fun j hj => absurd hj (Nat.not_lt_zero j)) c3
    have nv : narrow .boolean (.int v) = .int v := by rcases hv with ⟨rfl,-⟩ | ⟨rfl,-⟩ <;> rfl
    rcases hpc with rfl | rfl
    · exact ⟨s₁,some (.int v),_,_,_,X0,rfl,rfl,rfl,(fun h => by cases h),⟨v,rfl,hh0,hv⟩,fun fs hl => cz.trans (X0.ireturnOut hexec hret nv (Or.inr (Or.inl rfl)) (hb hbytes d25) hl)⟩
    · exact ⟨s₁,some (.int v),_,_,_,X0,rfl,rfl,rfl,(fun h => by cases h),⟨v,rfl,hh0,hv⟩,fun fs hl => cz.trans (X0.ireturnOut hexec hret nv (Or.inr (Or.inl rfl)) (hb hbytes d33) hl)⟩
  · have c3 : Steps p.tables e below (s₁.setTop (entryFrame m #[.ref a,.ref b] 3)) (s₁.setTop (mkF m 35 #[.val (.ref a),.val (.ref b),.unset] [.int 0])) := c2.trans (by
      refine XS.icmpYes X0.here hexec rfl (pc0 := 4) rfl (hb hbytes d4) rfl (ii_ne_t (ne32 a31 b31 hs)) (by decide) rfl ?_
      refine iconstV X0.here hexec rfl 0 (hb hbytes d34) (by decide) ?_
      exact Steps.refl _)
    exact ⟨s₁,some (.int 0),_,_,_,X0,rfl,rfl,rfl,(fun h => by cases h),⟨0,rfl,hh0,Or.inr ⟨rfl,fun q => hs q.1⟩⟩,fun fs hl => c3.trans (X0.ireturnOut hexec hret rfl (Or.inr (Or.inl rfl)) (hb hbytes d35) hl)⟩
end LEq
theorem Cod.ty {cd:Int32} {n:Nat} {f:Nat → Int32} {V:Cell} (h:Cod cd n f V) : Typed .byte V := fun i v hv => by
  have hi : i < V.slots.size := (Array.getElem?_eq_some_iff.mp hv).1
  rcases h with ⟨-,k1,k2⟩ | ⟨-,k1,k2,-⟩
  · rw [(k2 i (by omega)).1] at hv; cases hv; exact fits_lo8 _
  · rcases Nat.mod_two_eq_zero_or_one i with e | e
    · obtain ⟨j,rfl⟩ : ∃ j,i = 2 * j := ⟨i / 2,by omega⟩
      rw [(k2 j (by omega)).1] at hv; cases hv; exact fits_lo8 _
    · obtain ⟨j,rfl⟩ : ∃ j,i = 2 * j + 1 := ⟨i / 2,by omega⟩
      rw [(k2 j (by omega)).2] at hv; cases hv; exact fits_lo8 _
def SameT (n:Nat) (f:Nat → Int32) (k:Nat) (g:Nat → Int32) : Prop := n = k ∧ ∀ j,j < n → f j = g j
theorem lo8_inj {x y:Int32} (h0:¬ x < 0) (h1:¬ 255 < x) (k0:¬ y < 0) (k1:¬ 255 < y) (h:lo8 x = lo8 y) : x = y := by
  rw [← lo8_mask h0 h1,← lo8_mask k0 k1,h]
theorem Cod.eqv {cd:Int32} {n k:Nat} {f g:Nat → Int32} {V V':Cell} (h:Cod cd n f V) (h':Cod cd k g V') (hf:∀ j,j < n → ¬ f j < 0 ∧ ¬ 65535 < f j) (hg:∀ j,j < k → ¬ g j < 0 ∧ ¬ 65535 < g j) : EqC V V' ↔ SameT n f k g := by
  have yvv : ∀ {W:Cell} {i:Nat} {x:Int32},W.slots[i]? = some (.int x) → yv W i = x := fun q => by unfold yv; rw [q]
  rcases h with ⟨rfl,k1,k2⟩ | ⟨rfl,k1,k2,-⟩
  · rcases h' with ⟨-,m1,m2⟩ | ⟨e,-⟩
    · constructor
      · rintro ⟨e1,e2⟩
        refine ⟨by omega,fun j hj => ?_⟩
        have q := e2 j (by omega)
        rw [yvv (k2 j hj).1,yvv (m2 j (by omega)).1] at q
        exact lo8_inj (hf j hj).1 (k2 j hj).2 (hg j (by omega)).1 (m2 j (by omega)).2 q
      · rintro ⟨rfl,e2⟩
        refine ⟨by omega,fun j hj => ?_⟩
        rw [yvv (k2 j (by omega)).1,yvv (m2 j (by omega)).1,e2 j (by omega)]
    · exact absurd e (by decide)
  · rcases h' with ⟨e,-⟩ | ⟨-,m1,m2,-⟩
    · exact absurd e (by decide)
    · constructor
      · rintro ⟨e1,e2⟩
        refine ⟨by omega,fun j hj => ?_⟩
        have q1 := e2 (2 * j) (by omega)
        have q2 := e2 (2 * j + 1) (by omega)
        rw [yvv (k2 j hj).1,yvv (m2 j (by omega)).1] at q1
        rw [yvv (k2 j hj).2,yvv (m2 j (by omega)).2] at q2
        rw [← pair_says (hf j hj).1 (hf j hj).2,← pair_says (hg j (by omega)).1 (hg j (by omega)).2,q1,q2]
      · rintro ⟨rfl,e2⟩
        refine ⟨by omega,fun i hi => ?_⟩
        rcases Nat.mod_two_eq_zero_or_one i with e | e
        · obtain ⟨j,rfl⟩ : ∃ j,i = 2 * j := ⟨i / 2,by omega⟩
          rw [yvv (k2 j (by omega)).1,yvv (m2 j (by omega)).1,e2 j (by omega)]
        · obtain ⟨j,rfl⟩ : ∃ j,i = 2 * j + 1 := ⟨i / 2,by omega⟩
          rw [yvv (k2 j (by omega)).2,yvv (m2 j (by omega)).2,e2 j (by omega)]
theorem Cod.dif {cd cd':Int32} {n k:Nat} {f g:Nat → Int32} {V V':Cell} (h:Cod cd n f V) (h':Cod cd' k g V') (hne:¬ cd = cd') : ¬ SameT n f k g := by
  rintro ⟨rfl,e⟩
  rcases h with ⟨rfl,-,k2⟩ | ⟨rfl,-,-,j,hj,hw⟩
  · rcases h' with ⟨rfl,-⟩ | ⟨-,-,-,j,hj,hw⟩
    · exact hne rfl
    · exact (k2 j hj).2 (by rw [e j hj]; exact hw)
  · rcases h' with ⟨-,-,m2⟩ | ⟨rfl,-⟩
    · exact (m2 j hj).2 (by rw [← e j hj]; exact hw)
    · exact hne rfl
theorem cinst {p:Program} {l:Launch} {e:Env} {R:Room} {s:State} {m:MethodId} {args:Array Value} {below:List Frame} {meth:Method} {c:Code} {T:State} {locs:List Loc} {cells slots:Nat} (X:Stand p l e R s m args below meth c T locs cells slots) (hexec:p.tables.exec = Jvm.exec) {own C:String} {index:Nat} (hown:s.vm.findClass own = some m.cls) (hlink:(Cond.classLink own index C).before args s = true) {a:Addr} (hE:Exact C a T)
    {g:JFrame} (hg:g.method = m) {rest:List Value} (hstack:g.stack = .ref a :: rest) (hdg:decode c.code g.pc = .ok (.instanceof index,3)) :
    ∃ T',Stand p l e R s m args below meth c T' locs cells slots ∧ T'.heap = T.heap ∧ ∀ target,Steps p.tables e below (T'.setTop { g with pc := g.pc + 3,stack := .int 1 :: rest }) target → Steps p.tables e below (T.setTop g) target := by
  obtain ⟨cB,h1,D,h2,h3,h4⟩ := hE
  have h1' : s.vm.findClass C = some cB := by rw [← X.warmed.alike.findClass]; exact h1
  obtain ⟨vm',X',st⟩ := X.instanceofYes hexec hown hlink h2 h4 h1' (by rw [h3]; exact Jvm.Free.SB.assignable_self _ _) hg hstack hdg
  exact ⟨_,X',rfl,st⟩
theorem cself {p:Program} {l:Launch} {e:Env} {R:Room} {s:State} {m:MethodId} {args:Array Value} {below:List Frame} {meth:Method} {c:Code} {T:State} {locs:List Loc} {cells slots:Nat} (X:Stand p l e R s m args below meth c T locs cells slots) (hexec:p.tables.exec = Jvm.exec) {own C:String} {index:Nat} (hown:s.vm.findClass own = some m.cls) (hlink:(Cond.classLink own index C).before args s = true) {a:Addr} (hE:Exact C a T)
    {g:JFrame} (hg:g.method = m) {rest:List Value} (hstack:g.stack = .ref a :: rest) (hdg:decode c.code g.pc = .ok (.checkcast index,3)) :
    ∃ T',Stand p l e R s m args below meth c T' locs cells slots ∧ T'.heap = T.heap ∧ ∀ target,Steps p.tables e below (T'.setTop { g with pc := g.pc + 3,stack := .ref a :: rest }) target → Steps p.tables e below (T.setTop g) target := by
  obtain ⟨cB,h1,D,h2,h3,h4⟩ := hE
  have h1' : s.vm.findClass C = some cB := by rw [← X.warmed.alike.findClass]; exact h1
  obtain ⟨vm',X',st⟩ := X.checkcastYes hexec hown hlink h2 h4 h1' (by rw [h3]; exact Jvm.Free.SB.assignable_self _ _) hg hstack hdg
  exact ⟨_,X',rfl,fun t h => st t (by rw [← hstack] at h; exact h)⟩
namespace SEq
def yN : MethodName := ⟨"java/lang/String", "equals", "(Ljava/lang/Object;)Z"⟩
abbrev yB : ByteArray := jdk_42_method_66_code
theorem d0 : decode yB 0 = .ok (.aload_n 0,1) := by decide +kernel
theorem d1 : decode yB 1 = .ok (.aload_n 1,1) := by decide +kernel
theorem d2 : decode yB 2 = .ok (.if_acmp (.ne) 5,3) := by decide +kernel
theorem d5 : decode yB 5 = .ok (.iconst 1,1) := by decide +kernel
theorem d6 : decode yB 6 = .ok (.ireturn,1) := by decide +kernel
theorem d7 : decode yB 7 = .ok (.aload_n 1,1) := by decide +kernel
theorem d8 : decode yB 8 = .ok (.instanceof 10,3) := by decide +kernel
theorem d11 : decode yB 11 = .ok (.ifCond (.eq) 43,3) := by decide +kernel
theorem d14 : decode yB 14 = .ok (.aload_n 1,1) := by decide +kernel
theorem d15 : decode yB 15 = .ok (.checkcast 10,3) := by decide +kernel
theorem d18 : decode yB 18 = .ok (.astore_n 2,1) := by decide +kernel
theorem d19 : decode yB 19 = .ok (.getstatic 38,3) := by decide +kernel
theorem d22 : decode yB 22 = .ok (.ifCond (.eq) 14,3) := by decide +kernel
theorem d25 : decode yB 25 = .ok (.aload_n 0,1) := by decide +kernel
theorem d26 : decode yB 26 = .ok (.getfield 15,3) := by decide +kernel
theorem d29 : decode yB 29 = .ok (.aload_n 2,1) := by decide +kernel
theorem d30 : decode yB 30 = .ok (.getfield 15,3) := by decide +kernel
theorem d33 : decode yB 33 = .ok (.if_icmp (.ne) 21,3) := by decide +kernel
theorem d36 : decode yB 36 = .ok (.aload_n 0,1) := by decide +kernel
theorem d37 : decode yB 37 = .ok (.getfield 9,3) := by decide +kernel
theorem d40 : decode yB 40 = .ok (.aload_n 2,1) := by decide +kernel
theorem d41 : decode yB 41 = .ok (.getfield 9,3) := by decide +kernel
theorem d44 : decode yB 44 = .ok (.invokestatic 541,3) := by decide +kernel
theorem d47 : decode yB 47 = .ok (.ifCond (.eq) 7,3) := by decide +kernel
theorem d50 : decode yB 50 = .ok (.iconst 1,1) := by decide +kernel
theorem d51 : decode yB 51 = .ok (.goto 4,3) := by decide +kernel
theorem d54 : decode yB 54 = .ok (.iconst 0,1) := by decide +kernel
theorem d55 : decode yB 55 = .ok (.ireturn,1) := by decide +kernel
def site : List Cond := [.classLink "java/lang/String" 10 "java/lang/String",.fieldLink "java/lang/String" 38 "java/lang/String" "COMPACT_STRINGS" "Z",.fieldLink "java/lang/String" 15 "java/lang/String" "coder" "B",.fieldLink "java/lang/String" 9 "java/lang/String" "value" "[B",LEq.tab] ++ staticW "java/lang/String" 541 LEq.yN
def tab : Cond := tabOf yN yB 3 (some .boolean) site
def P (x t:Addr) (V:Cell) (cd:Int32) (n:Nat) (f:Nat → Int32) (y t':Addr) (V':Cell) (cd':Int32) (k:Nat) (g:Nat → Int32) (z:Int32) (args:Array Value) (s:State) : Prop := args = #[.ref x,.ref y] ∧ Txt x t V cd n f s ∧ Txt y t' V' cd' k g s ∧ StaticIs s "java/lang/String" "COMPACT_STRINGS" "Z" (.int z) ∧ ¬ z = 0
theorem law (l:Launch) (x t:Addr) (V:Cell) (cd:Int32) (n:Nat) (f:Nat → Int32) (y t':Addr) (V':Cell) (cd':Int32) (k:Nat) (g:Nat → Int32) (z:Int32) : Law l yN 2 1 1 14 yB 3 (some .boolean) site (P x t V cd n f y t' V' cd' k g z) (Says01 (SameT n f k g)) [] 0 0 := by
  refine Law.of_walk (plainFor_of_name (by decide +kernel)) (by decide +kernel) (by decide +kernel) (by decide) (fun _ _ h => by rw [h.1]; rfl) (fun _ U U' hal hh h => ⟨h.1,h.2.1.mv hal hh,h.2.2.1.mv hal hh,h.2.2.2.1.there hal hh,h.2.2.2.2⟩) (fun r U U' V V' h1 hal h2 h => Says01.mv r U U' V V' h1 hal h2 h) ?_
  intro p e s m args below meth c s₁ X0 hexec hbytes hml hret hlk hnm hown hh0 W hP
  obtain ⟨rfl,hx,hy,s1,hz⟩ := hP
  have c1 : Steps p.tables e below (s₁.setTop (entryFrame m #[.ref x,.ref y] 3)) (s₁.setTop (mkF m 2 #[.val (.ref x),.val (.ref y),.unset] [.ref y,.ref x])) := Steps.trans (entry rfl) (by
    refine XS.aloadN X0.here hexec rfl (hb hbytes d0) rfl rfl ?_
    refine XS.aloadN X0.here hexec rfl (hb hbytes d1) rfl rfl ?_
    exact Steps.refl _)
  by_cases hxy : x = y
  · have c2 : Steps p.tables e below (s₁.setTop (entryFrame m #[.ref x,.ref y] 3)) (s₁.setTop (mkF m 6 #[.val (.ref x),.val (.ref y),.unset] [.int 1])) := c1.trans (by
      refine acmpNo X0.here hexec rfl (hb hbytes d2) rfl rfl rfl (by simp [acmp,hxy]) ?_
      refine iconstV X0.here hexec rfl 1 (hb hbytes d5) (by decide) ?_
      exact Steps.refl _)
    subst hxy
    have ec : cd = cd' := by
      obtain ⟨D,fd,a1,a2,a3⟩ := hx.2.2.1
      obtain ⟨D',fd',b1,b2,b3⟩ := hy.2.2.1
      cases a1.symm.trans b1
      obtain ⟨q1,q2,q3,q4⟩ := a2.1
      obtain ⟨r1,r2,r3,r4⟩ := b2.1
      cases q4.symm.trans r4
      cases a3.symm.trans b3; rfl
    have et : t = t' := by
      obtain ⟨D,fd,a1,a2,a3⟩ := hx.2.1
      obtain ⟨D',fd',b1,b2,b3⟩ := hy.2.1
      cases a1.symm.trans b1
      obtain ⟨q1,q2,q3,q4⟩ := a2.1
      obtain ⟨r1,r2,r3,r4⟩ := b2.1
      cases q4.symm.trans r4
      cases a3.symm.trans b3; rfl
    subst ec et
    have ev : V = V' := by cases hx.2.2.2.1.1.symm.trans hy.2.2.2.1.1; rfl
    subst ev
    have hs : SameT n f k g := (Cod.eqv hx.2.2.2.2.1 hy.2.2.2.2.1 hx.2.2.2.2.2 hy.2.2.2.2.2).mp ⟨rfl,fun _ _ => rfl⟩
    exact ⟨s₁,some (.int 1),_,_,_,X0,rfl,rfl,rfl,(fun h => by cases h),⟨1,rfl,hh0,Or.inl ⟨rfl,hs⟩⟩,fun fs hl => c2.trans (X0.ireturnOut hexec hret rfl (Or.inr (Or.inl rfl)) (hb hbytes d6) hl)⟩
  · have c2 : Steps p.tables e below (s₁.setTop (entryFrame m #[.ref x,.ref y] 3)) (s₁.setTop (mkF m 8 #[.val (.ref x),.val (.ref y),.unset] [.ref y])) := c1.trans (by
      refine acmpYes X0.here hexec rfl (pc0 := 2) rfl (hb hbytes d2) rfl rfl rfl (by simp [acmp,hxy]) (by decide) rfl ?_
      refine XS.aloadN X0.here hexec rfl (hb hbytes d7) rfl rfl ?_
      exact Steps.refl _)
    obtain ⟨T3,X3,q3,st3⟩ := cinst X0 hexec hown (wk W (.classLink "java/lang/String" 10 "java/lang/String")) (hy.mv X0.warmed.alike hh0).1 (g:=(mkF m 8 #[.val (.ref x),.val (.ref y),.unset] [.ref y])) rfl (rest:=[]) rfl (hb hbytes d8)
    have hh3 := q3.trans hh0
    have c4 : Steps p.tables e below (s₁.setTop (entryFrame m #[.ref x,.ref y] 3)) (T3.setTop (mkF m 15 #[.val (.ref x),.val (.ref y),.unset] [.ref y])) := (c2.trans (st3 _ (Steps.refl _))).trans (by
      refine XS.ifNo X3.here hexec rfl (hb hbytes d11) rfl (i0_eq_f (by decide)) ?_
      refine XS.aloadN X3.here hexec rfl (hb hbytes d14) rfl rfl ?_
      exact Steps.refl _)
    obtain ⟨T5,X5,q5,st5⟩ := cself X3 hexec hown (wk W (.classLink "java/lang/String" 10 "java/lang/String")) (hy.mv X3.warmed.alike hh3).1 (g:=(mkF m 15 #[.val (.ref x),.val (.ref y),.unset] [.ref y])) rfl (rest:=[]) rfl (hb hbytes d15)
    have hh5 := q5.trans hh3
    have c6 : Steps p.tables e below (s₁.setTop (entryFrame m #[.ref x,.ref y] 3)) (T5.setTop (mkF m 19 #[.val (.ref x),.val (.ref y),.val (.ref y)] [])) := (c4.trans (st5 _ (Steps.refl _))).trans (by
      refine XS.astoreN X5.here hexec rfl (hb hbytes d18) rfl rfl rfl ?_
      exact Steps.refl _)
    obtain ⟨T7,X7,q7,st7⟩ := X5.sget hexec hown (wk W (.fieldLink "java/lang/String" 38 "java/lang/String" "COMPACT_STRINGS" "Z")) s1 (fun _ _ h => by rw [hh5]; exact h) (g:=(mkF m 19 #[.val (.ref x),.val (.ref y),.val (.ref y)] [])) rfl (hb hbytes d19)
    have hh7 := q7.trans hh5
    have c8 : Steps p.tables e below (s₁.setTop (entryFrame m #[.ref x,.ref y] 3)) (T7.setTop (mkF m 26 #[.val (.ref x),.val (.ref y),.val (.ref y)] [.ref x])) := (c6.trans (st7 _ (Steps.refl _))).trans (by
      refine XS.ifNo X7.here hexec rfl (hb hbytes d22) rfl (i0_eq_f hz) ?_
      refine XS.aloadN X7.here hexec rfl (hb hbytes d25) rfl rfl ?_
      exact Steps.refl _)
    obtain ⟨T9,X9,q9,st9⟩ := X7.hget hexec hown (wk W (.fieldLink "java/lang/String" 15 "java/lang/String" "coder" "B")) (hx.mv X7.warmed.alike hh7).2.2.1 (g:=(mkF m 26 #[.val (.ref x),.val (.ref y),.val (.ref y)] [.ref x])) rfl (rest:=[]) rfl (hb hbytes d26)
    have hh9 := q9.trans hh7
    have c10 : Steps p.tables e below (s₁.setTop (entryFrame m #[.ref x,.ref y] 3)) (T9.setTop (mkF m 30 #[.val (.ref x),.val (.ref y),.val (.ref y)] [.ref y,.int cd])) := (c8.trans (st9 _ (Steps.refl _))).trans (by
      refine XS.aloadN X9.here hexec rfl (hb hbytes d29) rfl rfl ?_
      exact Steps.refl _)
    obtain ⟨T11,X11,q11,st11⟩ := X9.hget hexec hown (wk W (.fieldLink "java/lang/String" 15 "java/lang/String" "coder" "B")) (hy.mv X9.warmed.alike hh9).2.2.1 (g:=(mkF m 30 #[.val (.ref x),.val (.ref y),.val (.ref y)] [.ref y,.int cd])) rfl (rest:=[.int cd]) rfl (hb hbytes d30)
    have hh11 := q11.trans hh9
    have c12 : Steps p.tables e below (s₁.setTop (entryFrame m #[.ref x,.ref y] 3)) (T11.setTop (mkF m 33 #[.val (.ref x),.val (.ref y),.val (.ref y)] [.int cd',.int cd])) := c10.trans (st11 _ (Steps.refl _))
    by_cases hcd : cd = cd'
    · subst hcd
      have c13 : Steps p.tables e below (s₁.setTop (entryFrame m #[.ref x,.ref y] 3)) (T11.setTop (mkF m 37 #[.val (.ref x),.val (.ref y),.val (.ref y)] [.ref x])) := c12.trans (by
        refine XS.icmpNo X11.here hexec rfl (hb hbytes d33) rfl (ii_ne_f rfl) ?_
        refine XS.aloadN X11.here hexec rfl (hb hbytes d36) rfl rfl ?_
        exact Steps.refl _)
      obtain ⟨T14,X14,q14,st14⟩ := X11.hget hexec hown (wk W (.fieldLink "java/lang/String" 9 "java/lang/String" "value" "[B")) (hx.mv X11.warmed.alike hh11).2.1 (g:=(mkF m 37 #[.val (.ref x),.val (.ref y),.val (.ref y)] [.ref x])) rfl (rest:=[]) rfl (hb hbytes d37)
      have hh14 := q14.trans hh11
      have c15 : Steps p.tables e below (s₁.setTop (entryFrame m #[.ref x,.ref y] 3)) (T14.setTop (mkF m 41 #[.val (.ref x),.val (.ref y),.val (.ref y)] [.ref y,.ref t])) := (c13.trans (st14 _ (Steps.refl _))).trans (by
        refine XS.aloadN X14.here hexec rfl (hb hbytes d40) rfl rfl ?_
        exact Steps.refl _)
      obtain ⟨T16,X16,q16,st16⟩ := X14.hget hexec hown (wk W (.fieldLink "java/lang/String" 9 "java/lang/String" "value" "[B")) (hy.mv X14.warmed.alike hh14).2.1 (g:=(mkF m 41 #[.val (.ref x),.val (.ref y),.val (.ref y)] [.ref y,.ref t])) rfl (rest:=[.ref t]) rfl (hb hbytes d41)
      have hh16 := q16.trans hh14
      have c17 : Steps p.tables e below (s₁.setTop (entryFrame m #[.ref x,.ref y] 3)) (T16.setTop (mkF m 44 #[.val (.ref x),.val (.ref y),.val (.ref y)] [.ref t',.ref t])) := c15.trans (st16 _ (Steps.refl _))
      obtain ⟨v18,T18,X18,E18,g18⟩ := X16.callS hexec (LEq.law l t V t' V') hown (wks W (staticW "java/lang/String" 541 LEq.yN)) (wk W LEq.tab) (W:=0) (Nat.le_of_ble_eq_true rfl) (Nat.le_of_ble_eq_true rfl) (Nat.le_refl _) (Nat.le_refl _) (g:=(mkF m 44 #[.val (.ref x),.val (.ref y),.val (.ref y)] [.ref t',.ref t])) rfl (by rw [hml]; rfl) c17 (argsL:=[.ref t,.ref t']) (rest:=[]) rfl rfl (by show 2 * 0 + 0 ≤ _; decide) (hb hbytes d44) (⟨rfl,hx.2.2.2.1.mv X16.warmed.alike hh16,hx.2.2.2.2.1.ty,hy.2.2.2.1.mv X16.warmed.alike hh16,hy.2.2.2.2.1.ty⟩)
      obtain ⟨v,rfl,q18,hv⟩ := E18
      have iff := Cod.eqv hx.2.2.2.2.1 hy.2.2.2.2.1 hx.2.2.2.2.2 hy.2.2.2.2.2
      rcases hv with ⟨rfl,he⟩ | ⟨rfl,he⟩
      · have c19 : Steps p.tables e below (s₁.setTop (entryFrame m #[.ref x,.ref y] 3)) (T18.setTop (mkF m 55 #[.val (.ref x),.val (.ref y),.val (.ref y)] [.int 1])) := Steps.trans g18 (by
          refine XS.ifNo X18.here hexec rfl (hb hbytes d47) rfl (i0_eq_f (by decide)) ?_
          refine iconstV X18.here hexec rfl 1 (hb hbytes d50) (by decide) ?_
          refine XS.goto X18.here hexec rfl (pc0 := 51) rfl (hb hbytes d51) (by decide) rfl ?_
          exact Steps.refl _)
        exact ⟨T18,some (.int 1),_,_,_,X18,rfl,rfl,rfl,(fun h => by cases h),⟨1,rfl,q18.trans hh16,Or.inl ⟨rfl,iff.mp he⟩⟩,fun fs hl => c19.trans (X18.ireturnOut hexec hret rfl (Or.inr (Or.inl rfl)) (hb hbytes d55) hl)⟩
      · have c19 : Steps p.tables e below (s₁.setTop (entryFrame m #[.ref x,.ref y] 3)) (T18.setTop (mkF m 55 #[.val (.ref x),.val (.ref y),.val (.ref y)] [.int 0])) := Steps.trans g18 (by
          refine XS.ifYes X18.here hexec rfl (pc0 := 47) rfl (hb hbytes d47) rfl (i0_eq_t rfl) (by decide) rfl ?_
          refine iconstV X18.here hexec rfl 0 (hb hbytes d54) (by decide) ?_
          exact Steps.refl _)
        exact ⟨T18,some (.int 0),_,_,_,X18,rfl,rfl,rfl,(fun h => by cases h),⟨0,rfl,q18.trans hh16,Or.inr ⟨rfl,fun q => he (iff.mpr q)⟩⟩,fun fs hl => c19.trans (X18.ireturnOut hexec hret rfl (Or.inr (Or.inl rfl)) (hb hbytes d55) hl)⟩
    · have c13 : Steps p.tables e below (s₁.setTop (entryFrame m #[.ref x,.ref y] 3)) (T11.setTop (mkF m 55 #[.val (.ref x),.val (.ref y),.val (.ref y)] [.int 0])) := c12.trans (by
        refine XS.icmpYes X11.here hexec rfl (pc0 := 33) rfl (hb hbytes d33) rfl (ii_ne_t hcd) (by decide) rfl ?_
        refine iconstV X11.here hexec rfl 0 (hb hbytes d54) (by decide) ?_
        exact Steps.refl _)
      exact ⟨T11,some (.int 0),_,_,_,X11,rfl,rfl,rfl,(fun h => by cases h),⟨0,rfl,hh11,Or.inr ⟨rfl,Cod.dif hx.2.2.2.2.1 hy.2.2.2.2.1 hcd⟩⟩,fun fs hl => c13.trans (X11.ireturnOut hexec hret rfl (Or.inr (Or.inl rfl)) (hb hbytes d55) hl)⟩
theorem pays {l:Launch} {R:Room} {p:Program} {e:Env} {below:List Frame} {s:State} {sargs:Array Value} {len W:Nat} (x t:Addr) (V:Cell) (cd:Int32) (n:Nat) (f:Nat → Int32) (y t':Addr) (V':Cell) (cd':Int32) (k:Nat) (g:Nat → Int32) (z:Int32) (htab:tab.before sargs s = true) (hfr:2 ≤ R.frames) (hlo:W + 28 ≤ R.locals) :
    Back l R p e below s sargs yN len W (fun A₁ a₁ => A₁.cells + 0 ≤ R.cells ∧ A₁.slots + 0 ≤ R.slots ∧ P x t V cd n f y t' V' cd' k g z a₁ A₁.U) (fun A₁ _ v₁ B₁ => Says01 (SameT n f k g) v₁ A₁.U B₁.U ∧ B₁.locs = A₁.locs ++ [] ∧ B₁.cells = A₁.cells + 0 ∧ B₁.slots = A₁.slots + 0) :=
  (law l x t V cd n f y t' V' cd' k g z).pays htab hfr (by omega)
end SEq
end StrChars
namespace StrChars.Road
open Jvm Sem ClassFile Op Lib Jvm.Stand Jvm.Free Jvm.Free.XT
open Jvm.Lib.Cold (StaticIs)
abbrev wordsEq : List Jvm.Cond := [.code SEq.yN SEq.yB 3 (some .boolean),.initialized ST,.classLink ST 10 ST,.fieldLink ST 38 ST "COMPACT_STRINGS" "Z",.fieldLink ST 15 ST "coder" "B",.fieldLink ST 9 ST "value" "[B",.methodLink ST 541 LEq.yN,.static LEq.yN,.code LEq.yN LEq.yB 3 (some .boolean),.initialized "java/lang/StringLatin1"]
theorem tabEq_of {a:Array Value} {s:State} (h:∀ w ∈ wordsEq,w.before a s = true) : SEq.tab.before a s = true := by
  have hl : LEq.tab.before a s = true := unparts (wk h (.code LEq.yN LEq.yB 3 (some .boolean))) (wks h (.initialized LEq.yN.cls :: LEq.site))
  have q := consq hl h
  exact unparts (wk q (.code SEq.yN SEq.yB 3 (some .boolean))) (wks q (.initialized SEq.yN.cls :: SEq.site))
theorem movedEq {Z s:State} {a0 args:Array Value} (hZ:Z.Warmed39 s.vm) (hw:∀ d ∈ wordsEq,d.before a0 Z = true) : ∀ d ∈ wordsEq,d.before args s = true := fun d hd => by
  have t : ∀ d ∈ wordsEq,(d.onTables && d.keepsFace) = true := by decide +kernel
  exact RoadKit.mv hZ (hw d hd) (t d hd)
theorem txt_of {Z U:State} {a0:Array Value} {kI:Nat} (wi:(Jvm.Cond.instantiable ST kI).before a0 Z = true) (al:Z.vm.Alike U.vm) {x t:Addr} {kb:ClassId} {cs:List Int32} {cd N2:Int32} {vs:List Value} (E:RoadKit.Exa Z U.heap x ST) (V:RoadKit.Fld Z U.heap x ST "value" "[B" (.ref t)) (C:RoadKit.Fld Z U.heap x ST "coder" "B" (.int cd)) (K:RoadKit.Arv Z U.heap t kb .byte N2 vs (.int 0)) (hc:CodA cs cd N2 vs) (hb:∀ c ∈ cs,¬ c < 0 ∧ ¬ (65535:Int32) < c) (l2:cs.length ≤ 4000) :
    ∃ A,Txt x t A cd cs.length (fun j => cs.getD j 0) U := by
  obtain ⟨A,K1,K2,K3,K4,K5,K6⟩ := K
  have hcod := hc.cod (by omega) K3 K5
  obtain ⟨D,fV,fC,hB,F1,F2,g1,g2,-,-⟩ := strObj wi al E V C
  exact ⟨A,⟨_,hB.2.2.1,D,hB.1,rfl,by cases q : D.vm <;> first | rfl | exact absurd q (hB.2.1.2 _)⟩,Has.of hB F1 g1,Has.of hB F2 g2,⟨K1.1,State.isArrayOf_alike al K1.2.1,K1.2.2,by rcases hcod with ⟨-,q,-⟩ | ⟨-,q,-⟩ <;> omega⟩,hcod,fun j hj => by
    have e : cs.getD j 0 = cs[j] := by simp [List.getD_eq_getElem?_getD,hj]
    show ¬ cs.getD j 0 < 0 ∧ ¬ 65535 < cs.getD j 0
    rw [e]; exact hb _ (List.getElem_mem _)⟩
theorem same_list (cs ds:List Int32) : SameT cs.length (fun j => cs.getD j 0) ds.length (fun j => ds.getD j 0) ↔ cs = ds := by
  constructor
  · rintro ⟨e,q⟩
    refine List.ext_getElem e fun j h1 h2 => ?_
    have := q j h1
    simpa [List.getD_eq_getElem?_getD,h1,h2] using this
  · rintro rfl
    exact ⟨rfl,fun _ _ => rfl⟩
theorem eqW {p:Program} {l:Launch} {e:Env} {R:Room} {s:State} {args:Array Value} {below:List Frame} {len W:Nat} {Z:State} {a0:Array Value} {h:Heap} (hZ:Z.Warmed39 s.vm) (hw:∀ d ∈ wordsEq,d.before a0 Z = true) {kI:Nat} (wi:(Jvm.Cond.instantiable ST kI).before a0 Z = true)
    {x t:Addr} {kb:ClassId} {cs:List Int32} {cd N2:Int32} {vs:List Value} (E:RoadKit.Exa Z h x ST) (V:RoadKit.Fld Z h x ST "value" "[B" (.ref t)) (C:RoadKit.Fld Z h x ST "coder" "B" (.int cd)) (K:RoadKit.Arv Z h t kb .byte N2 vs (.int 0)) (hc:CodA cs cd N2 vs) (hb:∀ c ∈ cs,¬ c < 0 ∧ ¬ (65535:Int32) < c) (l2:cs.length ≤ 4000)
    {y t':Addr} {kb':ClassId} {ds:List Int32} {cd' N2':Int32} {vs':List Value} (E':RoadKit.Exa Z h y ST) (V':RoadKit.Fld Z h y ST "value" "[B" (.ref t')) (C':RoadKit.Fld Z h y ST "coder" "B" (.int cd')) (K':RoadKit.Arv Z h t' kb' .byte N2' vs' (.int 0)) (hc':CodA ds cd' N2' vs') (hb':∀ c ∈ ds,¬ c < 0 ∧ ¬ (65535:Int32) < c) (l2':ds.length ≤ 4000)
    {z:Int32} (S:RoadKit.Sta Z h ST "COMPACT_STRINGS" "Z" (.int z)) (hz:¬ z = 0) (hfr:2 ≤ R.frames) (hlo:W + 28 ≤ R.locals) :
    Back l R p e below s args (⟨"java/lang/String", "equals", "(Ljava/lang/Object;)Z"⟩ : MethodName) len W (fun P a => a = #[.ref x,.ref y] ∧ P.U.heap = h ∧ P.cells + 0 ≤ R.cells ∧ P.slots + 0 ≤ R.slots)
      (fun P _ v B => ∃ L,(((v = some (.int 1) ∧ cs = ds) ∨ (v = some (.int 0) ∧ ¬ cs = ds)) ∧ L = [] ∧ B.U.heap = h) ∧ B.locs = P.locs ++ L ∧ B.cells = P.cells + 0 ∧ B.slots = P.slots + 0) := by
  intro m meth c P g ig mk a X hg hsize hdg hW hn hp'
  obtain ⟨rfl,rfl,r1,r2⟩ := hp'
  have al : Z.vm.Alike P.U.vm := hZ.alike.trans X.warmed.alike
  obtain ⟨A,hx⟩ := txt_of wi al E V C K hc hb l2
  obtain ⟨A',hy⟩ := txt_of wi al E' V' C' K' hc' hb' l2'
  obtain ⟨v,B,X',⟨⟨w,hv,hh,hq⟩,hl,hk,hs⟩,st⟩ := SEq.pays x t A cd cs.length (fun j => cs.getD j 0) y t' A' cd' ds.length (fun j => ds.getD j 0) z (tabEq_of (movedEq hZ hw)) hfr hlo m meth c P g ig mk _ X hg hsize hdg hW hn ⟨r1,r2,rfl,hx,hy,sta_is al S,hz⟩
  refine ⟨v,B,X',⟨[],⟨?_,rfl,hh⟩,hl,hk,hs⟩,st⟩
  rcases hq with ⟨rfl,q⟩ | ⟨rfl,q⟩
  · exact Or.inl ⟨hv,(same_list cs ds).mp q⟩
  · exact Or.inr ⟨hv,fun e => q ((same_list cs ds).mpr e)⟩
end StrChars.Road
namespace StrChars
open Jvm Sem ClassFile Op Lib Jvm.Stand Jvm.Free.XT Jvm.Free.ALB Jvm.Free.JM Jvm.Free
open Jvm.Lib.Cold (StaticIs)
namespace ChN
def yN : MethodName := ⟨"java/lang/String", "charAt", "(I)C"⟩
abbrev yB : ByteArray := jdk_42_method_56_code
theorem d0 : decode yB 0 = .ok (.aload_n 0,1) := by decide +kernel
theorem d1 : decode yB 1 = .ok (.invokevirtual 492,3) := by decide +kernel
theorem d4 : decode yB 4 = .ok (.ifCond (.eq) 12,3) := by decide +kernel
theorem d7 : decode yB 7 = .ok (.aload_n 0,1) := by decide +kernel
theorem d8 : decode yB 8 = .ok (.getfield 9,3) := by decide +kernel
theorem d11 : decode yB 11 = .ok (.iload_n 1,1) := by decide +kernel
theorem d12 : decode yB 12 = .ok (.invokestatic 495,3) := by decide +kernel
theorem d15 : decode yB 15 = .ok (.ireturn,1) := by decide +kernel
def site : List Cond := [.fieldLink "java/lang/String" 9 "java/lang/String" "value" "[B",IsL.tab,LChA.tab] ++ virtW "java/lang/String" 492 "java/lang/String" IsL.yN IsL.yN ++ staticW "java/lang/String" 495 LChA.yN
def tab : Cond := tabOf yN yB 2 (some .char) site
def P (x t:Addr) (V:Cell) (n:Nat) (f:Nat → Int32) (z:Int32) (fm:Value) (i:Nat) (args:Array Value) (s:State) : Prop := args = #[.ref x,.int (Int32.ofNat i)] ∧ Txt x t V 0 n f s ∧ i < n ∧ StaticIs s "java/lang/String" "COMPACT_STRINGS" "Z" (.int z) ∧ ¬ z = 0 ∧ StaticIs s "jdk/internal/util/Preconditions" "SIOOBE_FORMATTER" "Ljava/util/function/BiFunction;" fm ∧ fm.isRef = true
def E (f:Nat → Int32) (i:Nat) (r:Option Value) (s u:State) : Prop := XT.PureE (some (.int (f i))) r s u
theorem law (l:Launch) (x t:Addr) (V:Cell) (n:Nat) (f:Nat → Int32) (z:Int32) (fm:Value) (i:Nat) : Law l yN 2 1 3 40 yB 2 (some .char) site (P x t V n f z fm i) (E f i) [] 0 0 := by
  refine Law.of_walk (plainFor_of_name (by decide +kernel)) (by decide +kernel) (by decide +kernel) (by decide) (fun _ _ h => by rw [h.1]; rfl) (fun _ U U' hal hh h => ⟨h.1,h.2.1.mv hal hh,h.2.2.1,h.2.2.2.1.there hal hh,h.2.2.2.2.1,h.2.2.2.2.2.1.there hal hh,h.2.2.2.2.2.2⟩) (fun r U U' V V' h1 hal h2 h => XT.PureE.mv r U U' V V' h1 hal h2 h) ?_
  intro p e s m args below meth c s₁ X0 hexec hbytes hml hret hlk hnm hown hh0 W hP
  obtain ⟨rfl,hx,hi,s1,hz,s3,rf⟩ := hP
  have v31 := hx.2.2.2.1.2.2.2
  have hr := hx.2.2.2.2.2 i hi
  have hx0 := hx.mv X0.warmed.alike hh0
  have c1 : Steps p.tables e below (s₁.setTop (entryFrame m #[.ref x,.int (Int32.ofNat i)] 2)) (s₁.setTop (mkF m 1 #[.val (.ref x),.val (.int (Int32.ofNat i))] [.ref x])) := Steps.trans (entry rfl) (by
    refine XS.aloadN X0.here hexec rfl (hb hbytes d0) rfl rfl ?_
    exact Steps.refl _)
  obtain ⟨v2,T2,X2,E2,g2⟩ := X0.callV hexec (IsL.law l x 0 z) hown (wks W (virtW "java/lang/String" 492 "java/lang/String" IsL.yN IsL.yN)) rfl (by decide) (wk W IsL.tab) (W:=0) (Nat.le_of_ble_eq_true rfl) (Nat.le_of_ble_eq_true rfl) (Nat.le_refl _) (Nat.le_refl _) (hx0.1.fc X0.warmed.alike) hx0.1.is (g:=(mkF m 1 #[.val (.ref x),.val (.int (Int32.ofNat i))] [.ref x])) rfl (by rw [hml]; rfl) c1 (argsL:=[]) (rest:=[]) rfl rfl (by show 2 * 0 + 0 ≤ _; decide) (hb hbytes d1) (⟨rfl,hx0.2.2.1,hx.2.2.2.2.1.cd,s1.there X0.warmed.alike hh0,hz⟩)
  obtain ⟨rfl,q2⟩ := E2
  have hh2 := q2.trans hh0
  have hx2 := hx.mv X2.warmed.alike hh2
  obtain ⟨-,k1,k2⟩ | ⟨k0,-⟩ := hx.2.2.2.2.1
  · have c3 : Steps p.tables e below (s₁.setTop (entryFrame m #[.ref x,.int (Int32.ofNat i)] 2)) (T2.setTop (mkF m 8 #[.val (.ref x),.val (.int (Int32.ofNat i))] [.ref x])) := Steps.trans g2 (by
      refine XS.ifNo X2.here hexec rfl (hb hbytes d4) rfl (i0_eq_f (by decide)) ?_
      refine XS.aloadN X2.here hexec rfl (hb hbytes d7) rfl rfl ?_
      exact Steps.refl _)
    obtain ⟨T4,X4,q4,st4⟩ := X2.hget hexec hown (wk W (.fieldLink "java/lang/String" 9 "java/lang/String" "value" "[B")) hx2.2.1 (g:=(mkF m 8 #[.val (.ref x),.val (.int (Int32.ofNat i))] [.ref x])) rfl (rest:=[]) rfl (hb hbytes d8)
    have hh4 := q4.trans hh2
    have c5 : Steps p.tables e below (s₁.setTop (entryFrame m #[.ref x,.int (Int32.ofNat i)] 2)) (T4.setTop (mkF m 12 #[.val (.ref x),.val (.int (Int32.ofNat i))] [.int (Int32.ofNat i),.ref t])) := (c3.trans (st4 _ (Steps.refl _))).trans (by
      refine XS.iloadN X4.here hexec rfl (hb hbytes d11) rfl ?_
      exact Steps.refl _)
    obtain ⟨v6,T6,X6,E6,g6⟩ := X4.callS hexec (LChA.law l t V i (lo8 (f i)) fm) hown (wks W (staticW "java/lang/String" 495 LChA.yN)) (wk W LChA.tab) (W:=0) (Nat.le_of_ble_eq_true rfl) (Nat.le_of_ble_eq_true rfl) (Nat.le_refl _) (Nat.le_refl _) (g:=(mkF m 12 #[.val (.ref x),.val (.int (Int32.ofNat i))] [.int (Int32.ofNat i),.ref t])) rfl (by rw [hml]; rfl) c5 (argsL:=[.ref t,.int (Int32.ofNat i)]) (rest:=[]) rfl rfl (by show 2 * 0 + 0 ≤ _; decide) (hb hbytes d12) (⟨rfl,hx.2.2.2.1.mv X4.warmed.alike hh4,(k2 i hi).1,s3.there X4.warmed.alike hh4,rf⟩)
    obtain ⟨rfl,q6⟩ := E6
    rw [chr8_lo8 hr.1 (k2 i hi).2] at g6
    exact ⟨T6,some (.int (f i)),_,_,_,X6,rfl,rfl,rfl,(fun h => by cases h),⟨rfl,q6.trans hh4⟩,fun fs hl => Steps.trans g6 (X6.ireturnOut hexec hret (narrow_ch hr.1 hr.2) (Or.inr (Or.inr (Or.inr (Or.inl rfl)))) (hb hbytes d15) hl)⟩
  · exact absurd k0 (by decide)
theorem pays {l:Launch} {R:Room} {p:Program} {e:Env} {below:List Frame} {s:State} {sargs:Array Value} {len W:Nat} (x t:Addr) (V:Cell) (n:Nat) (f:Nat → Int32) (z:Int32) (fm:Value) (i:Nat) (htab:tab.before sargs s = true) (hfr:4 ≤ R.frames) (hlo:W + 53 ≤ R.locals) :
    Back l R p e below s sargs yN len W (fun A₁ a₁ => A₁.cells + 0 ≤ R.cells ∧ A₁.slots + 0 ≤ R.slots ∧ P x t V n f z fm i a₁ A₁.U) (fun A₁ _ v₁ B₁ => E f i v₁ A₁.U B₁.U ∧ B₁.locs = A₁.locs ++ [] ∧ B₁.cells = A₁.cells + 0 ∧ B₁.slots = A₁.slots + 0) :=
  (law l x t V n f z fm i).pays htab hfr (by omega)
end ChN
end StrChars
namespace StrChars.Road
open Jvm Sem ClassFile Op Lib Jvm.Stand Jvm.Free Jvm.Free.XT
open Jvm.Lib.Cold (StaticIs)
abbrev wordsChN : List Jvm.Cond := [.code ChN.yN ChN.yB 2 (some .char),.initialized ST,.fieldLink ST 9 ST "value" "[B",.fieldLink ST 38 ST "COMPACT_STRINGS" "Z",.fieldLink ST 15 ST "coder" "B",.code IsL.yN IsL.yB 1 (some .boolean),.methodLink ST 492 IsL.yN,.declares IsL.yN,.selects ST IsL.yN IsL.yN,.instanceMethod IsL.yN,
  .methodLink ST 495 LChA.yN,.static LChA.yN,.code LChA.yN LChA.yB 2 (some .char),.initialized "java/lang/StringLatin1",.methodLink "java/lang/StringLatin1" 9 JO.Str_checkIndex.yN,.static JO.Str_checkIndex.yN,.code JO.Str_checkIndex.yN JO.Str_checkIndex.yB 2 none,
  .fieldLink ST 1053 "jdk/internal/util/Preconditions" "SIOOBE_FORMATTER" "Ljava/util/function/BiFunction;",.methodLink ST 1059 JC.PreCheck.yN,.static JC.PreCheck.yN,.code JC.PreCheck.yN JC.PreCheck.yB 3 (some .int),.initialized "jdk/internal/util/Preconditions"]
theorem tabChN_of {a:Array Value} {s:State} (h:∀ w ∈ wordsChN,w.before a s = true) : ChN.tab.before a s = true := by
  have hp : JC.PreCheck.tab.before a s = true := unparts (wk h (.code JC.PreCheck.yN JC.PreCheck.yB 3 (some .int))) (wks h (.initialized JC.PreCheck.yN.cls :: JC.PreCheck.site))
  have qk := consq hp h
  have hk : JO.Str_checkIndex.tab.before a s = true := unparts (wk qk (.code JO.Str_checkIndex.yN JO.Str_checkIndex.yB 2 none)) (wks qk (.initialized JO.Str_checkIndex.yN.cls :: JO.Str_checkIndex.site))
  have ql := consq hk h
  have hl : LChA.tab.before a s = true := unparts (wk ql (.code LChA.yN LChA.yB 2 (some .char))) (wks ql (.initialized LChA.yN.cls :: LChA.site))
  have hi : IsL.tab.before a s = true := unparts (wk h (.code IsL.yN IsL.yB 1 (some .boolean))) (wks h (.initialized IsL.yN.cls :: IsL.site))
  have q := consq hi (consq hl h)
  exact unparts (wk q (.code ChN.yN ChN.yB 2 (some .char))) (wks q (.initialized ChN.yN.cls :: ChN.site))
theorem movedChN {Z s:State} {a0 args:Array Value} (hZ:Z.Warmed39 s.vm) (hw:∀ d ∈ wordsChN,d.before a0 Z = true) : ∀ d ∈ wordsChN,d.before args s = true := fun d hd => by
  have t : ∀ d ∈ wordsChN,(d.onTables && d.keepsFace) = true := by decide +kernel
  exact RoadKit.mv hZ (hw d hd) (t d hd)
theorem chN {p:Program} {l:Launch} {e:Env} {R:Room} {s:State} {args:Array Value} {below:List Frame} {len W:Nat} {Z:State} {a0:Array Value} {h:Heap} (hZ:Z.Warmed39 s.vm) (hw:∀ d ∈ wordsChN,d.before a0 Z = true) {kI:Nat} (wi:(Jvm.Cond.instantiable ST kI).before a0 Z = true)
    {x t:Addr} {kb:ClassId} {cs:List Int32} {N2 z:Int32} {vs:List Value} {fm:Value} {i:Nat} {j:Int32} (E:RoadKit.Exa Z h x ST) (V:RoadKit.Fld Z h x ST "value" "[B" (.ref t)) (C:RoadKit.Fld Z h x ST "coder" "B" (.int 0)) (K:RoadKit.Arv Z h t kb .byte N2 vs (.int 0)) (hc:CodA cs 0 N2 vs) (hb:∀ c ∈ cs,¬ c < 0 ∧ ¬ (65535:Int32) < c)
    (S:RoadKit.Sta Z h ST "COMPACT_STRINGS" "Z" (.int z)) (hz:¬ z = 0) (F:RoadKit.Sta Z h "jdk/internal/util/Preconditions" "SIOOBE_FORMATTER" "Ljava/util/function/BiFunction;" fm) (rf:fm.isRef = true) (l2:cs.length ≤ 4000) (hi:i < cs.length) (hj:j = Int32.ofNat i) (hfr:4 ≤ R.frames) (hlo:W + 53 ≤ R.locals) :
    Back l R p e below s args (⟨"java/lang/String", "charAt", "(I)C"⟩ : MethodName) len W (fun P a => a = #[.ref x,.int j] ∧ P.U.heap = h ∧ P.cells + 0 ≤ R.cells ∧ P.slots + 0 ≤ R.slots)
      (fun P _ v B => ∃ L,(v = some (.int (cs.getD i 0)) ∧ L = [] ∧ B.U.heap = h) ∧ B.locs = P.locs ++ L ∧ B.cells = P.cells + 0 ∧ B.slots = P.slots + 0) := by
  subst hj
  intro m meth c P g ig mk a X hg hsize hdg hW hn hp'
  obtain ⟨rfl,rfl,r1,r2⟩ := hp'
  have al : Z.vm.Alike P.U.vm := hZ.alike.trans X.warmed.alike
  obtain ⟨A,hx⟩ := txt_of wi al E V C K hc hb l2
  obtain ⟨v,B,X',⟨⟨hv,hh⟩,hl,hk,hs⟩,st⟩ := ChN.pays x t A cs.length (fun j => cs.getD j 0) z fm i (tabChN_of (movedChN hZ hw)) hfr hlo m meth c P g ig mk _ X hg hsize hdg hW hn ⟨r1,r2,rfl,hx,hi,sta_is al S,hz,sta_is al F,rf⟩
  exact ⟨v,B,X',⟨[],⟨hv,rfl,hh⟩,hl,hk,hs⟩,st⟩
theorem codOf {cs:List Int32} {n:Nat} (hn:cs.length = n) (hb:∀ c ∈ cs,¬ 255 < c) : CodA cs 0 (Int32.ofNat n) ((cs.map lo8).map Value.int) := Or.inl ⟨rfl,by rw [hn],by simp [List.map_map,Function.comp_def],hb⟩
end StrChars.Road
end Jvm.Pilot.@@N@@
open Int32 renaming ofNat → I
namespace Jvm.Pilot.@@N@@
open Jvm Jvm.ClassFile Sem Op Lib Jvm.Free Jvm.Stand Jvm.LawKit Jvm.RoadKit Bundle Jvm.Pilot.@@N@@.Jvm.D
open Jvm.Free.XS renaming iloadN → iN,aloadN → aN,iload → iL,bipush → bP,iconst → iC,icmpYes → cY,istore → iS,icmpNo → cN,iadd → iA,ifNo → fN,ifYes → fY,aload → aL,istoreN → sN,goto → gT,iinc → iI,isub → iB
variable {p:Program} {l:Launch} {e:Env} {s:State} {m:MethodId} {args:Array Value} {below:List Frame} {meth:Method} {c:Code} {T0:State} {locs:List Loc} {cells slots:Nat} {Z:State} {a0:Array Value}
abbrev vi (x:Int32) : Slot := .val (.int x)
abbrev vr (x:Addr) : Slot := .val (.ref x)
abbrev vl (x:Int64) : Slot := .val (.long x)
abbrev zV0 (v w:Int32) : Prop := (v = 1 ∧ w = 49) ∨ (v = 2 ∧ w = 50) ∨ (v = 3 ∧ w = 51)
theorem zC0 {P:Int32 → Int32 → Prop} {v w:Int32} (h:zV0 v w) (h1:P 1 49) (h2:P 2 50) (h3:P 3 51) : P v w := by rcases h with ⟨rfl,rfl⟩ | ⟨rfl,rfl⟩ | ⟨rfl,rfl⟩ <;> assumption
abbrev zV1 (v w:Int32) : Prop := (v = 11 ∧ w = 49) ∨ (v = 12 ∧ w = 50)
theorem zC1 {P:Int32 → Int32 → Prop} {v w:Int32} (h:zV1 v w) (h11:P 11 49) (h12:P 12 50) : P v w := by rcases h with ⟨rfl,rfl⟩ | ⟨rfl,rfl⟩ <;> assumption
abbrev zV2 (v w:Int32) : Prop := (v = 100 ∧ w = 48) ∨ (v = 101 ∧ w = 49)
theorem zC2 {P:Int32 → Int32 → Prop} {v w:Int32} (h:zV2 v w) (h100:P 100 48) (h101:P 101 49) : P v w := by rcases h with ⟨rfl,rfl⟩ | ⟨rfl,rfl⟩ <;> assumption
abbrev zM (l:Launch) (Z:State) (h:Heap) (ws:List Jvm.Cond) (y:MethodName) (b:ByteArray) (n:Nat) (r:Option FieldType) (R:Room) (as':Array Value) (Q:Option Value → Heap → List Loc → Prop) : Prop := MetFree l y (head1 (Jvm.Cond.code y b n r :: ws) R) (fun a U => a = as' ∧ Z.Warmed39 U.vm ∧ U.heap = h) (fun _ _ _ _ _ => True) (fun _ U o U' => ∃ v L,o = .returned v ∧ Q v U'.heap L ∧ FrameEnd U o U' L R.cells R.slots)
theorem zN {R:Room} {W:Vm → Prop} {Q:Option Value → Heap → List Loc → Prop} {k n:Nat} {g:JFrame} {rest:List Value} (h:∃ (v:Option Value) (vm₁:Vm) (B:Pt),W vm₁ ∧ Stand p l e R s m args below meth c B.U B.locs B.cells B.slots ∧ (∃ L,Q v B.U.heap L ∧ B.locs = locs ++ L ∧ B.cells = k ∧ B.slots = n) ∧ ∀ target,Steps p.tables e below (B.U.setTop { g with pc := g.pc + 3,stack := v.toList ++ rest }) target → Steps p.tables e below (T0.setTop g) target) : ∃ v T' L,Stand p l e R s m args below meth c T' (locs ++ L) k n ∧ Q v T'.heap L ∧ ∀ target,Steps p.tables e below (T'.setTop { g with pc := g.pc + 3,stack := v.toList ++ rest }) target → Steps p.tables e below (T0.setTop g) target := by
 obtain ⟨v,_,⟨T,L1,k1,n1⟩,-,X,⟨L,hQ,l1,y1,z1⟩,st⟩ := h
 dsimp only [Pt.U,Pt.locs,Pt.cells,Pt.slots] at X l1 y1 z1 st hQ
 subst l1 y1 z1
 exact ⟨v,T,L,X,hQ,st⟩
theorem zV {R:Room} {W:Vm → Prop} {Q:Option Value → Heap → List Loc → Prop} {k n:Nat} {g:JFrame} {rest:List Value} {s₀:State} (h:∃ (v:Option Value) (vm₁:Vm) (B:Pt),W vm₁ ∧ Stand p l e R s m args below meth c B.U B.locs B.cells B.slots ∧ (∃ L,Q v B.U.heap L ∧ B.locs = locs ++ L ∧ B.cells = k ∧ B.slots = n) ∧ Steps p.tables e below s₀ (B.U.setTop { g with pc := g.pc + 3,stack := v.toList ++ rest })) : ∃ v T' L,Stand p l e R s m args below meth c T' (locs ++ L) k n ∧ Q v T'.heap L ∧ Steps p.tables e below s₀ (T'.setTop { g with pc := g.pc + 3,stack := v.toList ++ rest }) := by
 obtain ⟨v,_,⟨T,L1,k1,n1⟩,-,X,⟨L,hQ,l1,y1,z1⟩,st⟩ := h
 dsimp only [Pt.U,Pt.locs,Pt.cells,Pt.slots] at X l1 y1 z1 st hQ
 subst l1 y1 z1
 exact ⟨v,T,L,X,hQ,st⟩
theorem zS {R:Room} {own:String} {index:Nat} {y:MethodName} {b:ByteArray} {maxL:Nat} {ret:Option FieldType} {rm:Room} {W:Nat} {as':Array Value} {h:Heap} {Q:Option Value → Heap → List Loc → Prop} {g:JFrame} {argsL rest:List Value} (X:Stand p l e R s m args below meth c T0 locs cells slots) (hx:p.tables.exec = Jvm.exec) (hZ:Z.Warmed39 s.vm) (hown:s.vm.findClass own = some m.cls) (w1:(Cond.methodLink own index y).before a0 Z = true) (w2:(Cond.static y).before a0 Z = true) (w3:(Cond.initialized y.cls).before a0 Z = true) (w4:(Cond.code y b maxL ret).before a0 Z = true) (hy:y.cls ≠ "java/lang/invoke/MethodHandle" ∧ y.cls ≠ "java/lang/invoke/VarHandle") (hM:MetFree l y (head1 [Cond.code y b maxL ret] rm) (fun a U => a = as' ∧ Z.Warmed39 U.vm ∧ U.heap = h) (fun _ _ _ _ _ => True) (fun _ U o U' => ∃ v L,o = .returned v ∧ Q v U'.heap L ∧ FrameEnd U o U' L rm.cells rm.slots)) (hf:rm.frames + 1 ≤ R.frames) (hl:W + (maxL + 11) + rm.locals ≤ R.locals) (hg:g.method = m) (hsize:g.locals.size = c.maxLocals) (hlen:∀ sig,parseMethodDescriptor y.desc = some sig → argsL.length = sig.parameters.length) (hstack:g.stack = argsL.reverse ++ rest) (hW:2 * g.monitorRoom + (rest.map fun v => v.category).sum ≤ W) (hdg:decode c.code g.pc = .ok (.invokestatic index,3)) (ha:argsL.toArray = as') (he:T0.heap = h) (hc:cells + rm.cells ≤ R.cells) (hs:slots + rm.slots ≤ R.slots) : ∃ v T' L,Stand p l e R s m args below meth c T' (locs ++ L) (cells + rm.cells) (slots + rm.slots) ∧ Q v T'.heap L ∧ ∀ target,Steps p.tables e below (T'.setTop { g with pc := g.pc + 3,stack := v.toList ++ rest }) target → Steps p.tables e below (T0.setTop g) target :=
 zN (LawKit.callS X hx hown (mvT hZ w1) (mvT hZ w2) (mvT hZ w3) (mvT hZ w4) hy (backOf (W:=W) hM hZ w4 w3 hf hl) hg hsize hlen hstack hW hdg (fun _ _ => ⟨ha,he,hc,hs⟩))
theorem zU {R:Room} {own C:String} {index:Nat} {y:MethodName} {W k n:Nat} {as':Array Value} {h:Heap} {Q:Option Value → Heap → List Loc → Prop} {g:JFrame} {argsL rest:List Value} {b:Addr} {cB:ClassId} (X:Stand p l e R s m args below meth c T0 locs cells slots) (hx:p.tables.exec = Jvm.exec) (hZ:Z.Warmed39 s.vm) (hown:s.vm.findClass own = some m.cls) (w1:(Cond.methodLink own index y).before a0 Z = true) (w2:(Cond.declares y).before a0 Z = true) (w3:(Cond.selects C y y).before a0 Z = true) (w4:(Cond.instanceMethod y).before a0 Z = true) (hy:y.cls ≠ "java/lang/invoke/MethodHandle" ∧ y.cls ≠ "java/lang/invoke/VarHandle") (hK:Back l R p e below s args y 3 W (fun A a => a = as' ∧ A.U.heap = h ∧ A.cells + k ≤ R.cells ∧ A.slots + n ≤ R.slots) (fun A _ v B => ∃ L,Q v B.U.heap L ∧ B.locs = A.locs ++ L ∧ B.cells = A.cells + k ∧ B.slots = A.slots + n)) (hcB:s.vm.findClass C = some cB) (hrecv:IsOf cB T0 b) (hg:g.method = m) (hsize:g.locals.size = c.maxLocals) (hlen:∀ sig,parseMethodDescriptor y.desc = some sig → argsL.length = sig.parameters.length) (hstack:g.stack = argsL.reverse ++ .ref b :: rest) (hW:2 * g.monitorRoom + (rest.map fun v => v.category).sum ≤ W) (hdg:decode c.code g.pc = .ok (.invokevirtual index,3)) (ha:(Value.ref b :: argsL).toArray = as') (he:T0.heap = h) (hc:cells + k ≤ R.cells) (hs:slots + n ≤ R.slots) : ∃ v T' L,Stand p l e R s m args below meth c T' (locs ++ L) (cells + k) (slots + n) ∧ Q v T'.heap L ∧ Steps p.tables e below (T0.setTop g) (T'.setTop { g with pc := g.pc + 3,stack := v.toList ++ rest }) :=
 zV (X.virtualBack hx hown (mvT hZ w1) (mvT hZ w2) (notFace_of_selects (args:=#[]) (mvT hZ w3)) (mvT hZ w3) (mvT hZ w4) hy hK hcB hrecv hg hsize (Steps.refl _) hlen hstack hW hdg (fun _ _ => ⟨ha,he,hc,hs⟩))
theorem zE {l:Launch} {Z:State} {h:Heap} {ws:List Jvm.Cond} {y:MethodName} {b:ByteArray} {n:Nat} {r:Option FieldType} {R:Room} {as':Array Value} {Q:Option Value → Heap → List Loc → Prop} {K:String} (hy:plainName K = true) (hK:y.cls = K) (H:∀ (p:Program) (e:Env) (s:State) (m:MethodId) (below:List Frame) (meth:Method) (c:Code) (s₁:State),BodyLoose p l y (head1 (Jvm.Cond.code y b n r :: ws) R) b n r e s m as' below meth c s₁ → p.tables.exec = Jvm.exec → c.code = b → c.maxLocals = n → s.vm.findClass K = some m.cls → Z.Warmed39 s.vm → Stand p l e R s m as' below meth c s₁ [] 0 0 → s₁.heap = h → ∃ s₂ o,Steps p.tables e below (s₁.setTop (entryFrame m as' n)) s₂ ∧ s₂.status = .running ∧ Ended s₂ below o ∧ ∃ v L,o = .returned v ∧ Q v s₂.heap L ∧ FrameEnd s o s₂ L R.cells R.slots) : zM l Z h ws y b n r R as' Q := by
 subst hK
 refine MetFree.of_bodySF (plainFor_of_name hy) hisR ?_
 intro p e s m args below meth c s₁ Bd hml0 hP hK
 obtain ⟨rfl,hZ,hh⟩ := hP
 exact H p e s m below meth c s₁ Bd Bd.exec Bd.bytes hml0 (findClass_of_methodNamed Bd.named) hZ (Stand.of_body Bd) (by rw [← hh,Bd.state]; rfl)
theorem zL {y:MethodName} {S:Spec} {b:ByteArray} {n:Nat} {r:Option FieldType} {as':Array Value} {s₁ T:State} {R R':Room} {g:JFrame} {Q:Option Value → Heap → List Loc → Prop} (Bd:BodyLoose p l y S b n r e s m as' below meth c s₁) (X:Stand p l e R s m as' below meth c T locs cells slots) (ef:entryFrame m as' n = g) (v:Option Value) (hv:r = none → v = none) (hc:cells ≤ R'.cells) (hs:slots ≤ R'.slots) (H1:∀ fs,(∀ (f:JFrame) (acts:List Action),f.method = m → f.locked = none → f.entered = [] → (doReturn e (T.setTop f) acts v).1 = T.setFrames fs) → Steps p.tables e below (s₁.setTop g) (T.setFrames fs)) (H2:Q v T.heap locs) : ∃ s₂ o,Steps p.tables e below (s₁.setTop (entryFrame m as' n)) s₂ ∧ s₂.status = .running ∧ Ended s₂ below o ∧ ∃ v L,o = .returned v ∧ Q v s₂.heap L ∧ FrameEnd s o s₂ L R'.cells R'.slots := by
 obtain ⟨fs,hr,hrun,hended,hW,hsame⟩ := X.leave (hlocks:=BodyLoose.notSynchronized Bd) (v:=v) (fun h => hv (Bd.returns.symm.trans h))
 exact ⟨_,_,castTop ef (H1 fs hr),hrun,hended,_,_,rfl,H2,⟨_,rfl⟩,hW,hsame.mono hc hs⟩
abbrev zH (Z:State) (a0:Array Value) : Prop := ∀ d ∈ tables_1,d.before a0 Z = true
theorem zT {Z s:State} {a0 args:Array Value} {d:Jvm.Cond} (hZ:Z.Warmed39 s.vm) (hw:zH Z a0) (i:Nat) (h:tables_1[i]? = some d) (hd:(d.onTables && d.keepsFace) = true := by first | rfl | simp [Cond.onTables,Cond.keepsFace,Cond.keeps,Cond.steady]) : d.before args s = true := mvT hZ (hw d (List.mem_of_getElem? h)) hd
theorem zP (p:Program) (e:Env) (below:List Frame) (T:State) {g g':JFrame} (q:g = g') : ∀ t,Steps p.tables e below (T.setTop g') t → Steps p.tables e below (T.setTop g) t := fun _ k => castTop q k
abbrev zr (f c s l:Nat) : Room := { frames := f,cells := c,slots := s,locals := l }
def zQ (c:Code) (L:List (Nat × Instr × Nat)) : Prop := ∀ (i:Nat) {a:Nat} {b:Instr} {n:Nat},L[i]? = some (a,b,n) → decode c.code a = .ok (b,n)
theorem zD {c:Code} {bs:ByteArray} {L:List (Nat × Instr × Nat)} (h:c.code = bs) (hL:∀ x ∈ L,decode bs x.1 = .ok x.2) : zQ c L := by
 subst h
 intro i a b n q
 exact hL (a,b,n) (List.mem_of_getElem? q)
abbrev zl := List (Nat × Instr × Nat)
abbrev zq (b:ByteArray) (L:zl) : Prop := ∀ {c:Code},c.code = b → zQ c L
theorem zd {b:ByteArray} {L:zl} (hL:∀ x ∈ L,decode b x.1 = .ok x.2) : zq b L := fun h => zD h hL
abbrev y_0 : MethodName := ⟨"java/lang/AbstractStringBuilder", "isLatin1", "()Z"⟩
abbrev y_1 : MethodName := ⟨"java/lang/Integer", "getChars", "(II[B)I"⟩
abbrev y_2 : MethodName := ⟨"com/example/dolmetsch/dolmetsch/BriefTextOfPinLaw", "textArray", "(I)[C"⟩
abbrev y_3 : MethodName := ⟨"java/lang/StringUTF16", "putChar", "([BII)V"⟩
abbrev y_4 : MethodName := ⟨"java/lang/Integer", "stringSize", "(I)I"⟩
abbrev y_5 : MethodName := ⟨"java/lang/StringUTF16", "getChars", "(II[B)I"⟩
abbrev y_6 : MethodName := ⟨"java/lang/StringBuilder", "append", "(Ljava/lang/String;)Ljava/lang/StringBuilder;"⟩
abbrev y_7 : MethodName := ⟨"java/lang/String", "isLatin1", "()Z"⟩
abbrev y_8 : MethodName := ⟨"java/lang/String", "charAt", "(I)C"⟩
abbrev y_9 : MethodName := ⟨"java/lang/String", "length", "()I"⟩
abbrev y_10 : MethodName := ⟨"com/example/dolmetsch/dolmetsch/BriefTextOfPinLaw", "expectedArray", "(I)[C"⟩
abbrev y_11 : MethodName := ⟨"java/lang/String", "coder", "()B"⟩
abbrev y_12 : MethodName := ⟨"java/lang/Character", "isHighSurrogate", "(C)Z"⟩
abbrev y_13 : MethodName := ⟨"java/lang/String", "<init>", "([C)V"⟩
abbrev y_14 : MethodName := ⟨"java/lang/AbstractStringBuilder", "ensureCapacityInternal", "(I)V"⟩
abbrev y_15 : MethodName := ⟨"jdk/internal/util/Preconditions", "checkFromToIndex", "(IIILjava/util/function/BiFunction;)I"⟩
abbrev y_16 : MethodName := ⟨"java/lang/AbstractStringBuilder", "append", "(C)Ljava/lang/AbstractStringBuilder;"⟩
abbrev y_17 : MethodName := ⟨"java/lang/String", "getBytes", "([BIB)V"⟩
abbrev y_18 : MethodName := ⟨"java/lang/AbstractStringBuilder", "append", "(I)Ljava/lang/AbstractStringBuilder;"⟩
abbrev y_19 : MethodName := ⟨"java/lang/AbstractStringBuilder", "append", "(Ljava/lang/CharSequence;II)Ljava/lang/AbstractStringBuilder;"⟩
abbrev y_20 : MethodName := ⟨"java/lang/StringBuilder", "append", "(Ljava/lang/CharSequence;II)Ljava/lang/StringBuilder;"⟩
abbrev y_21 : MethodName := ⟨"com/example/dolmetsch/dolmetsch/BriefText", "more", "(Ljava/lang/StringBuilder;ILjava/lang/String;)V"⟩
abbrev y_22 : MethodName := ⟨"java/lang/StringLatin1", "canEncode", "(C)Z"⟩
abbrev y_23 : MethodName := ⟨"java/lang/Math", "min", "(II)I"⟩
abbrev y_24 : MethodName := ⟨"java/lang/String", "checkIndex", "(II)V"⟩
abbrev y_25 : MethodName := ⟨"java/lang/String", "checkBoundsOffCount", "(III)I"⟩
abbrev y_26 : MethodName := ⟨"java/lang/String", "checkBoundsBeginEnd", "(III)V"⟩
abbrev y_27 : MethodName := ⟨"java/lang/AbstractStringBuilder", "inflateIfNeededFor", "(Ljava/lang/String;)V"⟩
abbrev y_28 : MethodName := ⟨"java/lang/String", "<init>", "(Ljava/lang/AbstractStringBuilder;Ljava/lang/Void;)V"⟩
abbrev y_29 : MethodName := ⟨"com/example/dolmetsch/dolmetsch/BriefText", "append", "(Ljava/lang/StringBuilder;Ljava/lang/String;II)V"⟩
abbrev y_30 : MethodName := ⟨"java/lang/String", "equals", "(Ljava/lang/Object;)Z"⟩
abbrev y_31 : MethodName := ⟨"java/lang/AbstractStringBuilder", "getValue", "()[B"⟩
abbrev y_32 : MethodName := ⟨"java/lang/AbstractStringBuilder", "length", "()I"⟩
abbrev y_33 : MethodName := ⟨"java/lang/String", "value", "()[B"⟩
abbrev y_34 : MethodName := ⟨"jdk/internal/util/Preconditions", "checkIndex", "(IILjava/util/function/BiFunction;)I"⟩
abbrev y_35 : MethodName := ⟨"jdk/internal/util/Preconditions", "checkFromIndexSize", "(IIILjava/util/function/BiFunction;)I"⟩
abbrev y_36 : MethodName := ⟨"java/lang/StringUTF16", "getChar", "([BI)C"⟩
abbrev y_37 : MethodName := ⟨"java/lang/String", "<init>", "([CIILjava/lang/Void;)V"⟩
abbrev y_38 : MethodName := ⟨"java/lang/AbstractStringBuilder", "inflate", "()V"⟩
abbrev y_39 : MethodName := ⟨"java/lang/StringBuilder", "append", "(C)Ljava/lang/StringBuilder;"⟩
abbrev y_40 : MethodName := ⟨"java/lang/StringBuilder", "append", "(I)Ljava/lang/StringBuilder;"⟩
abbrev y_41 : MethodName := ⟨"com/example/dolmetsch/dolmetsch/BriefText", "of", "(Ljava/lang/String;)Ljava/lang/String;"⟩
abbrev y_42 : MethodName := ⟨"java/lang/StringUTF16", "length", "([B)I"⟩
abbrev y_43 : MethodName := ⟨"java/lang/StringUTF16", "newBytesLength", "(I)I"⟩
abbrev y_44 : MethodName := ⟨"java/lang/StringUTF16", "coderFromArrayLen", "([BI)B"⟩
abbrev y_45 : MethodName := ⟨"java/lang/StringUTF16", "getChars", "(III[B)I"⟩
abbrev y_46 : MethodName := ⟨"com/example/dolmetsch/dolmetsch/BriefTextOfPinLaw", "word", "([CI)I"⟩
abbrev y_47 : MethodName := ⟨"java/lang/StringBuilder", "length", "()I"⟩
abbrev y_48 : MethodName := ⟨"java/lang/StringUTF16", "checkIndex", "(I[B)V"⟩
abbrev y_49 : MethodName := ⟨"java/lang/StringUTF16", "newBytesFor", "(I)[B"⟩
abbrev y_50 : MethodName := ⟨"java/lang/StringLatin1", "inflate", "([BI[BII)V"⟩
abbrev y_51 : MethodName := ⟨"java/lang/AbstractStringBuilder", "append", "(Ljava/lang/String;)Ljava/lang/AbstractStringBuilder;"⟩
abbrev y_52 : MethodName := ⟨"java/lang/AbstractStringBuilder", "appendChars", "(Ljava/lang/String;II)V"⟩
abbrev y_53 : MethodName := ⟨"java/util/Arrays", "copyOfRange", "([BII)[B"⟩
abbrev y_54 : MethodName := ⟨"java/lang/StringBuilder", "toString", "()Ljava/lang/String;"⟩
abbrev y_55 : MethodName := ⟨"java/util/Arrays", "checkLength", "(II)V"⟩
abbrev y_56 : MethodName := ⟨"java/lang/StringUTF16", "checkBoundsOffCount", "(II[B)V"⟩
abbrev y_57 : MethodName := ⟨"java/lang/StringUTF16", "checkBoundsBeginEnd", "(II[B)V"⟩
abbrev y_58 : MethodName := ⟨"java/lang/StringUTF16", "charAt", "([BI)C"⟩
abbrev y_59 : MethodName := ⟨"java/lang/StringUTF16", "toBytes", "([CII)[B"⟩
abbrev y_60 : MethodName := ⟨"java/lang/StringUTF16", "compress", "([CI[BII)I"⟩
abbrev y_61 : MethodName := ⟨"java/lang/StringUTF16", "compress", "([CII)[B"⟩
abbrev y_62 : MethodName := ⟨"java/lang/AbstractStringBuilder", "<init>", "(I)V"⟩
abbrev y_63 : MethodName := ⟨"java/lang/StringBuilder", "<init>", "(I)V"⟩
abbrev y_64 : MethodName := ⟨"java/lang/StringUTF16", "putCharSB", "([BII)V"⟩
abbrev y_65 : MethodName := ⟨"java/lang/StringUTF16", "inflate", "([BI[BII)V"⟩
abbrev y_66 : MethodName := ⟨"java/lang/AbstractStringBuilder", "putStringAt", "(ILjava/lang/String;)V"⟩
abbrev y_67 : MethodName := ⟨"java/util/Arrays", "copyOfRangeByte", "([BII)[B"⟩
abbrev y_68 : MethodName := ⟨"java/lang/String", "<init>", "(Ljava/lang/StringBuilder;)V"⟩
set_option maxRecDepth 65536
set_option maxHeartbeats 40000000
def QR (r:Option Value) (h0:Heap) (n0:Nat) (v:Option Value) (h:Heap) (L:List Loc) : Prop := v = r ∧ Fr n0 L ∧ h = h0
theorem own_s0 (x:Int32) : x >>> ((0:Int32) &&& 31) = x := by
 apply Int32.toBitVec_inj.mp
 simp
theorem own_l0 (x:Int32) : x <<< ((0:Int32) &&& 31) = x := by
 apply Int32.toBitVec_inj.mp
 simp
theorem own_selP {Z:State} {a0:Array Value} {C:String} {y:MethodName} (hs:(Cond.selects C y y).before a0 Z = true) (hp:(Cond.privateMethod y).before a0 Z = true) (hi:(Cond.instanceMethod y).before a0 Z = true) (hy:y.cls ≠ "java/lang/invoke/MethodHandle" ∧ y.cls ≠ "java/lang/invoke/VarHandle") : (Cond.selects y.cls y y).before a0 Z = true := by
 obtain ⟨mk,methM,hnamed,hmethM,-,-⟩ := Cond.instanceMethod_spec hi
 obtain ⟨kP,hk,hf⟩ := notFace_of_selects hs mk hnamed
 exact Jvm.Stand.selects_self_of_private (findClass_of_methodNamed hnamed) hk hf (Cond.privateMethod_at hp) hi hy
theorem own_nf {s:State} {a0:Array Value} {y y':MethodName} (hn:NotFace s y) (hi:(Cond.instanceMethod y).before a0 s = true) (hc:y'.cls = y.cls) : NotFace s y' := by
 obtain ⟨mk,methM,hnamed,hmethM,-,-⟩ := Cond.instanceMethod_spec hi
 intro r0 h0
 have e : r0.cls = mk.cls := Option.some.inj ((findClass_of_methodNamed h0).symm.trans (by rw [hc]; exact findClass_of_methodNamed hnamed))
 rw [e]
 exact hn mk hnamed
theorem own_same {Z:State} {a0:Array Value} {y:MethodName} (hn:NotFace Z y) (hi:(Cond.instanceMethod y).before a0 Z = true) (hy:y.cls ≠ "java/lang/invoke/MethodHandle" ∧ y.cls ≠ "java/lang/invoke/VarHandle") : (Cond.sameMethod y.cls y.cls y.name y.desc).before a0 Z = true := by
 obtain ⟨mk,methM,hnamed,hmethM,-,-⟩ := Cond.instanceMethod_spec hi
 obtain ⟨k,hk,hf⟩ := hn mk hnamed
 have hfound : Z.methodFound? y.cls y.name y.desc = some mk := State.methodFound?_of_named hnamed hy
 have hc := findClass_of_methodNamed hnamed
 simp only [Cond.before,Cond.holds,Cond.value,hc,hfound,hnamed,hk]
 simp; exact hf
theorem own_ti (a:Nat) (h:a < 2147483648) : (I a).toInt = (a:Int) := Int32.toInt_ofNat_of_lt (by omega)
theorem own_lt (a b:Nat) (ha:a < 2147483648) (hb:b < 2147483648) : I a < I b ↔ a < b := by
 rw [Int32.lt_iff_toInt_lt,own_ti a ha,own_ti b hb]; omega
theorem own_cl (a:Nat) (ha:a < 2147483648) : (I a).toNatClampNeg = a := by
 show (I a).toInt.toNat = a
 rw [own_ti a ha]; omega
theorem own_nn (a:Nat) (ha:a < 2147483648) : ¬ I a < 0 := by
 rw [Int32.lt_iff_toInt_lt,own_ti a ha]
 have : (0:Int32).toInt = 0 := by decide
 omega
theorem own_eq (a b:Nat) (ha:a < 2147483648) (hb:b < 2147483648) : I a = I b ↔ a = b := by
 constructor
 · intro q
   have := congrArg Int32.toInt q
   rw [own_ti a ha,own_ti b hb] at this
   omega
 · rintro rfl; rfl
theorem own_sub (a b:Nat) (h:a ≤ b) : I b - I a = I (b - a) := by
 have e : b = (b - a) + a := by omega
 rw [show I b = I (b - a) + I a by rw [← Int32.ofNat_add,← e],Int32.add_sub_cancel]
theorem own_succ (a:Nat) : I a + 1 = I (a + 1) := (Int32.ofNat_add a 1).symm
theorem own_ix (i:Nat) (h:i < 256) : (I i <<< ((1:Int32) &&& 31)) = I (2 * i) ∧ (I (2 * i) >>> ((1:Int32) &&& 31)) = I i := (by decide +kernel : ∀ i : Fin 256,(I i.val <<< ((1:Int32) &&& 31)) = I (2 * i.val) ∧ (I (2 * i.val) >>> ((1:Int32) &&& 31)) = I i.val) ⟨i,h⟩
theorem own_b255 (c:Int32) (h0:¬ c < 0) (h1:¬ (255:Int32) < c) : StrChars.lo8 c &&& 255 = c := by
 have z0 : (0:Int32).toInt = 0 := by decide
 have z1 : (255:Int32).toInt = 255 := by decide
 rw [Int32.lt_iff_toInt_lt] at h0 h1
 have e : c = I c.toInt.toNat := by
   apply Int32.toInt_inj.mp
   rw [Int32.toInt_ofNat_of_lt (by omega)]
   omega
 rw [e]
 exact (by decide +kernel : ∀ i : Fin 256,StrChars.lo8 (I i.val) &&& 255 = I i.val) ⟨c.toInt.toNat,by omega⟩
theorem own_char_id (x:Int32) : nar .char (x.toUInt32.toUInt16.toUInt32.toInt32) = x.toUInt32.toUInt16.toUInt32.toInt32 := by
 show (_:Int32).toUInt32.toUInt16.toUInt32.toInt32 = _
 simp only [UInt32.toUInt32_toInt32,UInt16.toUInt16_toUInt32]
theorem own_nar_id {c:Int32} (h0:¬ c < 0) (h1:¬ (65535:Int32) < c) : nar .char c = c := (congrArg (nar .char) (StrChars.pair_says h0 h1).symm).trans ((own_char_id _).trans (StrChars.pair_says h0 h1))
theorem own_mem (cs:List Int32) (i:Nat) (hi:i < cs.length) : cs.getD i 0 ∈ cs := by rw [List.getD_eq_getElem?_getD,List.getElem?_eq_getElem hi]; exact List.getElem_mem hi
def own_C (cs:List Int32) : Prop := ∀ c ∈ cs,¬ c < 0 ∧ ¬ (65535:Int32) < c
def own_by (xs:List Int32) : List Value := (xs.map StrChars.lo8).map Value.int
def own_wd (xs:List Int32) : Bool := xs.any (fun c => decide ((255:Int32) < c))
def own_k (w:Bool) : Nat := if w then 2 else 1
def own_cd (w:Bool) : Int32 := if w then 1 else 0
def own_enc (w:Bool) (xs:List Int32) : List Value := if w then StrChars.Road.wideBytes xs else own_by xs
theorem own_wd_f {xs:List Int32} (h:own_wd xs = false) : ∀ c ∈ xs,¬ (255:Int32) < c := by
 intro c hc q
 have : own_wd xs = true := List.any_eq_true.mpr ⟨c,hc,decide_eq_true q⟩
 rw [h] at this; cases this
theorem own_wd_t {xs:List Int32} (h:own_wd xs = true) : ∃ c ∈ xs,(255:Int32) < c := by
 obtain ⟨c,hc,q⟩ := List.any_eq_true.mp h
 exact ⟨c,hc,of_decide_eq_true q⟩
theorem own_wd_app (xs ys:List Int32) : own_wd (xs ++ ys) = (own_wd xs || own_wd ys) := List.any_append
theorem own_by_len (xs:List Int32) : (own_by xs).length = xs.length := by unfold own_by; rw [List.length_map,List.length_map]
theorem own_by_app (xs ys:List Int32) : own_by (xs ++ ys) = own_by xs ++ own_by ys := by unfold own_by; rw [List.map_append,List.map_append]
theorem own_wb_len : ∀ xs : List Int32,(StrChars.Road.wideBytes xs).length = 2 * xs.length
 | [] => rfl
 | c :: cs => by
   show (StrChars.Road.wideBytes cs).length + 1 + 1 = 2 * (cs.length + 1)
   rw [own_wb_len cs]; omega
theorem own_wb_app : ∀ xs ys : List Int32,StrChars.Road.wideBytes (xs ++ ys) = StrChars.Road.wideBytes xs ++ StrChars.Road.wideBytes ys
 | [],_ => rfl
 | c :: cs,ys => by
   show _ :: _ :: StrChars.Road.wideBytes (cs ++ ys) = _ :: _ :: (StrChars.Road.wideBytes cs ++ StrChars.Road.wideBytes ys)
   rw [own_wb_app cs ys]
theorem own_enc_len (w:Bool) (xs:List Int32) : (own_enc w xs).length = own_k w * xs.length := by
 cases w
 · exact (own_by_len xs).trans (Nat.one_mul _).symm
 · exact own_wb_len xs
theorem own_enc_app (w:Bool) (xs ys:List Int32) : own_enc w (xs ++ ys) = own_enc w xs ++ own_enc w ys := by
 cases w
 · exact own_by_app xs ys
 · exact own_wb_app xs ys
theorem own_cod {xs:List Int32} {w:Bool} (h:own_wd xs = w) : StrChars.Road.CodA xs (own_cd w) (I (own_k w * xs.length)) (own_enc w xs) := by
 cases w
 · exact Or.inl ⟨rfl,by show I (1 * xs.length) = _; rw [Nat.one_mul],by show own_by xs = _; unfold own_by; rw [List.map_map]; rfl,own_wd_f h⟩
 · exact Or.inr ⟨rfl,rfl,rfl,own_wd_t h⟩
theorem own_takeset {α:Type} (vs:List α) (n:Nat) (v:α) (hn:n < vs.length) : (vs.set n v).take (n + 1) = vs.take n ++ [v] := by
 apply List.ext_getElem
 · simp; omega
 · intro i h1 h2
   simp at h1 h2
   rw [List.getElem_take,List.getElem_set,List.getElem_append]
   by_cases h : n = i
   · subst h; simp; intro q; omega
   · have : i < n := by omega
     simp [h]; intro q; omega
theorem own_takeset2 {α:Type} (vs:List α) (n:Nat) (u v:α) (hn:n + 1 < vs.length) : ((vs.set n u).set (n + 1) v).take (n + 1 + 1) = vs.take n ++ [u,v] := by
 rw [own_takeset _ _ _ (by rw [List.length_set]; exact hn),own_takeset _ _ _ (by omega),List.append_assoc]; rfl
theorem own_lo8i (x:Int32) : StrChars.lo8 (StrChars.lo8 x) = StrChars.lo8 x := by
 show x.toInt8.toInt32.toInt8.toInt32 = x.toInt8.toInt32
 simp
theorem own_rng (vs:List Value) (d:Value) (n:Nat) (h:vs.length = n) : ((List.range n).map fun i => vs.getD (0 + i) d) = vs := by
 subst h
 apply List.ext_getElem
 · simp
 · intro i h1 h2
   simp [List.getD_eq_getElem?_getD,List.getElem?_eq_getElem h2]
theorem own_rngt (vs:List Value) (d:Value) (n:Nat) (h:n ≤ vs.length) : ((List.range n).map fun i => vs.getD (0 + i) d) = vs.take n := by
 apply List.ext_getElem
 · simp; omega
 · intro i h1 h2
   have h3 : i < vs.length := by simp at h2; omega
   simp [List.getD_eq_getElem?_getD,List.getElem?_eq_getElem h3]
theorem own_rngm (vs:List Value) (d:Value) (a n:Nat) (h:a + n ≤ vs.length) : ((List.range n).map fun i => vs.getD (a + i) d) = (vs.drop a).take n := by
 apply List.ext_getElem
 · simp; omega
 · intro i h1 h2
   have h3 : a + i < vs.length := by simp at h2; omega
   simp [List.getD_eq_getElem?_getD,List.getElem?_eq_getElem h3]
theorem own_takesplice {α:Type} (vd as xs:List α) (m n c:Nat) (h1:vd.length = c) (h2:vd.take m = as) (h3:as.length = m) (h4:xs.length = n) (h5:m + n ≤ c) : (vd.take m ++ xs ++ vd.drop (m + n)).length = c ∧ (vd.take m ++ xs ++ vd.drop (m + n)).take (m + n) = as ++ xs := by
 subst h4 h2
 constructor
 · simp; omega
 · rw [List.take_append_of_le_length (by simp at *; omega)]
   apply List.take_of_length_le
   simp at *; omega
theorem own_getD_by (xs:List Int32) (i:Nat) (d:Value) (h:i < xs.length) : (own_by xs).getD i d = .int (StrChars.lo8 (xs.getD i 0)) := by
 unfold own_by
 simp [List.getD_eq_getElem?_getD,List.getElem?_map,List.getElem?_eq_getElem h]
theorem own_take_getD (vs ws:List Value) (n i:Nat) (d:Value) (h:vs.take n = ws) (hi:i < ws.length) : vs.getD i d = ws.getD i d := by
 subst h
 have h1 : i < n := by rw [List.length_take] at hi; omega
 simp only [List.getD_eq_getElem?_getD,List.getElem?_take,h1,if_true]
def own_Str (Z:State) (h:Heap) (o:Addr) (w:Bool) (xs:List Int32) : Prop := Exa Z h o "java/lang/String" ∧ Fld Z h o "java/lang/String" "coder" "B" (.int (own_cd w)) ∧ ∃ (t:Addr) (k:ClassId),Fld Z h o "java/lang/String" "value" "[B" (.ref t) ∧ Arv Z h t k .byte (I (own_k w * xs.length)) (own_enc w xs) (.int 0)
def own_SB (Z:State) (h:Heap) (b:Addr) (w:Bool) (cs:List Int32) (t:Addr) : Prop := Exa Z h b "java/lang/StringBuilder" ∧ Fld Z h b "java/lang/AbstractStringBuilder" "coder" "B" (.int (own_cd w)) ∧ Fld Z h b "java/lang/AbstractStringBuilder" "count" "I" (.int (I cs.length)) ∧ Fld Z h b "java/lang/AbstractStringBuilder" "value" "[B" (.ref t) ∧ Fld Z h b "java/lang/AbstractStringBuilder" "maybeLatin1" "Z" (.int 0) ∧ ∃ (k:ClassId) (vs:List Value),Arv Z h t k .byte (I (own_k w * 96)) vs (.int 0) ∧ vs.length = own_k w * 96 ∧ cs.length ≤ 96 ∧ vs.take (own_k w * cs.length) = own_enc w cs
def own_SW (Z:State) (h:Heap) : Prop := ∃ (z:Int32) (fm:Value),Sta Z h "java/lang/String" "COMPACT_STRINGS" "Z" (.int z) ∧ ¬ z = 0 ∧ Sta Z h "jdk/internal/util/Preconditions" "SIOOBE_FORMATTER" "Ljava/util/function/BiFunction;" fm ∧ fm.isRef = true ∧ Sta Z h "java/lang/StringUTF16" "$assertionsDisabled" "Z" (.int 1) ∧ Sta Z h "java/lang/StringUTF16" "HI_BYTE_SHIFT" "I" (.int 0) ∧ Sta Z h "java/lang/StringUTF16" "LO_BYTE_SHIFT" "I" (.int 8)
theorem own_SW.ext {Z:State} {h h':Heap} (S:own_SW Z h) (E:Ext h h') : own_SW Z h' := by
 obtain ⟨z,fm,S1,hz,S2,rf,S3,S4,S5⟩ := S
 exact ⟨z,fm,S1.ext E,hz,S2.ext E,rf,S3.ext E,S4.ext E,S5.ext E⟩
theorem own_Str.keep0 {Z:State} {h h':Heap} {o:Addr} {w:Bool} {xs:List Int32} (T:own_Str Z h o w xs) (K:Keep h h' []) : own_Str Z h' o w xs := by
 obtain ⟨E,FC,t,k,FV,V⟩ := T
 exact ⟨E.keep K,FC.keep K nin0,t,k,FV.keep K nin0,V.keep K nin0⟩
theorem own_SB.keep0 {Z:State} {h h':Heap} {b t:Addr} {w:Bool} {cs:List Int32} (T:own_SB Z h b w cs t) (K:Keep h h' []) : own_SB Z h' b w cs t := by
 obtain ⟨E,F1,F2,F3,F4,k,vs,V,hv⟩ := T
 exact ⟨E.keep K,F1.keep K nin0,F2.keep K nin0,F3.keep K nin0,F4.keep K nin0,k,vs,V.keep K nin0,hv⟩
theorem own_Str.keep1 {Z:State} {h h':Heap} {o x:Addr} {w:Bool} {xs:List Int32} {a0:Array Value} {C:String} {kI:Nat} (T:own_Str Z h o w xs) (K:Keep h h' [x]) (X:Exa Z h x C) (hC:"java/lang/String" ≠ C) (wd:(Cond.instantiable C kI).before a0 Z = true) : own_Str Z h' o w xs := by
 obtain ⟨E,FC,t,k,FV,V⟩ := T
 have h1 : o ≠ x := Exa.ne E X hC
 have h2 : t ≠ x := fun q => Exa.neArv X V wd q.symm
 exact ⟨E.keep K,FC.keep K (ninS h1 nin0),t,k,FV.keep K (ninS h1 nin0),V.keep K (ninS h2 nin0)⟩
theorem own_Str.keep2 {Z:State} {h h':Heap} {o b t0:Addr} {w w':Bool} {xs cs:List Int32} (T:own_Str Z h o w xs) (K:Keep h h' [b,t0]) (SB:own_SB Z h b w' cs t0) {a0:Array Value} {k1 k2:Nat} (w1:(Cond.instantiable "java/lang/StringBuilder" k1).before a0 Z = true) (w2:(Cond.instantiable "java/lang/String" k2).before a0 Z = true) (hne:∀ t,Fld Z h o "java/lang/String" "value" "[B" (.ref t) → t ≠ t0) : own_Str Z h' o w xs := by
 obtain ⟨E,FC,t,k,FV,V⟩ := T
 obtain ⟨EB,-,-,-,-,kd,vd,B,-⟩ := SB
 have h1 : o ≠ b := Exa.ne E EB (by decide)
 have h2 : t ≠ b := fun q => Exa.neArv EB V w1 q.symm
 have h3 : o ≠ t0 := Exa.neArv E B w2
 have h4 := hne t FV
 exact ⟨E.keep K,FC.keep K (ninS h1 (ninS h3 nin0)),t,k,FV.keep K (ninS h1 (ninS h3 nin0)),V.keep K (ninS h2 (ninS h4 nin0))⟩
def own_St (Z:State) (h0:Heap) (b t0:Addr) (h:Heap) (w:Bool) (cs:List Int32) : Prop := Keep h0 h [b,t0] ∧ ∃ t' : Addr,own_SB Z h b w cs t' ∧ (t' = t0 ∨ h0.size ≤ t')
def QA (Z:State) (a1 t0:Addr) (w:Bool) (cs:List Int32) (h0:Heap) (n0:Nat) (v:Option Value) (h:Heap) (L:List Loc) : Prop := v = some (.ref a1) ∧ Fr n0 L ∧ own_St Z h0 a1 t0 h w cs
def QN (Z:State) (a1 t0:Addr) (w:Bool) (cs:List Int32) (h0:Heap) (n0:Nat) (v:Option Value) (h:Heap) (L:List Loc) : Prop := v = none ∧ Fr n0 L ∧ own_St Z h0 a1 t0 h w cs
theorem own_t_ge {h0:Heap} {n0:Nat} {t t0:Addr} (Z0:n0 ≤ h0.size) (g:n0 ≤ t0) (ht:t = t0 ∨ h0.size ≤ t) : n0 ≤ t := by rcases ht with rfl | ht; exact g; exact Nat.le_trans Z0 ht
theorem own_t_in {h0:Heap} {t t0 b:Addr} (ht:t = t0 ∨ h0.size ≤ t) : t ∈ [b,t0] ∨ h0.size ≤ t := by rcases ht with rfl | ht; exact Or.inl (List.mem_of_getElem? (i:=1) rfl); exact Or.inr ht
def l7 : zl := [(0,.getstatic 38,3),(3,.ifCond .eq 10,3),(6,.aload_n 0,1),(7,.getfield 15,3),(10,.goto 4,3),(14,.ireturn,1)]
theorem D7 : zq jdk_42_method_152_code l7 := zd (by decide +kernel)
theorem pn_7 : plainName "java/lang/String" = true := by first | (simp [plainName,overriddenIn]; done) | decide +kernel
theorem ef_7 (m:MethodId) (x0:Addr) : entryFrame m #[.ref x0] 1 = mkF m 0 #[.val (.ref x0)] [] := by first | (simp [entryFrame,mkF,argsToLocals,Value.category]; done) | rfl
theorem zW {Z:State} {a0:Array Value} {d:Jvm.Cond} (hw:zH Z a0) (i:Nat) (h:tables_1[i]? = some d) : d.before a0 Z = true := hw d (List.mem_of_getElem? h)
theorem r7 (l:Launch) (Z:State) (a0:Array Value) (hw:zH Z a0) (ws:List Jvm.Cond) (a1:Addr) (w2:Int32) (h0:Heap) (n0:Nat) (Z0:n0 ≤ h0.size) (S_COMPACT_STRINGS:Sta Z h0 "java/lang/String" "COMPACT_STRINGS" "Z" (.int w2)) (F_coder_a1:Fld Z h0 a1 "java/lang/String" "coder" "B" (.int 0)) (hc3:¬ (w2 = 0)) :
   zM l Z h0 ws y_11 jdk_42_method_152_code 1 (some .byte) (zr 0 0 0 0) #[.ref a1] (QR (some (.int 0)) h0 n0) := by
 refine zE pn_7 rfl fun p e s m below meth c s₁ Bd hx hby hml hown hZ X0 e0 => ?_
 have D := D7 Bd.bytes
 have N0 := Fr.nil n0
 obtain ⟨T3,X3,e3,st3⟩ := getS2 X0 hx hZ hown (host:="") (Or.inl (zW hw 40 rfl)) Via.refl e0 S_COMPACT_STRINGS (g:=(mkF m 0 #[vr a1] [])) rfl (D 0 rfl)
 obtain ⟨T5,X5,e5,st5⟩ := getF X3 hx hZ hown (host:="") (Or.inl (zW hw 25 rfl)) Via.refl e3 F_coder_a1 (g:=(mkF m 7 #[vr a1] [.ref a1])) rfl rfl (D 3 rfl)
 refine zL Bd X5 (ef_7 m a1) (some (.int 0)) nofun (by decide) (by decide) (fun fs hr => ?_) ?_
 · refine st3 _ (fN X3.here hx rfl (D 1 rfl) rfl ((if0 _ _).trans (feq hc3).1) (aN X3.here hx rfl (D 2 rfl) rfl rfl (st5 _ ?_)))
   refine gT X5.here hx rfl (pc0 := 10) (pc':=14) rfl (D 4 rfl) (by decide) (by decide) ?_
   exact retN X5 hx (t:=.byte) Bd.returns (by simp) (D 5 rfl) hr
 · show QR (some (.int 0)) h0 n0 _ T5.heap _
   rw [e5]
   exact ⟨rfl,N0,rfl⟩
def l16 : zl := [(0,.getstatic 38,3),(3,.ifCond .eq 14,3),(6,.aload_n 0,1),(7,.getfield 15,3),(10,.ifCond .ne 7,3),(13,.iconst 1,1),(14,.goto 4,3),(18,.ireturn,1),(17,.iconst 0,1)]
theorem D16 : zq jdk_42_method_154_code l16 := zd (by decide +kernel)
theorem r16l (l:Launch) (Z:State) (a0:Array Value) (hw:zH Z a0) (ws:List Jvm.Cond) (a1:Addr) (w2:Int32) (w4:Int32) (h0:Heap) (n0:Nat) (Z0:n0 ≤ h0.size) (S_COMPACT_STRINGS:Sta Z h0 "java/lang/String" "COMPACT_STRINGS" "Z" (.int w2)) (F_coder_a1:Fld Z h0 a1 "java/lang/String" "coder" "B" (.int w4)) (hc3:¬ (w2 = 0)) (hc10:w4 = 0) :
   zM l Z h0 ws y_7 jdk_42_method_154_code 1 (some .boolean) (zr 0 0 0 0) #[.ref a1] (QR (some (.int 1)) h0 n0) := by
 refine zE pn_7 rfl fun p e s m below meth c s₁ Bd hx hby hml hown hZ X0 e0 => ?_
 have D := D16 Bd.bytes
 have N0 := Fr.nil n0
 obtain ⟨T3,X3,e3,st3⟩ := getS2 X0 hx hZ hown (host:="") (Or.inl (zW hw 40 rfl)) Via.refl e0 S_COMPACT_STRINGS (g:=(mkF m 0 #[vr a1] [])) rfl (D 0 rfl)
 obtain ⟨T5,X5,e5,st5⟩ := getF X3 hx hZ hown (host:="") (Or.inl (zW hw 25 rfl)) Via.refl e3 F_coder_a1 (g:=(mkF m 7 #[vr a1] [.ref a1])) rfl rfl (D 3 rfl)
 refine zL Bd X5 (ef_7 m a1) (some (.int 1)) nofun (by decide) (by decide) (fun fs hr => ?_) ?_
 · refine st3 _ (fN X3.here hx rfl (D 1 rfl) rfl ((if0 _ _).trans (feq hc3).1) (aN X3.here hx rfl (D 2 rfl) rfl rfl (st5 _ ?_)))
   refine fN X5.here hx rfl (D 4 rfl) rfl ((if0 _ _).trans (teq hc10).2) (iC X5.here hx rfl (D 5 rfl) (gT X5.here hx rfl (pc0 := 14) (pc':=18) rfl (D 6 rfl) (by decide) (by decide) ?_))
   exact retN X5 hx (t:=.boolean) Bd.returns (by simp) (D 7 rfl) hr
 · show QR (some (.int 1)) h0 n0 _ T5.heap _
   rw [e5]
   exact ⟨rfl,N0,rfl⟩
theorem r16w (l:Launch) (Z:State) (a0:Array Value) (hw:zH Z a0) (ws:List Jvm.Cond) (a1:Addr) (w2:Int32) (w4:Int32) (h0:Heap) (n0:Nat) (Z0:n0 ≤ h0.size) (S_COMPACT_STRINGS:Sta Z h0 "java/lang/String" "COMPACT_STRINGS" "Z" (.int w2)) (F_coder_a1:Fld Z h0 a1 "java/lang/String" "coder" "B" (.int w4)) (hc3:¬ (w2 = 0)) (hc10:¬ (w4 = 0)) :
   zM l Z h0 ws y_7 jdk_42_method_154_code 1 (some .boolean) (zr 0 0 0 0) #[.ref a1] (QR (some (.int 0)) h0 n0) := by
 refine zE pn_7 rfl fun p e s m below meth c s₁ Bd hx hby hml hown hZ X0 e0 => ?_
 have D := D16 Bd.bytes
 have N0 := Fr.nil n0
 obtain ⟨T3,X3,e3,st3⟩ := getS2 X0 hx hZ hown (host:="") (Or.inl (zW hw 40 rfl)) Via.refl e0 S_COMPACT_STRINGS (g:=(mkF m 0 #[vr a1] [])) rfl (D 0 rfl)
 obtain ⟨T5,X5,e5,st5⟩ := getF X3 hx hZ hown (host:="") (Or.inl (zW hw 25 rfl)) Via.refl e3 F_coder_a1 (g:=(mkF m 7 #[vr a1] [.ref a1])) rfl rfl (D 3 rfl)
 refine zL Bd X5 (ef_7 m a1) (some (.int 0)) nofun (by decide) (by decide) (fun fs hr => ?_) ?_
 · refine st3 _ (fN X3.here hx rfl (D 1 rfl) rfl ((if0 _ _).trans (feq hc3).1) (aN X3.here hx rfl (D 2 rfl) rfl rfl (st5 _ ?_)))
   refine fY X5.here hx rfl (pc0 := 10) (pc':=17) rfl (D 4 rfl) rfl ((if0 _ _).trans (feq hc10).2) (by decide) (by decide) (iC X5.here hx rfl (D 8 rfl) ?_)
   exact retN X5 hx (t:=.boolean) Bd.returns (by simp) (D 7 rfl) hr
 · show QR (some (.int 0)) h0 n0 _ T5.heap _
   rw [e5]
   exact ⟨rfl,N0,rfl⟩
def l26 : zl := [(0,.getstatic 18,3),(3,.ifCond .eq 14,3),(6,.aload_n 0,1),(7,.getfield 22,3),(10,.ifCond .ne 7,3),(13,.iconst 1,1),(14,.goto 4,3),(18,.ireturn,1),(17,.iconst 0,1)]
theorem D26 : zq jdk_68_method_68_code l26 := zd (by decide +kernel)
theorem pn_26 : plainName "java/lang/AbstractStringBuilder" = true := by first | (simp [plainName,overriddenIn]; done) | decide +kernel
theorem r26l (l:Launch) (Z:State) (a0:Array Value) (hw:zH Z a0) (ws:List Jvm.Cond) (a1:Addr) (w2:Int32) (w4:Int32) (h0:Heap) (n0:Nat) (Z0:n0 ≤ h0.size) (S_COMPACT_STRINGS:Sta Z h0 "java/lang/String" "COMPACT_STRINGS" "Z" (.int w2)) (F_coder_a1:Fld Z h0 a1 "java/lang/AbstractStringBuilder" "coder" "B" (.int w4)) (hc3:¬ (w2 = 0)) (hc10:w4 = 0) :
   zM l Z h0 ws y_0 jdk_68_method_68_code 1 (some .boolean) (zr 0 0 0 0) #[.ref a1] (QR (some (.int 1)) h0 n0) := by
 refine zE pn_26 rfl fun p e s m below meth c s₁ Bd hx hby hml hown hZ X0 e0 => ?_
 have D := D26 Bd.bytes
 have N0 := Fr.nil n0
 obtain ⟨T3,X3,e3,st3⟩ := getS2 X0 hx hZ hown (host:="") (Or.inl (zW hw 71 rfl)) Via.refl e0 S_COMPACT_STRINGS (g:=(mkF m 0 #[vr a1] [])) rfl (D 0 rfl)
 obtain ⟨T5,X5,e5,st5⟩ := getF X3 hx hZ hown (host:="") (Or.inl (zW hw 74 rfl)) Via.refl e3 F_coder_a1 (g:=(mkF m 7 #[vr a1] [.ref a1])) rfl rfl (D 3 rfl)
 refine zL Bd X5 (ef_7 m a1) (some (.int 1)) nofun (by decide) (by decide) (fun fs hr => ?_) ?_
 · refine st3 _ (fN X3.here hx rfl (D 1 rfl) rfl ((if0 _ _).trans (feq hc3).1) (aN X3.here hx rfl (D 2 rfl) rfl rfl (st5 _ ?_)))
   refine fN X5.here hx rfl (D 4 rfl) rfl ((if0 _ _).trans (teq hc10).2) (iC X5.here hx rfl (D 5 rfl) (gT X5.here hx rfl (pc0 := 14) (pc':=18) rfl (D 6 rfl) (by decide) (by decide) ?_))
   exact retN X5 hx (t:=.boolean) Bd.returns (by simp) (D 7 rfl) hr
 · show QR (some (.int 1)) h0 n0 _ T5.heap _
   rw [e5]
   exact ⟨rfl,N0,rfl⟩
theorem r26w (l:Launch) (Z:State) (a0:Array Value) (hw:zH Z a0) (ws:List Jvm.Cond) (a1:Addr) (w2:Int32) (w4:Int32) (h0:Heap) (n0:Nat) (Z0:n0 ≤ h0.size) (S_COMPACT_STRINGS:Sta Z h0 "java/lang/String" "COMPACT_STRINGS" "Z" (.int w2)) (F_coder_a1:Fld Z h0 a1 "java/lang/AbstractStringBuilder" "coder" "B" (.int w4)) (hc3:¬ (w2 = 0)) (hc10:¬ (w4 = 0)) :
   zM l Z h0 ws y_0 jdk_68_method_68_code 1 (some .boolean) (zr 0 0 0 0) #[.ref a1] (QR (some (.int 0)) h0 n0) := by
 refine zE pn_26 rfl fun p e s m below meth c s₁ Bd hx hby hml hown hZ X0 e0 => ?_
 have D := D26 Bd.bytes
 have N0 := Fr.nil n0
 obtain ⟨T3,X3,e3,st3⟩ := getS2 X0 hx hZ hown (host:="") (Or.inl (zW hw 71 rfl)) Via.refl e0 S_COMPACT_STRINGS (g:=(mkF m 0 #[vr a1] [])) rfl (D 0 rfl)
 obtain ⟨T5,X5,e5,st5⟩ := getF X3 hx hZ hown (host:="") (Or.inl (zW hw 74 rfl)) Via.refl e3 F_coder_a1 (g:=(mkF m 7 #[vr a1] [.ref a1])) rfl rfl (D 3 rfl)
 refine zL Bd X5 (ef_7 m a1) (some (.int 0)) nofun (by decide) (by decide) (fun fs hr => ?_) ?_
 · refine st3 _ (fN X3.here hx rfl (D 1 rfl) rfl ((if0 _ _).trans (feq hc3).1) (aN X3.here hx rfl (D 2 rfl) rfl rfl (st5 _ ?_)))
   refine fY X5.here hx rfl (pc0 := 10) (pc':=17) rfl (D 4 rfl) rfl ((if0 _ _).trans (feq hc10).2) (by decide) (by decide) (iC X5.here hx rfl (D 8 rfl) ?_)
   exact retN X5 hx (t:=.boolean) Bd.returns (by simp) (D 7 rfl) hr
 · show QR (some (.int 0)) h0 n0 _ T5.heap _
   rw [e5]
   exact ⟨rfl,N0,rfl⟩
def l31 : zl := [(0,.iload_n 0,1),(1,.sipush 255,3),(4,.if_icmp .gt 7,3),(7,.iconst 1,1),(8,.goto 4,3),(12,.ireturn,1),(11,.iconst 0,1)]
theorem D31 : zq jdk_43_method_3_code l31 := zd (by decide +kernel)
theorem pn_31 : plainName "java/lang/StringLatin1" = true := by first | (simp [plainName,overriddenIn]; done) | decide +kernel
theorem ef_31 (m:MethodId) (x0:Int32) : entryFrame m #[.int x0] 1 = mkF m 0 #[.val (.int x0)] [] := by first | (simp [entryFrame,mkF,argsToLocals,Value.category]; done) | rfl
theorem r31l (l:Launch) (Z:State) (a0:Array Value) (hw:zH Z a0) (ws:List Jvm.Cond) (p1:Int32) (h0:Heap) (n0:Nat) (Z0:n0 ≤ h0.size) (hc4:¬ ((255:Int32) < p1)) :
   zM l Z h0 ws y_22 jdk_43_method_3_code 1 (some .boolean) (zr 0 0 0 0) #[.int p1] (QR (some (.int 1)) h0 n0) := by
 refine zE pn_31 rfl fun p e s m below meth c s₁ Bd hx hby hml hown hZ X0 e0 => ?_
 have D := D31 Bd.bytes
 have N0 := Fr.nil n0
 refine zL Bd X0 (ef_31 m p1) (some (.int 1)) nofun (by decide) (by decide) (fun fs hr => ?_) ?_
 · refine iN X0.here hx rfl (D 0 rfl) rfl (XS.sipush X0.here hx rfl (D 1 rfl) (cN X0.here hx rfl (D 2 rfl) rfl (flt hc4).2.2.1 (iC X0.here hx rfl (D 3 rfl) ?_)))
   refine gT X0.here hx rfl (pc0 := 8) (pc':=12) rfl (D 4 rfl) (by decide) (by decide) ?_
   exact retN X0 hx (t:=.boolean) Bd.returns (by simp) (D 5 rfl) hr
 · show QR (some (.int 1)) h0 n0 _ s₁.heap _
   rw [e0]
   exact ⟨rfl,N0,rfl⟩
theorem r31w (l:Launch) (Z:State) (a0:Array Value) (hw:zH Z a0) (ws:List Jvm.Cond) (p1:Int32) (h0:Heap) (n0:Nat) (Z0:n0 ≤ h0.size) (hc4:(255:Int32) < p1) :
   zM l Z h0 ws y_22 jdk_43_method_3_code 1 (some .boolean) (zr 0 0 0 0) #[.int p1] (QR (some (.int 0)) h0 n0) := by
 refine zE pn_31 rfl fun p e s m below meth c s₁ Bd hx hby hml hown hZ X0 e0 => ?_
 have D := D31 Bd.bytes
 have N0 := Fr.nil n0
 refine zL Bd X0 (ef_31 m p1) (some (.int 0)) nofun (by decide) (by decide) (fun fs hr => ?_) ?_
 · refine iN X0.here hx rfl (D 0 rfl) rfl (XS.sipush X0.here hx rfl (D 1 rfl) (cY X0.here hx rfl (pc0 := 4) (pc':=11) rfl (D 2 rfl) rfl (tlt hc4).2.2.1 (by decide) (by decide) (iC X0.here hx rfl (D 6 rfl) ?_)))
   exact retN X0 hx (t:=.boolean) Bd.returns (by simp) (D 5 rfl) hr
 · show QR (some (.int 0)) h0 n0 _ s₁.heap _
   rw [e0]
   exact ⟨rfl,N0,rfl⟩
def l50 : zl := [(0,.iload_n 0,1),(1,.iload_n 1,1),(2,.if_icmp .gt 7,3),(5,.iload_n 0,1),(6,.goto 4,3),(10,.ireturn,1),(9,.iload_n 1,1)]
theorem D50 : zq jdk_29_method_69_code l50 := zd (by decide +kernel)
theorem ef_50 (m:MethodId) (x0:Int32) (x1:Int32) : entryFrame m #[.int x0,.int x1] 2 = mkF m 0 #[.val (.int x0),.val (.int x1)] [] := by first | (simp [entryFrame,mkF,argsToLocals,Value.category]; done) | rfl
theorem r50a (l:Launch) (Z:State) (a0:Array Value) (hw:zH Z a0) (ws:List Jvm.Cond) (p1:Int32) (p2:Int32) (h0:Heap) (n0:Nat) (Z0:n0 ≤ h0.size) (hc2:¬ (p2 < p1)) :
   zM l Z h0 ws y_23 jdk_29_method_69_code 2 (some .int) (zr 0 0 0 0) #[.int p1,.int p2] (QR (some (.int p1)) h0 n0) := by
 refine MetFree.of_bodySF (Jvm.Free.JP.mathPlain rfl (by decide +kernel)) hisR ?_
 intro p e s m args below meth c s₁ Bd hml0 hP hK
 obtain ⟨rfl,hZ,hh⟩ := hP
 have hx := Bd.exec
 have D := D50 Bd.bytes
 have hml : c.maxLocals = 2 := hml0
 have hown : s.vm.findClass "java/lang/Math" = some m.cls := findClass_of_methodNamed Bd.named
 have X0 : Stand p l e (zr 0 0 0 0) s m #[.int p1,.int p2] below meth c s₁ [] 0 0 := Stand.of_body Bd
 have e0 : s₁.heap = h0 := by rw [← hh,Bd.state]; rfl
 have N0 := Fr.nil n0
 have pre0 := zP p e below s₁ (ef_50 m p1 p2)
 obtain ⟨fs,hr,hrun,hended,hW,hsame⟩ := X0.leave (v:=some (.int p1)) (fun h => by rw [Bd.returns] at h; cases h)
 refine ⟨_,_,pre0 _ ?_,hrun,hended,_,_,rfl,?_,⟨_,rfl⟩,hW,hsame.mono (by decide) (by decide)⟩
 · refine iN X0.here hx rfl (D 0 rfl) rfl (iN X0.here hx rfl (D 1 rfl) rfl (cN X0.here hx rfl (D 2 rfl) rfl (flt hc2).2.2.1 (iN X0.here hx rfl (D 3 rfl) rfl ?_)))
   refine gT X0.here hx rfl (pc0 := 6) (pc':=10) rfl (D 4 rfl) (by decide) (by decide) ?_
   exact retI X0 hx Bd.returns (D 5 rfl) hr
 · show QR (some (.int p1)) h0 n0 _ s₁.heap _
   rw [e0]
   exact ⟨rfl,N0,rfl⟩
theorem r50b (l:Launch) (Z:State) (a0:Array Value) (hw:zH Z a0) (ws:List Jvm.Cond) (p1:Int32) (p2:Int32) (h0:Heap) (n0:Nat) (Z0:n0 ≤ h0.size) (hc2:p2 < p1) :
   zM l Z h0 ws y_23 jdk_29_method_69_code 2 (some .int) (zr 0 0 0 0) #[.int p1,.int p2] (QR (some (.int p2)) h0 n0) := by
 refine MetFree.of_bodySF (Jvm.Free.JP.mathPlain rfl (by decide +kernel)) hisR ?_
 intro p e s m args below meth c s₁ Bd hml0 hP hK
 obtain ⟨rfl,hZ,hh⟩ := hP
 have hx := Bd.exec
 have D := D50 Bd.bytes
 have hml : c.maxLocals = 2 := hml0
 have hown : s.vm.findClass "java/lang/Math" = some m.cls := findClass_of_methodNamed Bd.named
 have X0 : Stand p l e (zr 0 0 0 0) s m #[.int p1,.int p2] below meth c s₁ [] 0 0 := Stand.of_body Bd
 have e0 : s₁.heap = h0 := by rw [← hh,Bd.state]; rfl
 have N0 := Fr.nil n0
 have pre0 := zP p e below s₁ (ef_50 m p1 p2)
 obtain ⟨fs,hr,hrun,hended,hW,hsame⟩ := X0.leave (v:=some (.int p2)) (fun h => by rw [Bd.returns] at h; cases h)
 refine ⟨_,_,pre0 _ ?_,hrun,hended,_,_,rfl,?_,⟨_,rfl⟩,hW,hsame.mono (by decide) (by decide)⟩
 · refine iN X0.here hx rfl (D 0 rfl) rfl (iN X0.here hx rfl (D 1 rfl) rfl (cY X0.here hx rfl (pc0 := 2) (pc':=9) rfl (D 2 rfl) rfl (tlt hc2).2.2.1 (by decide) (by decide) (iN X0.here hx rfl (D 6 rfl) rfl ?_)))
   exact retI X0 hx Bd.returns (D 5 rfl) hr
 · show QR (some (.int p2)) h0 n0 _ s₁.heap _
   rw [e0]
   exact ⟨rfl,N0,rfl⟩
def l49 : zl := [(0,.iload_n 1,1),(1,.iload_n 0,1),(2,.if_icmp .ge 35,3),(37,.return_,1)]
theorem D49 : zq jdk_65_method_131_code l49 := zd (by decide +kernel)
theorem pn_49 : plainName "java/util/Arrays" = true := by first | (simp [plainName,overriddenIn]; done) | decide +kernel
theorem r49 (l:Launch) (Z:State) (a0:Array Value) (hw:zH Z a0) (ws:List Jvm.Cond) (p1:Int32) (p2:Int32) (h0:Heap) (n0:Nat) (Z0:n0 ≤ h0.size) (hc2:¬ (p2 < p1)) :
   zM l Z h0 ws y_55 jdk_65_method_131_code 2 none (zr 0 0 0 0) #[.int p1,.int p2] (QR (none) h0 n0) := by
 refine zE pn_49 rfl fun p e s m below meth c s₁ Bd hx hby hml hown hZ X0 e0 => ?_
 have D := D49 Bd.bytes
 have N0 := Fr.nil n0
 refine zL Bd X0 (ef_50 m p1 p2) none (fun _ => rfl) (by decide) (by decide) (fun fs hr => ?_) ?_
 · refine iN X0.here hx rfl (D 0 rfl) rfl (iN X0.here hx rfl (D 1 rfl) rfl (cY X0.here hx rfl (pc0 := 2) (pc':=37) rfl (D 2 rfl) rfl (flt hc2).2.1 (by decide) (by decide) ?_))
   exact X0.returnOut hx Bd.returns (D 3 rfl) hr
 · show QR (none) h0 n0 _ s₁.heap _
   rw [e0]
   exact ⟨rfl,N0,rfl⟩
def l44 : zl := [(0,.aload_n 0,1),(1,.getfield 15,3),(4,.areturn,1)]
theorem D44 : zq jdk_68_method_64_code l44 := zd (by decide +kernel)
theorem r44 (l:Launch) (Z:State) (a0:Array Value) (hw:zH Z a0) (ws:List Jvm.Cond) (a1:Addr) (w2:Addr) (h0:Heap) (n0:Nat) (Z0:n0 ≤ h0.size) (F_value_a1:Fld Z h0 a1 "java/lang/AbstractStringBuilder" "value" "[B" (.ref w2)) :
   zM l Z h0 ws y_31 jdk_68_method_64_code 1 (some (.array .byte)) (zr 0 0 0 0) #[.ref a1] (QR (some (.ref w2)) h0 n0) := by
 refine zE pn_26 rfl fun p e s m below meth c s₁ Bd hx hby hml hown hZ X0 e0 => ?_
 have N0 := Fr.nil n0
 obtain ⟨T3,X3,e3,st3⟩ := getF X0 hx hZ hown (host:="") (Or.inl (zW hw 72 rfl)) Via.refl e0 F_value_a1 (g:=(mkF m 1 #[vr a1] [.ref a1])) rfl rfl (D44 hby 1 rfl)
 refine zL Bd X3 (ef_7 m a1) (some (.ref w2)) nofun (by decide) (by decide) (fun fs hr => ?_) ?_
 · refine aN X0.here hx rfl (D44 hby 0 rfl) rfl rfl (st3 _ ?_)
   jvm_step X3.here [X3.here.top,hx,(D44 hby 2 rfl),X3.method',Bd.returns,Value.isRef,FieldType.isReference]
   first | (intro acts; rw [hr _ acts rfl rfl rfl]) | rw [hr _ _ rfl rfl rfl]
   exact Steps.refl _
 · show QR (some (.ref w2)) h0 n0 _ T3.heap _
   rw [e3]
   exact ⟨rfl,N0,rfl⟩
def l46 : zl := [(0,.aload_n 0,1),(1,.getfield 79,3),(4,.ireturn,1)]
theorem D46 : zq jdk_68_method_6_code l46 := zd (by decide +kernel)
theorem r46 (l:Launch) (Z:State) (a0:Array Value) (hw:zH Z a0) (ws:List Jvm.Cond) (a1:Addr) (w2:Int32) (h0:Heap) (n0:Nat) (Z0:n0 ≤ h0.size) (F_count_a1:Fld Z h0 a1 "java/lang/AbstractStringBuilder" "count" "I" (.int w2)) :
   zM l Z h0 ws y_32 jdk_68_method_6_code 1 (some .int) (zr 0 0 0 0) #[.ref a1] (QR (some (.int w2)) h0 n0) := by
 refine zE pn_26 rfl fun p e s m below meth c s₁ Bd hx hby hml hown hZ X0 e0 => ?_
 have N0 := Fr.nil n0
 obtain ⟨T3,X3,e3,st3⟩ := getF X0 hx hZ hown (host:="") (Or.inl (zW hw 128 rfl)) Via.refl e0 F_count_a1 (g:=(mkF m 1 #[vr a1] [.ref a1])) rfl rfl (D46 hby 1 rfl)
 refine zL Bd X3 (ef_7 m a1) (some (.int w2)) nofun (by decide) (by decide) (fun fs hr => ?_) ?_
 · refine aN X0.here hx rfl (D46 hby 0 rfl) rfl rfl (st3 _ ?_)
   exact retI X3 hx Bd.returns (D46 hby 2 rfl) hr
 · show QR (some (.int w2)) h0 n0 _ T3.heap _
   rw [e3]
   exact ⟨rfl,N0,rfl⟩
def l27 : zl := [(0,.aload_n 0,1),(1,.getfield 9,3),(4,.areturn,1)]
theorem D27 : zq jdk_42_method_153_code l27 := zd (by decide +kernel)
theorem r27 (l:Launch) (Z:State) (a0:Array Value) (hw:zH Z a0) (ws:List Jvm.Cond) (a1:Addr) (w2:Addr) (h0:Heap) (n0:Nat) (Z0:n0 ≤ h0.size) (F_value_a1:Fld Z h0 a1 "java/lang/String" "value" "[B" (.ref w2)) :
   zM l Z h0 ws y_33 jdk_42_method_153_code 1 (some (.array .byte)) (zr 0 0 0 0) #[.ref a1] (QR (some (.ref w2)) h0 n0) := by
 refine zE pn_7 rfl fun p e s m below meth c s₁ Bd hx hby hml hown hZ X0 e0 => ?_
 have N0 := Fr.nil n0
 obtain ⟨T3,X3,e3,st3⟩ := getF X0 hx hZ hown (host:="") (Or.inl (zW hw 24 rfl)) Via.refl e0 F_value_a1 (g:=(mkF m 1 #[vr a1] [.ref a1])) rfl rfl (D27 hby 1 rfl)
 refine zL Bd X3 (ef_7 m a1) (some (.ref w2)) nofun (by decide) (by decide) (fun fs hr => ?_) ?_
 · refine aN X0.here hx rfl (D27 hby 0 rfl) rfl rfl (st3 _ ?_)
   jvm_step X3.here [X3.here.top,hx,(D27 hby 2 rfl),X3.method',Bd.returns,Value.isRef,FieldType.isReference]
   first | (intro acts; rw [hr _ acts rfl rfl rfl]) | rw [hr _ _ rfl rfl rfl]
   exact Steps.refl _
 · show QR (some (.ref w2)) h0 n0 _ T3.heap _
   rw [e3]
   exact ⟨rfl,N0,rfl⟩
def l20 : zl := [(0,.iload_n 0,1),(1,.ldc 75,2),(3,.if_icmp .lt 13,3),(6,.iload_n 0,1),(7,.ldc 76,2),(9,.if_icmp .ge 7,3),(12,.iconst 1,1),(13,.goto 4,3),(17,.ireturn,1),(16,.iconst 0,1)]
theorem D20 : zq jdk_89_method_14_code l20 := zd (by decide +kernel)
theorem pn_20 : plainName "java/lang/Character" = true := by first | (simp [plainName,overriddenIn]; done) | decide +kernel
theorem r20h (l:Launch) (Z:State) (a0:Array Value) (hw:zH Z a0) (ws:List Jvm.Cond) (p1:Int32) (h0:Heap) (n0:Nat) (Z0:n0 ≤ h0.size) (hc3:¬ (p1 < 55296)) (hc9:p1 < 56320) :
   zM l Z h0 ws y_12 jdk_89_method_14_code 1 (some .boolean) (zr 0 0 0 0) #[.int p1] (QR (some (.int 1)) h0 n0) := by
 refine zE pn_20 rfl fun p e s m below meth c s₁ Bd hx hby hml hown hZ X0 e0 => ?_
 have D := D20 Bd.bytes
 have N0 := Fr.nil n0
 refine zL Bd X0 (ef_31 m p1) (some (.int 1)) nofun (by decide) (by decide) (fun fs hr => ?_) ?_
 · refine iN X0.here hx rfl (D 0 rfl) rfl (X0.ldcInt hx hown (zT hZ hw 105 rfl) (g:=(mkF m 1 #[vi p1] [.int p1])) rfl (D 1 rfl) _ (cN X0.here hx rfl (D 2 rfl) rfl (flt hc3).1 (iN X0.here hx rfl (D 3 rfl) rfl ?_)))
   refine X0.ldcInt hx hown (zT hZ hw 342 rfl) (g:=(mkF m 7 #[vi p1] [.int p1])) rfl (D 4 rfl) _ (cN X0.here hx rfl (D 5 rfl) rfl (tlt hc9).2.1 (iC X0.here hx rfl (D 6 rfl) (gT X0.here hx rfl (pc0 := 13) (pc':=17) rfl (D 7 rfl) (by decide) (by decide) ?_)))
   exact retN X0 hx (t:=.boolean) Bd.returns (by simp) (D 8 rfl) hr
 · show QR (some (.int 1)) h0 n0 _ s₁.heap _
   rw [e0]
   exact ⟨rfl,N0,rfl⟩
theorem r20a (l:Launch) (Z:State) (a0:Array Value) (hw:zH Z a0) (ws:List Jvm.Cond) (p1:Int32) (h0:Heap) (n0:Nat) (Z0:n0 ≤ h0.size) (hc3:p1 < 55296) :
   zM l Z h0 ws y_12 jdk_89_method_14_code 1 (some .boolean) (zr 0 0 0 0) #[.int p1] (QR (some (.int 0)) h0 n0) := by
 refine zE pn_20 rfl fun p e s m below meth c s₁ Bd hx hby hml hown hZ X0 e0 => ?_
 have D := D20 Bd.bytes
 have N0 := Fr.nil n0
 refine zL Bd X0 (ef_31 m p1) (some (.int 0)) nofun (by decide) (by decide) (fun fs hr => ?_) ?_
 · refine iN X0.here hx rfl (D 0 rfl) rfl (X0.ldcInt hx hown (zT hZ hw 105 rfl) (g:=(mkF m 1 #[vi p1] [.int p1])) rfl (D 1 rfl) _ (cY X0.here hx rfl (pc0 := 3) (pc':=16) rfl (D 2 rfl) rfl (tlt hc3).1 (by decide) (by decide) (iC X0.here hx rfl (D 9 rfl) ?_)))
   exact retN X0 hx (t:=.boolean) Bd.returns (by simp) (D 8 rfl) hr
 · show QR (some (.int 0)) h0 n0 _ s₁.heap _
   rw [e0]
   exact ⟨rfl,N0,rfl⟩
theorem r20b (l:Launch) (Z:State) (a0:Array Value) (hw:zH Z a0) (ws:List Jvm.Cond) (p1:Int32) (h0:Heap) (n0:Nat) (Z0:n0 ≤ h0.size) (hc3:¬ (p1 < 55296)) (hc9:¬ (p1 < 56320)) :
   zM l Z h0 ws y_12 jdk_89_method_14_code 1 (some .boolean) (zr 0 0 0 0) #[.int p1] (QR (some (.int 0)) h0 n0) := by
 refine zE pn_20 rfl fun p e s m below meth c s₁ Bd hx hby hml hown hZ X0 e0 => ?_
 have D := D20 Bd.bytes
 have N0 := Fr.nil n0
 refine zL Bd X0 (ef_31 m p1) (some (.int 0)) nofun (by decide) (by decide) (fun fs hr => ?_) ?_
 · refine iN X0.here hx rfl (D 0 rfl) rfl (X0.ldcInt hx hown (zT hZ hw 105 rfl) (g:=(mkF m 1 #[vi p1] [.int p1])) rfl (D 1 rfl) _ (cN X0.here hx rfl (D 2 rfl) rfl (flt hc3).1 (iN X0.here hx rfl (D 3 rfl) rfl ?_)))
   refine X0.ldcInt hx hown (zT hZ hw 342 rfl) (g:=(mkF m 7 #[vi p1] [.int p1])) rfl (D 4 rfl) _ (cY X0.here hx rfl (pc0 := 9) (pc':=16) rfl (D 5 rfl) rfl (flt hc9).2.1 (by decide) (by decide) (iC X0.here hx rfl (D 9 rfl) ?_))
   exact retN X0 hx (t:=.boolean) Bd.returns (by simp) (D 8 rfl) hr
 · show QR (some (.int 0)) h0 n0 _ s₁.heap _
   rw [e0]
   exact ⟨rfl,N0,rfl⟩
def own_nl (w:Bool) : Int32 := if w then 0 else 1
def own_min (x y:Int32) : Int32 := if y < x then y else x
def own_hs (c:Int32) : Int32 := if c < 55296 then 0 else if c < 56320 then 1 else 0
theorem r26 (l:Launch) (Z:State) (a0:Array Value) (hw:zH Z a0) (ws:List Jvm.Cond) (a1:Addr) (w2:Int32) (w:Bool) (h0:Heap) (n0:Nat) (Z0:n0 ≤ h0.size) (S_C:Sta Z h0 "java/lang/String" "COMPACT_STRINGS" "Z" (.int w2)) (F_c:Fld Z h0 a1 "java/lang/AbstractStringBuilder" "coder" "B" (.int (own_cd w))) (hz:¬ (w2 = 0)) :
   zM l Z h0 ws y_0 jdk_68_method_68_code 1 (some .boolean) (zr 0 0 0 0) #[.ref a1] (QR (some (.int (own_nl w))) h0 n0) := by
 cases w
 · exact r26l l Z a0 hw ws a1 w2 0 h0 n0 Z0 S_C F_c hz rfl
 · exact r26w l Z a0 hw ws a1 w2 1 h0 n0 Z0 S_C F_c hz (by decide)
theorem r16 (l:Launch) (Z:State) (a0:Array Value) (hw:zH Z a0) (ws:List Jvm.Cond) (a1:Addr) (w2:Int32) (w:Bool) (h0:Heap) (n0:Nat) (Z0:n0 ≤ h0.size) (S_C:Sta Z h0 "java/lang/String" "COMPACT_STRINGS" "Z" (.int w2)) (F_c:Fld Z h0 a1 "java/lang/String" "coder" "B" (.int (own_cd w))) (hz:¬ (w2 = 0)) :
   zM l Z h0 ws y_7 jdk_42_method_154_code 1 (some .boolean) (zr 0 0 0 0) #[.ref a1] (QR (some (.int (own_nl w))) h0 n0) := by
 cases w
 · exact r16l l Z a0 hw ws a1 w2 0 h0 n0 Z0 S_C F_c hz rfl
 · exact r16w l Z a0 hw ws a1 w2 1 h0 n0 Z0 S_C F_c hz (by decide)
theorem r20 (l:Launch) (Z:State) (a0:Array Value) (hw:zH Z a0) (ws:List Jvm.Cond) (p1:Int32) (h0:Heap) (n0:Nat) (Z0:n0 ≤ h0.size) :
   zM l Z h0 ws y_12 jdk_89_method_14_code 1 (some .boolean) (zr 0 0 0 0) #[.int p1] (QR (some (.int (own_hs p1))) h0 n0) := by
 by_cases h1 : p1 < 55296
 · rw [show own_hs p1 = 0 from if_pos h1]; exact r20a l Z a0 hw ws p1 h0 n0 Z0 h1
 · by_cases h2 : p1 < 56320
   · rw [show own_hs p1 = 1 from (if_neg h1).trans (if_pos h2)]; exact r20h l Z a0 hw ws p1 h0 n0 Z0 h1 h2
   · rw [show own_hs p1 = 0 from (if_neg h1).trans (if_neg h2)]; exact r20b l Z a0 hw ws p1 h0 n0 Z0 h1 h2
theorem own_min_n (a b:Nat) (ha:a < 2147483648) (hb:b < 2147483648) : own_min (I a) (I b) = I (min a b) := by
 unfold own_min
 by_cases h : I b < I a
 · rw [if_pos h,show min a b = b by have := (own_lt b a hb ha).mp h; omega]
 · rw [if_neg h, show min a b = a by have : ¬ b < a := fun q => h ((own_lt b a hb ha).mpr q)
                                     omega]
theorem r50 (l:Launch) (Z:State) (a0:Array Value) (hw:zH Z a0) (ws:List Jvm.Cond) (p1 p2 vv:Int32) (h0:Heap) (n0:Nat) (Z0:n0 ≤ h0.size) (hv:own_min p1 p2 = vv) :
   zM l Z h0 ws y_23 jdk_29_method_69_code 2 (some .int) (zr 0 0 0 0) #[.int p1,.int p2] (QR (some (.int vv)) h0 n0) := by
 subst hv
 by_cases h : p2 < p1
 · rw [show own_min p1 p2 = p2 from if_pos h]; exact r50b l Z a0 hw ws p1 p2 h0 n0 Z0 h
 · rw [show own_min p1 p2 = p1 from if_neg h]; exact r50a l Z a0 hw ws p1 p2 h0 n0 Z0 h
def l45 : zl := [(0,.aload_n 0,1),(1,.invokespecial 343,3),(4,.ireturn,1)]
theorem D45 : zq jdk_67_method_93_code l45 := zd (by decide +kernel)
theorem pn_45 : plainName "java/lang/StringBuilder" = true := by first | (simp [plainName,overriddenIn]; done) | decide +kernel
theorem pd_45_5 : parseMethodDescriptor "()I" = some ⟨[],some .int⟩ := by decide +kernel
theorem r45 (l:Launch) (Z:State) (a0:Array Value) (hw:zH Z a0) (ws:List Jvm.Cond) (a1:Addr) (w2:Int32) (h0:Heap) (n0:Nat) (Z0:n0 ≤ h0.size) (E_a1:Exa Z h0 a1 "java/lang/StringBuilder") (F:Fld Z h0 a1 "java/lang/AbstractStringBuilder" "count" "I" (.int w2)) :
   zM l Z h0 ws y_47 jdk_67_method_93_code 1 (some .int) (zr 1 0 0 12) #[.ref a1] (QR (some (.int w2)) h0 n0) := by
 refine zE pn_45 rfl fun p e s m below meth c s₁ Bd hx hby hml hown hZ X0 e0 => ?_
 have N0 := Fr.nil n0
 obtain ⟨_,_,⟨T2,L2,k2,n2⟩,-,X2,⟨Lc2,hQ2,l2,y2,z2⟩,st2⟩ := superBack X0 hx hZ (y:=y_32) hown (zW hw 241 rfl) (own_same (y:=y_32) (own_nf (notFace_of_selects (zW hw 133 rfl)) (zW hw 131 rfl) rfl) (zW hw 237 rfl) (by decide)) (zW hw 237 rfl) (zW hw 113 rfl) (by decide) (backOf (W:=0) (r46 l Z a0 hw [] a1 w2 h0 n0 Z0 F) hZ (zW hw 242 rfl) (zW hw 68 rfl) (by decide) (by decide)) e0 (Ins.self E_a1) (g:=(mkF m 1 #[vr a1] [.ref a1])) rfl (by rw [hml]; rfl) (zW hw 242 rfl) (argsL:=[]) (rest:=[]) (lenOf pd_45_5 rfl) rfl (Nat.le_of_eq rfl) (D45 hby 1 rfl) (fun _ _ => ⟨rfl,e0,(by decide:0 + 0 ≤ _),(by decide:0 + 0 ≤ _)⟩)
 dsimp only [Pt.U,Pt.locs,Pt.cells,Pt.slots] at X2 l2 y2 z2 st2 hQ2
 subst l2 y2 z2
 obtain ⟨rfl,N2q,e2⟩ := hQ2
 have N2 := Fr.app N0 N2q
 refine zL Bd X2 (ef_7 m a1) (some (.int w2)) nofun (by decide) (by decide) (fun fs hr => ?_) ?_
 · refine aN X0.here hx rfl (D45 hby 0 rfl) rfl rfl (st2.trans ?_)
   exact retI X2 hx Bd.returns (D45 hby 2 rfl) hr
 · show QR (some (.int w2)) h0 n0 _ T2.heap _
   exact ⟨rfl,N2,e2⟩
def l61 : zl := [(0,.aload_n 0,1),(1,.arraylength,1),(2,.iconst 1,1),(3,.ishr,1),(4,.ireturn,1)]
theorem D61 : zq jdk_52_method_6_code l61 := zd (by decide +kernel)
theorem pn_61 : plainName "java/lang/StringUTF16" = true := by first | (simp [plainName,overriddenIn]; done) | decide +kernel
theorem r61 (l:Launch) (Z:State) (a0:Array Value) (hw:zH Z a0) (ws:List Jvm.Cond) (a1:Addr) (cl_a1:Cell) (z_a1:Int32) (h0:Heap) (n0:Nat) (Z0:n0 ≤ h0.size) (Ar_a1:Arr Z h0 a1 cl_a1 .byte) (S_a1:cl_a1.slots.size = z_a1.toNatClampNeg) (N_a1:¬ z_a1 < 0) :
   zM l Z h0 ws y_42 jdk_52_method_6_code 1 (some .int) (zr 0 0 0 0) #[.ref a1] (QR (some (.int (z_a1 >>> ((1:Int32) &&& 31)))) h0 n0) := by
 refine zE pn_61 rfl fun p e s m below meth c s₁ Bd hx hby hml hown hZ X0 e0 => ?_
 have D := D61 Bd.bytes
 have N0 := Fr.nil n0
 refine zL Bd X0 (ef_7 m a1) (some (.int (z_a1 >>> ((1:Int32) &&& 31)))) nofun (by decide) (by decide) (fun fs hr => ?_) ?_
 · refine aN X0.here hx rfl (D 0 rfl) rfl rfl (X0.arraylength hx (by rw [e0]; exact Ar_a1.1) (State.isArrayOf_alike hZ.alike Ar_a1.2.1) (g:=(mkF m 1 #[vr a1] [.ref a1])) rfl rfl (D 1 rfl) _ ?_)
   rw [len_of S_a1 N_a1]
   refine iC X0.here hx rfl (D 2 rfl) (XS.ishr X0.here hx rfl (D 3 rfl) rfl ?_)
   exact retI X0 hx Bd.returns (D 4 rfl) hr
 · show QR (some (.int (z_a1 >>> ((1:Int32) &&& 31)))) h0 n0 _ s₁.heap _
   rw [e0]
   exact ⟨rfl,N0,rfl⟩
def l19 : zl := [(0,.iload_n 0,1),(1,.ifCond .lt 8,3),(4,.iload_n 0,1),(5,.iload_n 1,1),(6,.if_icmp .lt 10,3),(16,.iload_n 0,1),(17,.ireturn,1)]
theorem D19 : zq jdk_41_method_11_code l19 := zd (by decide +kernel)
theorem pn_19 : plainName "jdk/internal/util/Preconditions" = true := by first | (simp [plainName,overriddenIn]; done) | decide +kernel
theorem ef_19 (m:MethodId) (x0:Int32) (x1:Int32) (x2:Addr) : entryFrame m #[.int x0,.int x1,.ref x2] 3 = mkF m 0 #[.val (.int x0),.val (.int x1),.val (.ref x2)] [] := by first | (simp [entryFrame,mkF,argsToLocals,Value.category]; done) | rfl
theorem r19 (l:Launch) (Z:State) (a0:Array Value) (hw:zH Z a0) (ws:List Jvm.Cond) (p1:Int32) (p2:Int32) (a3:Addr) (h0:Heap) (n0:Nat) (Z0:n0 ≤ h0.size) (hc1:¬ (p1 < 0)) (hc6:p1 < p2) :
   zM l Z h0 ws y_34 jdk_41_method_11_code 3 (some .int) (zr 0 0 0 0) #[.int p1,.int p2,.ref a3] (QR (some (.int p1)) h0 n0) := by
 refine zE pn_19 rfl fun p e s m below meth c s₁ Bd hx hby hml hown hZ X0 e0 => ?_
 have D := D19 Bd.bytes
 have N0 := Fr.nil n0
 refine zL Bd X0 (ef_19 m p1 p2 a3) (some (.int p1)) nofun (by decide) (by decide) (fun fs hr => ?_) ?_
 · refine iN X0.here hx rfl (D 0 rfl) rfl (fN X0.here hx rfl (D 1 rfl) rfl ((if0 _ _).trans (flt hc1).1) (iN X0.here hx rfl (D 2 rfl) rfl (iN X0.here hx rfl (D 3 rfl) rfl ?_)))
   refine cY X0.here hx rfl (pc0 := 6) (pc':=16) rfl (D 4 rfl) rfl (tlt hc6).1 (by decide) (by decide) (iN X0.here hx rfl (D 5 rfl) rfl ?_)
   exact retI X0 hx Bd.returns (D 6 rfl) hr
 · show QR (some (.int p1)) h0 n0 _ s₁.heap _
   rw [e0]
   exact ⟨rfl,N0,rfl⟩
theorem ef_19n (m:MethodId) (x0:Int32) (x1:Int32) : entryFrame m #[.int x0,.int x1,.null] 3 = mkF m 0 #[.val (.int x0),.val (.int x1),.val .null] [] := by first | (simp [entryFrame,mkF,argsToLocals,Value.category]; done) | rfl
theorem r19n (l:Launch) (Z:State) (a0:Array Value) (hw:zH Z a0) (ws:List Jvm.Cond) (p1:Int32) (p2:Int32) (h0:Heap) (n0:Nat) (Z0:n0 ≤ h0.size) (hc1:¬ (p1 < 0)) (hc6:p1 < p2) :
   zM l Z h0 ws y_34 jdk_41_method_11_code 3 (some .int) (zr 0 0 0 0) #[.int p1,.int p2,.null] (QR (some (.int p1)) h0 n0) := by
 refine zE pn_19 rfl fun p e s m below meth c s₁ Bd hx hby hml hown hZ X0 e0 => ?_
 have D := D19 Bd.bytes
 have N0 := Fr.nil n0
 refine zL Bd X0 (ef_19n m p1 p2) (some (.int p1)) nofun (by decide) (by decide) (fun fs hr => ?_) ?_
 · refine iN X0.here hx rfl (D 0 rfl) rfl (fN X0.here hx rfl (D 1 rfl) rfl ((if0 _ _).trans (flt hc1).1) (iN X0.here hx rfl (D 2 rfl) rfl (iN X0.here hx rfl (D 3 rfl) rfl ?_)))
   refine cY X0.here hx rfl (pc0 := 6) (pc':=16) rfl (D 4 rfl) rfl (tlt hc6).1 (by decide) (by decide) (iN X0.here hx rfl (D 5 rfl) rfl ?_)
   exact retI X0 hx Bd.returns (D 6 rfl) hr
 · show QR (some (.int p1)) h0 n0 _ s₁.heap _
   rw [e0]
   exact ⟨rfl,N0,rfl⟩
def l23 : zl := [(0,.iload_n 0,1),(1,.ifCond .lt 13,3),(4,.iload_n 0,1),(5,.iload_n 1,1),(6,.if_icmp .gt 8,3),(9,.iload_n 1,1),(10,.iload_n 2,1),(11,.if_icmp .le 11,3),(22,.iload_n 0,1),(23,.ireturn,1)]
theorem D23 : zq jdk_41_method_12_code l23 := zd (by decide +kernel)
theorem ef_23 (m:MethodId) (x0:Int32) (x1:Int32) (x2:Int32) (x3:Addr) : entryFrame m #[.int x0,.int x1,.int x2,.ref x3] 4 = mkF m 0 #[.val (.int x0),.val (.int x1),.val (.int x2),.val (.ref x3)] [] := by first | (simp [entryFrame,mkF,argsToLocals,Value.category]; done) | rfl
theorem r23 (l:Launch) (Z:State) (a0:Array Value) (hw:zH Z a0) (ws:List Jvm.Cond) (p1:Int32) (p2:Int32) (p3:Int32) (a4:Addr) (h0:Heap) (n0:Nat) (Z0:n0 ≤ h0.size) (hc1:¬ (p1 < 0)) (hc6:¬ (p2 < p1)) (hc11:¬ (p3 < p2)) :
   zM l Z h0 ws y_15 jdk_41_method_12_code 4 (some .int) (zr 0 0 0 0) #[.int p1,.int p2,.int p3,.ref a4] (QR (some (.int p1)) h0 n0) := by
 refine zE pn_19 rfl fun p e s m below meth c s₁ Bd hx hby hml hown hZ X0 e0 => ?_
 have D := D23 Bd.bytes
 have N0 := Fr.nil n0
 refine zL Bd X0 (ef_23 m p1 p2 p3 a4) (some (.int p1)) nofun (by decide) (by decide) (fun fs hr => ?_) ?_
 · refine iN X0.here hx rfl (D 0 rfl) rfl (fN X0.here hx rfl (D 1 rfl) rfl ((if0 _ _).trans (flt hc1).1) (iN X0.here hx rfl (D 2 rfl) rfl (iN X0.here hx rfl (D 3 rfl) rfl ?_)))
   refine cN X0.here hx rfl (D 4 rfl) rfl (flt hc6).2.2.1 (iN X0.here hx rfl (D 5 rfl) rfl (iN X0.here hx rfl (D 6 rfl) rfl (cY X0.here hx rfl (pc0 := 11) (pc':=22) rfl (D 7 rfl) rfl (flt hc11).2.2.2 (by decide) (by decide) ?_)))
   refine iN X0.here hx rfl (D 8 rfl) rfl ?_
   exact retI X0 hx Bd.returns (D 9 rfl) hr
 · show QR (some (.int p1)) h0 n0 _ s₁.heap _
   rw [e0]
   exact ⟨rfl,N0,rfl⟩
theorem ef_23n (m:MethodId) (x0:Int32) (x1:Int32) (x2:Int32) : entryFrame m #[.int x0,.int x1,.int x2,.null] 4 = mkF m 0 #[.val (.int x0),.val (.int x1),.val (.int x2),.val .null] [] := by first | (simp [entryFrame,mkF,argsToLocals,Value.category]; done) | rfl
theorem r23n (l:Launch) (Z:State) (a0:Array Value) (hw:zH Z a0) (ws:List Jvm.Cond) (p1:Int32) (p2:Int32) (p3:Int32) (h0:Heap) (n0:Nat) (Z0:n0 ≤ h0.size) (hc1:¬ (p1 < 0)) (hc6:¬ (p2 < p1)) (hc11:¬ (p3 < p2)) :
   zM l Z h0 ws y_15 jdk_41_method_12_code 4 (some .int) (zr 0 0 0 0) #[.int p1,.int p2,.int p3,.null] (QR (some (.int p1)) h0 n0) := by
 refine zE pn_19 rfl fun p e s m below meth c s₁ Bd hx hby hml hown hZ X0 e0 => ?_
 have D := D23 Bd.bytes
 have N0 := Fr.nil n0
 refine zL Bd X0 (ef_23n m p1 p2 p3) (some (.int p1)) nofun (by decide) (by decide) (fun fs hr => ?_) ?_
 · refine iN X0.here hx rfl (D 0 rfl) rfl (fN X0.here hx rfl (D 1 rfl) rfl ((if0 _ _).trans (flt hc1).1) (iN X0.here hx rfl (D 2 rfl) rfl (iN X0.here hx rfl (D 3 rfl) rfl ?_)))
   refine cN X0.here hx rfl (D 4 rfl) rfl (flt hc6).2.2.1 (iN X0.here hx rfl (D 5 rfl) rfl (iN X0.here hx rfl (D 6 rfl) rfl (cY X0.here hx rfl (pc0 := 11) (pc':=22) rfl (D 7 rfl) rfl (flt hc11).2.2.2 (by decide) (by decide) ?_)))
   refine iN X0.here hx rfl (D 8 rfl) rfl ?_
   exact retI X0 hx Bd.returns (D 9 rfl) hr
 · show QR (some (.int p1)) h0 n0 _ s₁.heap _
   rw [e0]
   exact ⟨rfl,N0,rfl⟩
def l67 : zl := [(0,.iload_n 2,1),(1,.iload_n 0,1),(2,.ior,1),(3,.iload_n 1,1),(4,.ior,1),(5,.ifCond .lt 10,3),(8,.iload_n 1,1),(9,.iload_n 2,1),(10,.iload_n 0,1),(11,.isub,1),(12,.if_icmp .le 11,3),(23,.iload_n 0,1),(24,.ireturn,1)]
theorem D67 : zq jdk_41_method_13_code l67 := zd (by decide +kernel)
theorem r67 (l:Launch) (Z:State) (a0:Array Value) (hw:zH Z a0) (ws:List Jvm.Cond) (p1:Int32) (p2:Int32) (p3:Int32) (a4:Addr) (h0:Heap) (n0:Nat) (Z0:n0 ≤ h0.size) (hc5:¬ (((p3 ||| p1) ||| p2) < 0)) (hc12:¬ ((p3 - p1) < p2)) :
   zM l Z h0 ws y_35 jdk_41_method_13_code 4 (some .int) (zr 0 0 0 0) #[.int p1,.int p2,.int p3,.ref a4] (QR (some (.int p1)) h0 n0) := by
 refine zE pn_19 rfl fun p e s m below meth c s₁ Bd hx hby hml hown hZ X0 e0 => ?_
 have D := D67 Bd.bytes
 have N0 := Fr.nil n0
 refine zL Bd X0 (ef_23 m p1 p2 p3 a4) (some (.int p1)) nofun (by decide) (by decide) (fun fs hr => ?_) ?_
 · refine iN X0.here hx rfl (D 0 rfl) rfl (iN X0.here hx rfl (D 1 rfl) rfl (XS.ior X0.here hx rfl (D 2 rfl) rfl (iN X0.here hx rfl (D 3 rfl) rfl ?_)))
   refine XS.ior X0.here hx rfl (D 4 rfl) rfl (fN X0.here hx rfl (D 5 rfl) rfl ((if0 _ _).trans (flt hc5).1) (iN X0.here hx rfl (D 6 rfl) rfl (iN X0.here hx rfl (D 7 rfl) rfl ?_)))
   refine iN X0.here hx rfl (D 8 rfl) rfl (iB X0.here hx rfl (D 9 rfl) rfl (cY X0.here hx rfl (pc0 := 12) (pc':=23) rfl (D 10 rfl) rfl (flt hc12).2.2.2 (by decide) (by decide) (iN X0.here hx rfl (D 11 rfl) rfl ?_)))
   exact retI X0 hx Bd.returns (D 12 rfl) hr
 · show QR (some (.int p1)) h0 n0 _ s₁.heap _
   rw [e0]
   exact ⟨rfl,N0,rfl⟩
theorem r67n (l:Launch) (Z:State) (a0:Array Value) (hw:zH Z a0) (ws:List Jvm.Cond) (p1:Int32) (p2:Int32) (p3:Int32) (h0:Heap) (n0:Nat) (Z0:n0 ≤ h0.size) (hc5:¬ (((p3 ||| p1) ||| p2) < 0)) (hc12:¬ ((p3 - p1) < p2)) :
   zM l Z h0 ws y_35 jdk_41_method_13_code 4 (some .int) (zr 0 0 0 0) #[.int p1,.int p2,.int p3,.null] (QR (some (.int p1)) h0 n0) := by
 refine zE pn_19 rfl fun p e s m below meth c s₁ Bd hx hby hml hown hZ X0 e0 => ?_
 have D := D67 Bd.bytes
 have N0 := Fr.nil n0
 refine zL Bd X0 (ef_23n m p1 p2 p3) (some (.int p1)) nofun (by decide) (by decide) (fun fs hr => ?_) ?_
 · refine iN X0.here hx rfl (D 0 rfl) rfl (iN X0.here hx rfl (D 1 rfl) rfl (XS.ior X0.here hx rfl (D 2 rfl) rfl (iN X0.here hx rfl (D 3 rfl) rfl ?_)))
   refine XS.ior X0.here hx rfl (D 4 rfl) rfl (fN X0.here hx rfl (D 5 rfl) rfl ((if0 _ _).trans (flt hc5).1) (iN X0.here hx rfl (D 6 rfl) rfl (iN X0.here hx rfl (D 7 rfl) rfl ?_)))
   refine iN X0.here hx rfl (D 8 rfl) rfl (iB X0.here hx rfl (D 9 rfl) rfl (cY X0.here hx rfl (pc0 := 12) (pc':=23) rfl (D 10 rfl) rfl (flt hc12).2.2.2 (by decide) (by decide) (iN X0.here hx rfl (D 11 rfl) rfl ?_)))
   exact retI X0 hx Bd.returns (D 12 rfl) hr
 · show QR (some (.int p1)) h0 n0 _ s₁.heap _
   rw [e0]
   exact ⟨rfl,N0,rfl⟩
def l18 : zl := [(0,.iload_n 0,1),(1,.iload_n 1,1),(2,.getstatic 1053,3),(5,.invokestatic 1059,3),(8,.pop,1),(9,.return_,1)]
theorem D18 : zq jdk_42_method_155_code l18 := zd (by decide +kernel)
theorem pd_18_17 : parseMethodDescriptor "(IILjava/util/function/BiFunction;)I" = some ⟨[.int,.int,(.object "java/util/function/BiFunction")],some .int⟩ := by decide +kernel
theorem r18 (l:Launch) (Z:State) (a0:Array Value) (hw:zH Z a0) (ws:List Jvm.Cond) (p1:Int32) (p2:Int32) (w3:Addr)  (h0:Heap) (n0:Nat) (Z0:n0 ≤ h0.size) (S_SIOOBE_FORMATTER:Sta Z h0 "jdk/internal/util/Preconditions" "SIOOBE_FORMATTER" "Ljava/util/function/BiFunction;" (.ref w3)) (hc1:¬ (p1 < 0)) (hc6:p1 < p2) :
   zM l Z h0 ws y_24 jdk_42_method_155_code 2 none (zr 1 0 0 14) #[.int p1,.int p2] (QR (none) h0 n0) := by
 refine zE pn_7 rfl fun p e s m below meth c s₁ Bd hx hby hml hown hZ X0 e0 => ?_
 have D := D18 Bd.bytes
 have N0 := Fr.nil n0
 obtain ⟨T4,X4,e4,st4⟩ := getS2 X0 hx hZ hown (host:="") (Or.inl (zW hw 96 rfl)) Via.refl e0 S_SIOOBE_FORMATTER (g:=(mkF m 2 #[vi p1,vi p2] [.int p2,.int p1])) rfl (D 2 rfl)
 obtain ⟨_,T5,Lc5,X5,hQ5,st5⟩ := zS X4 hx hZ hown (zW hw 98 rfl) (zW hw 99 rfl) (zW hw 97 rfl) (zW hw 100 rfl) (by decide) (r19 l Z a0 hw [] p1 p2 w3  h0 n0 Z0 hc1 hc6) (by decide) (by decide) (W:=0) (g:=(mkF m 5 #[vi p1,vi p2] [.ref w3,.int p2,.int p1])) rfl (by rw [hml]; rfl) (argsL:=[.int p1,.int p2,.ref w3]) (rest:=[]) (lenOf pd_18_17 rfl) rfl (Nat.le_of_eq rfl) (D 3 rfl) rfl e4 (by decide:0 + 0 ≤ _) (by decide:0 + 0 ≤ _)
 obtain ⟨rfl,N5q,e5⟩ := hQ5
 have N5 := Fr.app N0 N5q
 refine zL Bd X5 (ef_50 m p1 p2) none (fun _ => rfl) (by decide) (by decide) (fun fs hr => ?_) ?_
 · refine iN X0.here hx rfl (D 0 rfl) rfl (iN X0.here hx rfl (D 1 rfl) rfl (st4 _ (st5 _ ?_)))
   refine XS.pop X5.here hx rfl (D 4 rfl) rfl rfl ?_
   exact X5.returnOut hx Bd.returns (D 5 rfl) hr
 · show QR (none) h0 n0 _ T5.heap _
   rw [e5]
   exact ⟨rfl,N5,rfl⟩
theorem r18n (l:Launch) (Z:State) (a0:Array Value) (hw:zH Z a0) (ws:List Jvm.Cond) (p1:Int32) (p2:Int32)  (h0:Heap) (n0:Nat) (Z0:n0 ≤ h0.size) (S_SIOOBE_FORMATTER:Sta Z h0 "jdk/internal/util/Preconditions" "SIOOBE_FORMATTER" "Ljava/util/function/BiFunction;" .null) (hc1:¬ (p1 < 0)) (hc6:p1 < p2) :
   zM l Z h0 ws y_24 jdk_42_method_155_code 2 none (zr 1 0 0 14) #[.int p1,.int p2] (QR (none) h0 n0) := by
 refine zE pn_7 rfl fun p e s m below meth c s₁ Bd hx hby hml hown hZ X0 e0 => ?_
 have D := D18 Bd.bytes
 have N0 := Fr.nil n0
 obtain ⟨T4,X4,e4,st4⟩ := getS2 X0 hx hZ hown (host:="") (Or.inl (zW hw 96 rfl)) Via.refl e0 S_SIOOBE_FORMATTER (g:=(mkF m 2 #[vi p1,vi p2] [.int p2,.int p1])) rfl (D 2 rfl)
 obtain ⟨_,T5,Lc5,X5,hQ5,st5⟩ := zS X4 hx hZ hown (zW hw 98 rfl) (zW hw 99 rfl) (zW hw 97 rfl) (zW hw 100 rfl) (by decide) (r19n l Z a0 hw [] p1 p2  h0 n0 Z0 hc1 hc6) (by decide) (by decide) (W:=0) (g:=(mkF m 5 #[vi p1,vi p2] [.null,.int p2,.int p1])) rfl (by rw [hml]; rfl) (argsL:=[.int p1,.int p2,.null]) (rest:=[]) (lenOf pd_18_17 rfl) rfl (Nat.le_of_eq rfl) (D 3 rfl) rfl e4 (by decide:0 + 0 ≤ _) (by decide:0 + 0 ≤ _)
 obtain ⟨rfl,N5q,e5⟩ := hQ5
 have N5 := Fr.app N0 N5q
 refine zL Bd X5 (ef_50 m p1 p2) none (fun _ => rfl) (by decide) (by decide) (fun fs hr => ?_) ?_
 · refine iN X0.here hx rfl (D 0 rfl) rfl (iN X0.here hx rfl (D 1 rfl) rfl (st4 _ (st5 _ ?_)))
   refine XS.pop X5.here hx rfl (D 4 rfl) rfl rfl ?_
   exact X5.returnOut hx Bd.returns (D 5 rfl) hr
 · show QR (none) h0 n0 _ T5.heap _
   rw [e5]
   exact ⟨rfl,N5,rfl⟩
theorem r18v (l:Launch) (Z:State) (a0:Array Value) (hw:zH Z a0) (ws:List Jvm.Cond) (p1:Int32) (p2:Int32) (fm:Value) (h0:Heap) (n0:Nat) (Z0:n0 ≤ h0.size) (S_F:Sta Z h0 "jdk/internal/util/Preconditions" "SIOOBE_FORMATTER" "Ljava/util/function/BiFunction;" fm) (rf:fm.isRef = true) (hc1:¬ (p1 < 0)) (hc6:p1 < p2) :
   zM l Z h0 ws y_24 jdk_42_method_155_code 2 none (zr 1 0 0 14) #[.int p1,.int p2] (QR (none) h0 n0) := by
 cases fm with
 | null => exact r18n l Z a0 hw ws p1 p2 h0 n0 Z0 S_F hc1 hc6
 | ref w => exact r18 l Z a0 hw ws p1 p2 w h0 n0 Z0 S_F hc1 hc6
 | _ => cases rf
def l66 : zl := [(0,.iload_n 0,1),(1,.iload_n 1,1),(2,.iload_n 2,1),(3,.getstatic 1053,3),(6,.invokestatic 1065,3),(9,.ireturn,1)]
theorem D66 : zq jdk_42_method_157_code l66 := zd (by decide +kernel)
theorem pd_66_21 : parseMethodDescriptor "(IIILjava/util/function/BiFunction;)I" = some ⟨[.int,.int,.int,(.object "java/util/function/BiFunction")],some .int⟩ := by decide +kernel
theorem ef_66 (m:MethodId) (x0:Int32) (x1:Int32) (x2:Int32) : entryFrame m #[.int x0,.int x1,.int x2] 3 = mkF m 0 #[.val (.int x0),.val (.int x1),.val (.int x2)] [] := by first | (simp [entryFrame,mkF,argsToLocals,Value.category]; done) | rfl
theorem r66 (l:Launch) (Z:State) (a0:Array Value) (hw:zH Z a0) (ws:List Jvm.Cond) (p1:Int32) (p2:Int32) (p3:Int32) (w4:Addr)  (h0:Heap) (n0:Nat) (Z0:n0 ≤ h0.size) (S_SIOOBE_FORMATTER:Sta Z h0 "jdk/internal/util/Preconditions" "SIOOBE_FORMATTER" "Ljava/util/function/BiFunction;" (.ref w4)) (hc5:¬ (((p3 ||| p1) ||| p2) < 0)) (hc12:¬ ((p3 - p1) < p2)) :
   zM l Z h0 ws y_25 jdk_42_method_157_code 3 (some .int) (zr 1 0 0 15) #[.int p1,.int p2,.int p3] (QR (some (.int p1)) h0 n0) := by
 refine zE pn_7 rfl fun p e s m below meth c s₁ Bd hx hby hml hown hZ X0 e0 => ?_
 have D := D66 Bd.bytes
 have N0 := Fr.nil n0
 obtain ⟨T5,X5,e5,st5⟩ := getS2 X0 hx hZ hown (host:="") (Or.inl (zW hw 96 rfl)) Via.refl e0 S_SIOOBE_FORMATTER (g:=(mkF m 3 #[vi p1,vi p2,vi p3] [.int p3,.int p2,.int p1])) rfl (D 3 rfl)
 obtain ⟨_,T6,Lc6,X6,hQ6,st6⟩ := zS X5 hx hZ hown (zW hw 319 rfl) (zW hw 320 rfl) (zW hw 97 rfl) (zW hw 321 rfl) (by decide) (r67 l Z a0 hw [] p1 p2 p3 w4  h0 n0 Z0 hc5 hc12) (by decide) (by decide) (W:=0) (g:=(mkF m 6 #[vi p1,vi p2,vi p3] [.ref w4,.int p3,.int p2,.int p1])) rfl (by rw [hml]; rfl) (argsL:=[.int p1,.int p2,.int p3,.ref w4]) (rest:=[]) (lenOf pd_66_21 rfl) rfl (Nat.le_of_eq rfl) (D 4 rfl) rfl e5 (by decide:0 + 0 ≤ _) (by decide:0 + 0 ≤ _)
 obtain ⟨rfl,N6q,e6⟩ := hQ6
 have N6 := Fr.app N0 N6q
 refine zL Bd X6 (ef_66 m p1 p2 p3) (some (.int p1)) nofun (by decide) (by decide) (fun fs hr => ?_) ?_
 · refine iN X0.here hx rfl (D 0 rfl) rfl (iN X0.here hx rfl (D 1 rfl) rfl (iN X0.here hx rfl (D 2 rfl) rfl (st5 _ ?_)))
   refine st6 _ ?_
   exact retI X6 hx Bd.returns (D 5 rfl) hr
 · show QR (some (.int p1)) h0 n0 _ T6.heap _
   rw [e6]
   exact ⟨rfl,N6,rfl⟩
theorem r66n (l:Launch) (Z:State) (a0:Array Value) (hw:zH Z a0) (ws:List Jvm.Cond) (p1:Int32) (p2:Int32) (p3:Int32)  (h0:Heap) (n0:Nat) (Z0:n0 ≤ h0.size) (S_SIOOBE_FORMATTER:Sta Z h0 "jdk/internal/util/Preconditions" "SIOOBE_FORMATTER" "Ljava/util/function/BiFunction;" .null) (hc5:¬ (((p3 ||| p1) ||| p2) < 0)) (hc12:¬ ((p3 - p1) < p2)) :
   zM l Z h0 ws y_25 jdk_42_method_157_code 3 (some .int) (zr 1 0 0 15) #[.int p1,.int p2,.int p3] (QR (some (.int p1)) h0 n0) := by
 refine zE pn_7 rfl fun p e s m below meth c s₁ Bd hx hby hml hown hZ X0 e0 => ?_
 have D := D66 Bd.bytes
 have N0 := Fr.nil n0
 obtain ⟨T5,X5,e5,st5⟩ := getS2 X0 hx hZ hown (host:="") (Or.inl (zW hw 96 rfl)) Via.refl e0 S_SIOOBE_FORMATTER (g:=(mkF m 3 #[vi p1,vi p2,vi p3] [.int p3,.int p2,.int p1])) rfl (D 3 rfl)
 obtain ⟨_,T6,Lc6,X6,hQ6,st6⟩ := zS X5 hx hZ hown (zW hw 319 rfl) (zW hw 320 rfl) (zW hw 97 rfl) (zW hw 321 rfl) (by decide) (r67n l Z a0 hw [] p1 p2 p3  h0 n0 Z0 hc5 hc12) (by decide) (by decide) (W:=0) (g:=(mkF m 6 #[vi p1,vi p2,vi p3] [.null,.int p3,.int p2,.int p1])) rfl (by rw [hml]; rfl) (argsL:=[.int p1,.int p2,.int p3,.null]) (rest:=[]) (lenOf pd_66_21 rfl) rfl (Nat.le_of_eq rfl) (D 4 rfl) rfl e5 (by decide:0 + 0 ≤ _) (by decide:0 + 0 ≤ _)
 obtain ⟨rfl,N6q,e6⟩ := hQ6
 have N6 := Fr.app N0 N6q
 refine zL Bd X6 (ef_66 m p1 p2 p3) (some (.int p1)) nofun (by decide) (by decide) (fun fs hr => ?_) ?_
 · refine iN X0.here hx rfl (D 0 rfl) rfl (iN X0.here hx rfl (D 1 rfl) rfl (iN X0.here hx rfl (D 2 rfl) rfl (st5 _ ?_)))
   refine st6 _ ?_
   exact retI X6 hx Bd.returns (D 5 rfl) hr
 · show QR (some (.int p1)) h0 n0 _ T6.heap _
   rw [e6]
   exact ⟨rfl,N6,rfl⟩
theorem r66v (l:Launch) (Z:State) (a0:Array Value) (hw:zH Z a0) (ws:List Jvm.Cond) (p1:Int32) (p2:Int32) (p3:Int32) (fm:Value) (h0:Heap) (n0:Nat) (Z0:n0 ≤ h0.size) (S_F:Sta Z h0 "jdk/internal/util/Preconditions" "SIOOBE_FORMATTER" "Ljava/util/function/BiFunction;" fm) (rf:fm.isRef = true) (hc5:¬ (((p3 ||| p1) ||| p2) < 0)) (hc12:¬ ((p3 - p1) < p2)) :
   zM l Z h0 ws y_25 jdk_42_method_157_code 3 (some .int) (zr 1 0 0 15) #[.int p1,.int p2,.int p3] (QR (some (.int p1)) h0 n0) := by
 cases fm with
 | null => exact r66n l Z a0 hw ws p1 p2 p3 h0 n0 Z0 S_F hc5 hc12
 | ref w => exact r66 l Z a0 hw ws p1 p2 p3 w h0 n0 Z0 S_F hc5 hc12
 | _ => cases rf
def l71 : zl := [(0,.iload_n 0,1),(1,.iload_n 1,1),(2,.iload_n 2,1),(3,.getstatic 1053,3),(6,.invokestatic 1062,3),(9,.pop,1),(10,.return_,1)]
theorem D71 : zq jdk_42_method_158_code l71 := zd (by decide +kernel)
theorem r71 (l:Launch) (Z:State) (a0:Array Value) (hw:zH Z a0) (ws:List Jvm.Cond) (p1:Int32) (p2:Int32) (p3:Int32) (w4:Addr)  (h0:Heap) (n0:Nat) (Z0:n0 ≤ h0.size) (S_SIOOBE_FORMATTER:Sta Z h0 "jdk/internal/util/Preconditions" "SIOOBE_FORMATTER" "Ljava/util/function/BiFunction;" (.ref w4)) (hc1:¬ (p1 < 0)) (hc6:¬ (p2 < p1)) (hc11:¬ (p3 < p2)) :
   zM l Z h0 ws y_26 jdk_42_method_158_code 3 none (zr 1 0 0 15) #[.int p1,.int p2,.int p3] (QR (none) h0 n0) := by
 refine zE pn_7 rfl fun p e s m below meth c s₁ Bd hx hby hml hown hZ X0 e0 => ?_
 have D := D71 Bd.bytes
 have N0 := Fr.nil n0
 obtain ⟨T5,X5,e5,st5⟩ := getS2 X0 hx hZ hown (host:="") (Or.inl (zW hw 96 rfl)) Via.refl e0 S_SIOOBE_FORMATTER (g:=(mkF m 3 #[vi p1,vi p2,vi p3] [.int p3,.int p2,.int p1])) rfl (D 3 rfl)
 obtain ⟨_,T6,Lc6,X6,hQ6,st6⟩ := zS X5 hx hZ hown (zW hw 334 rfl) (zW hw 126 rfl) (zW hw 97 rfl) (zW hw 127 rfl) (by decide) (r23 l Z a0 hw [] p1 p2 p3 w4  h0 n0 Z0 hc1 hc6 hc11) (by decide) (by decide) (W:=0) (g:=(mkF m 6 #[vi p1,vi p2,vi p3] [.ref w4,.int p3,.int p2,.int p1])) rfl (by rw [hml]; rfl) (argsL:=[.int p1,.int p2,.int p3,.ref w4]) (rest:=[]) (lenOf pd_66_21 rfl) rfl (Nat.le_of_eq rfl) (D 4 rfl) rfl e5 (by decide:0 + 0 ≤ _) (by decide:0 + 0 ≤ _)
 obtain ⟨rfl,N6q,e6⟩ := hQ6
 have N6 := Fr.app N0 N6q
 refine zL Bd X6 (ef_66 m p1 p2 p3) none (fun _ => rfl) (by decide) (by decide) (fun fs hr => ?_) ?_
 · refine iN X0.here hx rfl (D 0 rfl) rfl (iN X0.here hx rfl (D 1 rfl) rfl (iN X0.here hx rfl (D 2 rfl) rfl (st5 _ ?_)))
   refine st6 _ (XS.pop X6.here hx rfl (D 5 rfl) rfl rfl ?_)
   exact X6.returnOut hx Bd.returns (D 6 rfl) hr
 · show QR (none) h0 n0 _ T6.heap _
   rw [e6]
   exact ⟨rfl,N6,rfl⟩
theorem r71n (l:Launch) (Z:State) (a0:Array Value) (hw:zH Z a0) (ws:List Jvm.Cond) (p1:Int32) (p2:Int32) (p3:Int32)  (h0:Heap) (n0:Nat) (Z0:n0 ≤ h0.size) (S_SIOOBE_FORMATTER:Sta Z h0 "jdk/internal/util/Preconditions" "SIOOBE_FORMATTER" "Ljava/util/function/BiFunction;" .null) (hc1:¬ (p1 < 0)) (hc6:¬ (p2 < p1)) (hc11:¬ (p3 < p2)) :
   zM l Z h0 ws y_26 jdk_42_method_158_code 3 none (zr 1 0 0 15) #[.int p1,.int p2,.int p3] (QR (none) h0 n0) := by
 refine zE pn_7 rfl fun p e s m below meth c s₁ Bd hx hby hml hown hZ X0 e0 => ?_
 have D := D71 Bd.bytes
 have N0 := Fr.nil n0
 obtain ⟨T5,X5,e5,st5⟩ := getS2 X0 hx hZ hown (host:="") (Or.inl (zW hw 96 rfl)) Via.refl e0 S_SIOOBE_FORMATTER (g:=(mkF m 3 #[vi p1,vi p2,vi p3] [.int p3,.int p2,.int p1])) rfl (D 3 rfl)
 obtain ⟨_,T6,Lc6,X6,hQ6,st6⟩ := zS X5 hx hZ hown (zW hw 334 rfl) (zW hw 126 rfl) (zW hw 97 rfl) (zW hw 127 rfl) (by decide) (r23n l Z a0 hw [] p1 p2 p3  h0 n0 Z0 hc1 hc6 hc11) (by decide) (by decide) (W:=0) (g:=(mkF m 6 #[vi p1,vi p2,vi p3] [.null,.int p3,.int p2,.int p1])) rfl (by rw [hml]; rfl) (argsL:=[.int p1,.int p2,.int p3,.null]) (rest:=[]) (lenOf pd_66_21 rfl) rfl (Nat.le_of_eq rfl) (D 4 rfl) rfl e5 (by decide:0 + 0 ≤ _) (by decide:0 + 0 ≤ _)
 obtain ⟨rfl,N6q,e6⟩ := hQ6
 have N6 := Fr.app N0 N6q
 refine zL Bd X6 (ef_66 m p1 p2 p3) none (fun _ => rfl) (by decide) (by decide) (fun fs hr => ?_) ?_
 · refine iN X0.here hx rfl (D 0 rfl) rfl (iN X0.here hx rfl (D 1 rfl) rfl (iN X0.here hx rfl (D 2 rfl) rfl (st5 _ ?_)))
   refine st6 _ (XS.pop X6.here hx rfl (D 5 rfl) rfl rfl ?_)
   exact X6.returnOut hx Bd.returns (D 6 rfl) hr
 · show QR (none) h0 n0 _ T6.heap _
   rw [e6]
   exact ⟨rfl,N6,rfl⟩
theorem r71v (l:Launch) (Z:State) (a0:Array Value) (hw:zH Z a0) (ws:List Jvm.Cond) (p1:Int32) (p2:Int32) (p3:Int32) (fm:Value) (h0:Heap) (n0:Nat) (Z0:n0 ≤ h0.size) (S_F:Sta Z h0 "jdk/internal/util/Preconditions" "SIOOBE_FORMATTER" "Ljava/util/function/BiFunction;" fm) (rf:fm.isRef = true) (hc1:¬ (p1 < 0)) (hc6:¬ (p2 < p1)) (hc11:¬ (p3 < p2)) :
   zM l Z h0 ws y_26 jdk_42_method_158_code 3 none (zr 1 0 0 15) #[.int p1,.int p2,.int p3] (QR (none) h0 n0) := by
 cases fm with
 | null => exact r71n l Z a0 hw ws p1 p2 p3 h0 n0 Z0 S_F hc1 hc6 hc11
 | ref w => exact r71 l Z a0 hw ws p1 p2 p3 w h0 n0 Z0 S_F hc1 hc6 hc11
 | _ => cases rf
def l60 : zl := [(0,.iload_n 0,1),(1,.aload_n 1,1),(2,.invokestatic 48,3),(5,.invokestatic 414,3),(8,.return_,1)]
theorem D60 : zq jdk_52_method_91_code l60 := zd (by decide +kernel)
theorem pd_60_47 : parseMethodDescriptor "([B)I" = some ⟨[(.array .byte)],some .int⟩ := by decide +kernel
theorem pd_60_16 : parseMethodDescriptor "(II)V" = some ⟨[.int,.int],none⟩ := by decide +kernel
theorem ef_60 (m:MethodId) (x0:Int32) (x1:Addr) : entryFrame m #[.int x0,.ref x1] 2 = mkF m 0 #[.val (.int x0),.val (.ref x1)] [] := by first | (simp [entryFrame,mkF,argsToLocals,Value.category]; done) | rfl
theorem r60 (l:Launch) (Z:State) (a0:Array Value) (hw:zH Z a0) (ws:List Jvm.Cond) (p1:Int32) (a2:Addr) (cl_a2:Cell) (z_a2:Int32) (fm:Value) (h0:Heap) (n0:Nat) (Z0:n0 ≤ h0.size) (Ar_a2:Arr Z h0 a2 cl_a2 .byte) (S_a2:cl_a2.slots.size = z_a2.toNatClampNeg) (N_a2:¬ z_a2 < 0) (S_F:Sta Z h0 "jdk/internal/util/Preconditions" "SIOOBE_FORMATTER" "Ljava/util/function/BiFunction;" fm) (rf:fm.isRef = true) (hc1:¬ (p1 < 0)) (hc6:p1 < (z_a2 >>> ((1:Int32) &&& 31))) :
   zM l Z h0 ws y_48 jdk_52_method_91_code 2 none (zr 2 0 0 27) #[.int p1,.ref a2] (QR (none) h0 n0) := by
 refine zE pn_61 rfl fun p e s m below meth c s₁ Bd hx hby hml hown hZ X0 e0 => ?_
 have D := D60 Bd.bytes
 have N0 := Fr.nil n0
 obtain ⟨_,T3,Lc3,X3,hQ3,st3⟩ := zS X0 hx hZ hown (zW hw 296 rfl) (zW hw 297 rfl) (zW hw 50 rfl) (zW hw 298 rfl) (by decide) (r61 l Z a0 hw [] a2 cl_a2 z_a2 h0 n0 Z0 Ar_a2 S_a2 N_a2) (by decide) (by decide) (W:=1) (g:=(mkF m 2 #[vi p1,vr a2] [.ref a2,.int p1])) rfl (by rw [hml]; rfl) (argsL:=[.ref a2]) (rest:=[.int p1]) (lenOf pd_60_47 rfl) rfl (Nat.le_of_eq rfl) (D 2 rfl) rfl e0 (by decide:0 + 0 ≤ _) (by decide:0 + 0 ≤ _)
 obtain ⟨rfl,N3q,e3⟩ := hQ3
 have N3 := Fr.app N0 N3q
 obtain ⟨_,T4,Lc4,X4,hQ4,st4⟩ := zS X3 hx hZ hown (zW hw 299 rfl) (zW hw 94 rfl) (zW hw 7 rfl) (zW hw 95 rfl) (by decide) (r18v l Z a0 hw [] p1 (z_a2 >>> ((1:Int32) &&& 31)) fm h0 n0 Z0 S_F rf hc1 hc6) (by decide) (by decide) (W:=0) (g:=(mkF m 5 #[vi p1,vr a2] [(.int (z_a2 >>> ((1:Int32) &&& 31))),.int p1])) rfl (by rw [hml]; rfl) (argsL:=[.int p1,(.int (z_a2 >>> ((1:Int32) &&& 31)))]) (rest:=[]) (lenOf pd_60_16 rfl) rfl (Nat.le_of_eq rfl) (D 3 rfl) rfl e3 (by decide:0 + 0 ≤ _) (by decide:0 + 0 ≤ _)
 obtain ⟨rfl,N4q,e4⟩ := hQ4
 have N4 := Fr.app N3 N4q
 refine zL Bd X4 (ef_60 m p1 a2) none (fun _ => rfl) (by decide) (by decide) (fun fs hr => ?_) ?_
 · refine iN X0.here hx rfl (D 0 rfl) rfl (aN X0.here hx rfl (D 1 rfl) rfl rfl (st3 _ (st4 _ ?_)))
   exact X4.returnOut hx Bd.returns (D 4 rfl) hr
 · show QR (none) h0 n0 _ T4.heap _
   rw [e4]
   exact ⟨rfl,N4,rfl⟩
def l65 : zl := [(0,.iload_n 0,1),(1,.iload_n 1,1),(2,.aload_n 2,1),(3,.invokestatic 48,3),(6,.invokestatic 419,3),(9,.pop,1),(10,.return_,1)]
theorem D65 : zq jdk_52_method_94_code l65 := zd (by decide +kernel)
theorem pd_65_50 : parseMethodDescriptor "(III)I" = some ⟨[.int,.int,.int],some .int⟩ := by decide +kernel
theorem r65 (l:Launch) (Z:State) (a0:Array Value) (hw:zH Z a0) (ws:List Jvm.Cond) (p1:Int32) (p2:Int32) (a3:Addr) (cl_a3:Cell) (z_a3:Int32) (fm:Value) (h0:Heap) (n0:Nat) (Z0:n0 ≤ h0.size) (Ar_a3:Arr Z h0 a3 cl_a3 .byte) (S_a3:cl_a3.slots.size = z_a3.toNatClampNeg) (N_a3:¬ z_a3 < 0) (S_F:Sta Z h0 "jdk/internal/util/Preconditions" "SIOOBE_FORMATTER" "Ljava/util/function/BiFunction;" fm) (rf:fm.isRef = true) (hc5:¬ ((((z_a3 >>> ((1:Int32) &&& 31)) ||| p1) ||| p2) < 0)) (hc12:¬ (((z_a3 >>> ((1:Int32) &&& 31)) - p1) < p2)) :
   zM l Z h0 ws y_56 jdk_52_method_94_code 3 none (zr 2 0 0 29) #[.int p1,.int p2,.ref a3] (QR (none) h0 n0) := by
 refine zE pn_61 rfl fun p e s m below meth c s₁ Bd hx hby hml hown hZ X0 e0 => ?_
 have D := D65 Bd.bytes
 have N0 := Fr.nil n0
 obtain ⟨_,T4,Lc4,X4,hQ4,st4⟩ := zS X0 hx hZ hown (zW hw 296 rfl) (zW hw 297 rfl) (zW hw 50 rfl) (zW hw 298 rfl) (by decide) (r61 l Z a0 hw [] a3 cl_a3 z_a3 h0 n0 Z0 Ar_a3 S_a3 N_a3) (by decide) (by decide) (W:=2) (g:=(mkF m 3 #[vi p1,vi p2,vr a3] [.ref a3,.int p2,.int p1])) rfl (by rw [hml]; rfl) (argsL:=[.ref a3]) (rest:=[.int p2,.int p1]) (lenOf pd_60_47 rfl) rfl (Nat.le_of_eq rfl) (D 3 rfl) rfl e0 (by decide:0 + 0 ≤ _) (by decide:0 + 0 ≤ _)
 obtain ⟨rfl,N4q,e4⟩ := hQ4
 have N4 := Fr.app N0 N4q
 obtain ⟨_,T5,Lc5,X5,hQ5,st5⟩ := zS X4 hx hZ hown (zW hw 316 rfl) (zW hw 317 rfl) (zW hw 7 rfl) (zW hw 318 rfl) (by decide) (r66v l Z a0 hw [] p1 p2 (z_a3 >>> ((1:Int32) &&& 31)) fm h0 n0 Z0 S_F rf hc5 hc12) (by decide) (by decide) (W:=0) (g:=(mkF m 6 #[vi p1,vi p2,vr a3] [(.int (z_a3 >>> ((1:Int32) &&& 31))),.int p2,.int p1])) rfl (by rw [hml]; rfl) (argsL:=[.int p1,.int p2,(.int (z_a3 >>> ((1:Int32) &&& 31)))]) (rest:=[]) (lenOf pd_65_50 rfl) rfl (Nat.le_of_eq rfl) (D 4 rfl) rfl e4 (by decide:0 + 0 ≤ _) (by decide:0 + 0 ≤ _)
 obtain ⟨rfl,N5q,e5⟩ := hQ5
 have N5 := Fr.app N4 N5q
 refine zL Bd X5 (ef_19 m p1 p2 a3) none (fun _ => rfl) (by decide) (by decide) (fun fs hr => ?_) ?_
 · refine iN X0.here hx rfl (D 0 rfl) rfl (iN X0.here hx rfl (D 1 rfl) rfl (aN X0.here hx rfl (D 2 rfl) rfl rfl (st4 _ ?_)))
   refine st5 _ (XS.pop X5.here hx rfl (D 5 rfl) rfl rfl ?_)
   exact X5.returnOut hx Bd.returns (D 6 rfl) hr
 · show QR (none) h0 n0 _ T5.heap _
   rw [e5]
   exact ⟨rfl,N5,rfl⟩
def l70 : zl := [(0,.iload_n 0,1),(1,.iload_n 1,1),(2,.aload_n 2,1),(3,.invokestatic 48,3),(6,.invokestatic 241,3),(9,.return_,1)]
theorem D70 : zq jdk_52_method_93_code l70 := zd (by decide +kernel)
theorem pd_70_52 : parseMethodDescriptor "(III)V" = some ⟨[.int,.int,.int],none⟩ := by decide +kernel
theorem r70 (l:Launch) (Z:State) (a0:Array Value) (hw:zH Z a0) (ws:List Jvm.Cond) (p1:Int32) (p2:Int32) (a3:Addr) (cl_a3:Cell) (z_a3:Int32) (fm:Value) (h0:Heap) (n0:Nat) (Z0:n0 ≤ h0.size) (Ar_a3:Arr Z h0 a3 cl_a3 .byte) (S_a3:cl_a3.slots.size = z_a3.toNatClampNeg) (N_a3:¬ z_a3 < 0) (S_F:Sta Z h0 "jdk/internal/util/Preconditions" "SIOOBE_FORMATTER" "Ljava/util/function/BiFunction;" fm) (rf:fm.isRef = true) (hc1:¬ (p1 < 0)) (hc6:¬ (p2 < p1)) (hc11:¬ ((z_a3 >>> ((1:Int32) &&& 31)) < p2)) :
   zM l Z h0 ws y_57 jdk_52_method_93_code 3 none (zr 2 0 0 29) #[.int p1,.int p2,.ref a3] (QR (none) h0 n0) := by
 refine zE pn_61 rfl fun p e s m below meth c s₁ Bd hx hby hml hown hZ X0 e0 => ?_
 have D := D70 Bd.bytes
 have N0 := Fr.nil n0
 obtain ⟨_,T4,Lc4,X4,hQ4,st4⟩ := zS X0 hx hZ hown (zW hw 296 rfl) (zW hw 297 rfl) (zW hw 50 rfl) (zW hw 298 rfl) (by decide) (r61 l Z a0 hw [] a3 cl_a3 z_a3 h0 n0 Z0 Ar_a3 S_a3 N_a3) (by decide) (by decide) (W:=2) (g:=(mkF m 3 #[vi p1,vi p2,vr a3] [.ref a3,.int p2,.int p1])) rfl (by rw [hml]; rfl) (argsL:=[.ref a3]) (rest:=[.int p2,.int p1]) (lenOf pd_60_47 rfl) rfl (Nat.le_of_eq rfl) (D 3 rfl) rfl e0 (by decide:0 + 0 ≤ _) (by decide:0 + 0 ≤ _)
 obtain ⟨rfl,N4q,e4⟩ := hQ4
 have N4 := Fr.app N0 N4q
 obtain ⟨_,T5,Lc5,X5,hQ5,st5⟩ := zS X4 hx hZ hown (zW hw 331 rfl) (zW hw 332 rfl) (zW hw 7 rfl) (zW hw 333 rfl) (by decide) (r71v l Z a0 hw [] p1 p2 (z_a3 >>> ((1:Int32) &&& 31)) fm h0 n0 Z0 S_F rf hc1 hc6 hc11) (by decide) (by decide) (W:=0) (g:=(mkF m 6 #[vi p1,vi p2,vr a3] [(.int (z_a3 >>> ((1:Int32) &&& 31))),.int p2,.int p1])) rfl (by rw [hml]; rfl) (argsL:=[.int p1,.int p2,(.int (z_a3 >>> ((1:Int32) &&& 31)))]) (rest:=[]) (lenOf pd_70_52 rfl) rfl (Nat.le_of_eq rfl) (D 4 rfl) rfl e4 (by decide:0 + 0 ≤ _) (by decide:0 + 0 ≤ _)
 obtain ⟨rfl,N5q,e5⟩ := hQ5
 have N5 := Fr.app N4 N5q
 refine zL Bd X5 (ef_19 m p1 p2 a3) none (fun _ => rfl) (by decide) (by decide) (fun fs hr => ?_) ?_
 · refine iN X0.here hx rfl (D 0 rfl) rfl (iN X0.here hx rfl (D 1 rfl) rfl (aN X0.here hx rfl (D 2 rfl) rfl rfl (st4 _ ?_)))
   refine st5 _ ?_
   exact X5.returnOut hx Bd.returns (D 5 rfl) hr
 · show QR (none) h0 n0 _ T5.heap _
   rw [e5]
   exact ⟨rfl,N5,rfl⟩
def l58 : zl := [(0,.getstatic 44,3),(3,.ifCond .ne 25,3),(28,.iload_n 1,1),(29,.iconst 1,1),(30,.ishl,1),(31,.istore_n 1,1),(32,.aload_n 0,1),(33,.iload_n 1,1),(34,.iinc 1 1,3),(37,.baload,1),(38,.sipush 255,3),(41,.iand,1),(42,.getstatic 59,3),(45,.ishl,1),(46,.aload_n 0,1),(47,.iload_n 1,1),(48,.baload,1),(49,.sipush 255,3),(52,.iand,1),(53,.getstatic 63,3),(56,.ishl,1),(57,.ior,1),(58,.i2c,1),(59,.ireturn,1)]
theorem D58 : zq jdk_52_method_5_code l58 := zd (by decide +kernel)
theorem ef_58 (m:MethodId) (x0:Addr) (x1:Int32) : entryFrame m #[.ref x0,.int x1] 2 = mkF m 0 #[.val (.ref x0),.val (.int x1)] [] := by first | (simp [entryFrame,mkF,argsToLocals,Value.category]; done) | rfl
theorem r58 (l:Launch) (Z:State) (a0:Array Value) (hw:zH Z a0) (ws:List Jvm.Cond) (a1:Addr) (p2:Int32) (w3:Int32) (w5:Int32) (cl_a1:Cell) (w6:Int32) (w8:Int32) (w9:Int32) (h0:Heap) (n0:Nat) (Z0:n0 ≤ h0.size) (S__assertionsDisabled:Sta Z h0 "java/lang/StringUTF16" "$assertionsDisabled" "Z" (.int w3)) (Ar_a1:Arr Z h0 a1 cl_a1 .byte) (hin37:¬ ((p2 <<< ((1:Int32) &&& 31)) < 0 ∨ cl_a1.slots.size ≤ ((p2 <<< ((1:Int32) &&& 31))).toNatClampNeg)) (hat37:cl_a1.slots[((p2 <<< ((1:Int32) &&& 31))).toNatClampNeg]? = some (.int w5)) (S_HI_BYTE_SHIFT:Sta Z h0 "java/lang/StringUTF16" "HI_BYTE_SHIFT" "I" (.int w6)) (hin48:¬ (((p2 <<< ((1:Int32) &&& 31)) + 1) < 0 ∨ cl_a1.slots.size ≤ (((p2 <<< ((1:Int32) &&& 31)) + 1)).toNatClampNeg)) (hat48:cl_a1.slots[(((p2 <<< ((1:Int32) &&& 31)) + 1)).toNatClampNeg]? = some (.int w8)) (S_LO_BYTE_SHIFT:Sta Z h0 "java/lang/StringUTF16" "LO_BYTE_SHIFT" "I" (.int w9)) (hc3:¬ (w3 = 0)) :
   zM l Z h0 ws y_36 jdk_52_method_5_code 2 (some .char) (zr 0 0 0 0) #[.ref a1,.int p2] (QR (some (.int (nar .char ((((w5 &&& 255) <<< (w6 &&& 31)) ||| ((w8 &&& 255) <<< (w9 &&& 31))).toUInt32.toUInt16.toUInt32.toInt32)))) h0 n0) := by
 refine zE pn_61 rfl fun p e s m below meth c s₁ Bd hx hby hml hown hZ X0 e0 => ?_
 have D := D58 Bd.bytes
 have N0 := Fr.nil n0
 obtain ⟨T4,X4,e4,st4⟩ := getS2 X0 hx hZ hown (host:="") (Or.inl (zW hw 284 rfl)) Via.refl e0 S__assertionsDisabled (g:=(mkF m 0 #[vr a1,vi p2] [])) rfl (D 0 rfl)
 obtain ⟨T7,X7,e7,st7⟩ := getS2 X4 hx hZ hown (host:="") (Or.inl (zW hw 285 rfl)) Via.refl e4 S_HI_BYTE_SHIFT (g:=(mkF m 42 #[vr a1,vi ((p2 <<< ((1:Int32) &&& 31)) + 1)] [(.int (w5 &&& 255))])) rfl (D 12 rfl)
 obtain ⟨T10,X10,e10,st10⟩ := getS2 X7 hx hZ hown (host:="") (Or.inl (zW hw 286 rfl)) Via.refl e7 S_LO_BYTE_SHIFT (g:=(mkF m 53 #[vr a1,vi ((p2 <<< ((1:Int32) &&& 31)) + 1)] [(.int (w8 &&& 255)),(.int ((w5 &&& 255) <<< (w6 &&& 31)))])) rfl (D 19 rfl)
 refine zL Bd X10 (ef_58 m a1 p2) (some (.int (nar .char ((((w5 &&& 255) <<< (w6 &&& 31)) ||| ((w8 &&& 255) <<< (w9 &&& 31))).toUInt32.toUInt16.toUInt32.toInt32)))) nofun (by decide) (by decide) (fun fs hr => ?_) ?_
 · refine st4 _ (fY X4.here hx rfl (pc0 := 3) (pc':=28) rfl (D 1 rfl) rfl ((if0 _ _).trans (feq hc3).2) (by decide) (by decide) (iN X4.here hx rfl (D 2 rfl) rfl (iC X4.here hx rfl (D 3 rfl) ?_)))
   refine XS.ishl X4.here hx rfl (D 4 rfl) rfl (sN X4.here hx rfl (D 5 rfl) rfl (l':=#[vr a1,vi (p2 <<< ((1:Int32) &&& 31))]) rfl (aN X4.here hx rfl (D 6 rfl) rfl rfl (iN X4.here hx rfl (D 7 rfl) rfl ?_)))
   refine iI X4.here hx rfl (D 8 rfl) rfl (l':=#[vr a1,vi ((p2 <<< ((1:Int32) &&& 31)) + 1)]) rfl (X4.baloadBytes hx (j:=(p2 <<< ((1:Int32) &&& 31))) (v:=(.int w5)) (by rw [e4]; exact Ar_a1.1) (State.isArrayOf_alike hZ.alike Ar_a1.2.1) Ar_a1.2.2 hin37 hat37 (g:=(mkF m 37 #[vr a1,vi ((p2 <<< ((1:Int32) &&& 31)) + 1)] [(.int (p2 <<< ((1:Int32) &&& 31))),.ref a1])) rfl rfl (D 9 rfl) _ (XS.sipush X4.here hx rfl (D 10 rfl) (XS.iand X4.here hx rfl (D 11 rfl) rfl ?_)))
   refine st7 _ (XS.ishl X7.here hx rfl (D 13 rfl) rfl (aN X7.here hx rfl (D 14 rfl) rfl rfl (iN X7.here hx rfl (D 15 rfl) rfl ?_)))
   refine X7.baloadBytes hx (j:=((p2 <<< ((1:Int32) &&& 31)) + 1)) (v:=(.int w8)) (by rw [e7]; exact Ar_a1.1) (State.isArrayOf_alike hZ.alike Ar_a1.2.1) Ar_a1.2.2 hin48 hat48 (g:=(mkF m 48 #[vr a1,vi ((p2 <<< ((1:Int32) &&& 31)) + 1)] [(.int ((p2 <<< ((1:Int32) &&& 31)) + 1)),.ref a1,(.int ((w5 &&& 255) <<< (w6 &&& 31)))])) rfl rfl (D 16 rfl) _ (XS.sipush X7.here hx rfl (D 17 rfl) (XS.iand X7.here hx rfl (D 18 rfl) rfl (st10 _ ?_)))
   refine XS.ishl X10.here hx rfl (D 20 rfl) rfl (XS.ior X10.here hx rfl (D 21 rfl) rfl (XS.i2c X10.here hx rfl (D 22 rfl) rfl ?_))
   exact retN X10 hx (t:=.char) Bd.returns (by simp) (D 23 rfl) hr
 · show QR (some (.int (nar .char ((((w5 &&& 255) <<< (w6 &&& 31)) ||| ((w8 &&& 255) <<< (w9 &&& 31))).toUInt32.toUInt16.toUInt32.toInt32)))) h0 n0 _ T10.heap _
   rw [e10]
   exact ⟨rfl,N0,rfl⟩
theorem r58w (l:Launch) (Z:State) (a0:Array Value) (hw:zH Z a0) (ws:List Jvm.Cond) (a1:Addr) (p2:Int32) (cs:List Int32) (i:Nat) (kb:ClassId) (h0:Heap) (n0:Nat) (Z0:n0 ≤ h0.size) (hp2:p2 = I i) (hi:i < cs.length) (hl:cs.length ≤ 200) (K:Arv Z h0 a1 kb .byte (I (2 * cs.length)) (StrChars.Road.wideBytes cs) (.int 0)) (hbb:own_C cs) (SA:Sta Z h0 "java/lang/StringUTF16" "$assertionsDisabled" "Z" (.int 1)) (SH:Sta Z h0 "java/lang/StringUTF16" "HI_BYTE_SHIFT" "I" (.int 0)) (SL:Sta Z h0 "java/lang/StringUTF16" "LO_BYTE_SHIFT" "I" (.int 8)) :
   zM l Z h0 ws y_36 jdk_52_method_5_code 2 (some .char) (zr 0 0 0 0) #[.ref a1,.int p2] (QR (some (.int (cs.getD i 0))) h0 n0) := by
 subst hp2
 obtain ⟨cl,Ar,q,S,N,H,G⟩ := K
 obtain ⟨x1,x2⟩ := own_ix i (by omega)
 have y1 : (I i <<< ((1:Int32) &&& 31)).toNatClampNeg = 2 * i := by rw [x1]; exact own_cl _ (by omega)
 have y2 : (I i <<< ((1:Int32) &&& 31) + 1).toNatClampNeg = 2 * i + 1 := by rw [x1,own_succ]; exact own_cl _ (by omega)
 have y3 : ¬ (I i <<< ((1:Int32) &&& 31)) < 0 := by rw [x1]; exact own_nn _ (by omega)
 have y4 : ¬ (I i <<< ((1:Int32) &&& 31) + 1) < 0 := by rw [x1,own_succ]; exact own_nn _ (by omega)
 rw [own_cl _ (by omega)] at S
 have hm := own_mem cs i hi
 have e1 : nar .char (StrChars.pairCh (StrChars.lo8 (cs.getD i 0)) (StrChars.hi8 (cs.getD i 0))) = cs.getD i 0 := (own_char_id _).trans (StrChars.pair_says (hbb _ hm).1 (hbb _ hm).2)
 have g1 : cl.slots[(I i <<< ((1:Int32) &&& 31)).toNatClampNeg]? = some (.int (StrChars.lo8 (cs.getD i 0))) := by
   rw [y1,H (2 * i) (by omega),StrChars.Road.wide_lo _ cs i hi]
 have g2 : cl.slots[(I i <<< ((1:Int32) &&& 31) + 1).toNatClampNeg]? = some (.int (StrChars.hi8 (cs.getD i 0))) := by
   rw [y2,H (2 * i + 1) (by omega),StrChars.Road.wide_hi _ cs i hi]
 rw [← e1]
 exact r58 l Z a0 hw ws a1 (I i) 1 (StrChars.lo8 (cs.getD i 0)) cl 0 (StrChars.hi8 (cs.getD i 0)) 8 h0 n0 Z0 SA Ar (fun q => q.elim y3 (by rw [y1]; omega)) g1 SH (fun q => q.elim y4 (by rw [y2]; omega)) g2 SL (by decide)
def l59 : zl := [(0,.iload_n 1,1),(1,.aload_n 0,1),(2,.invokestatic 67,3),(5,.aload_n 0,1),(6,.iload_n 1,1),(7,.invokestatic 71,3),(10,.ireturn,1)]
theorem D59 : zq jdk_52_method_83_code l59 := zd (by decide +kernel)
theorem pd_59_46 : parseMethodDescriptor "(I[B)V" = some ⟨[.int,(.array .byte)],none⟩ := by decide +kernel
theorem pd_59_15 : parseMethodDescriptor "([BI)C" = some ⟨[(.array .byte),.int],some .char⟩ := by decide +kernel
theorem r59 (l:Launch) (Z:State) (a0:Array Value) (hw:zH Z a0) (ws:List Jvm.Cond) (a1:Addr) (p2:Int32) (cs:List Int32) (i:Nat) (kb:ClassId) (fm:Value) (h0:Heap) (n0:Nat) (Z0:n0 ≤ h0.size) (hp2:p2 = I i) (hi:i < cs.length) (hl:cs.length ≤ 200) (K:Arv Z h0 a1 kb .byte (I (2 * cs.length)) (StrChars.Road.wideBytes cs) (.int 0)) (hbb:own_C cs) (SA:Sta Z h0 "java/lang/StringUTF16" "$assertionsDisabled" "Z" (.int 1)) (SH:Sta Z h0 "java/lang/StringUTF16" "HI_BYTE_SHIFT" "I" (.int 0)) (SL:Sta Z h0 "java/lang/StringUTF16" "LO_BYTE_SHIFT" "I" (.int 8)) (S_F:Sta Z h0 "jdk/internal/util/Preconditions" "SIOOBE_FORMATTER" "Ljava/util/function/BiFunction;" fm) (rf:fm.isRef = true) :
   zM l Z h0 ws y_58 jdk_52_method_83_code 2 (some .char) (zr 3 0 0 40) #[.ref a1,.int p2] (QR (some (.int (cs.getD i 0))) h0 n0) := by
 refine zE pn_61 rfl fun p e s m below meth c s₁ Bd hx hby hml hown hZ X0 e0 => ?_
 obtain ⟨cl_a1,Ar_a1,qq,S_a1,N_a1,HH,GG⟩ := id K
 have D := D59 Bd.bytes
 have N0 := Fr.nil n0
 obtain ⟨_,T3,Lc3,X3,hQ3,st3⟩ := zS X0 hx hZ hown (zW hw 293 rfl) (zW hw 294 rfl) (zW hw 50 rfl) (zW hw 295 rfl) (by decide) (r60 l Z a0 hw [] p2 a1 cl_a1 (I (2 * cs.length)) fm h0 n0 Z0 Ar_a1 S_a1 N_a1 S_F rf (by rw [hp2]; exact own_nn i (by omega)) (by rw [hp2,(own_ix cs.length (by omega)).2]; exact (own_lt i cs.length (by omega) (by omega)).mpr hi)) (by decide) (by decide) (W:=0) (g:=(mkF m 2 #[vr a1,vi p2] [.ref a1,.int p2])) rfl (by rw [hml]; rfl) (argsL:=[.int p2,.ref a1]) (rest:=[]) (lenOf pd_59_46 rfl) rfl (Nat.le_of_eq rfl) (D 2 rfl) rfl e0 (by decide:0 + 0 ≤ _) (by decide:0 + 0 ≤ _)
 obtain ⟨rfl,N3q,e3⟩ := hQ3
 have N3 := Fr.app N0 N3q
 obtain ⟨_,T4,Lc4,X4,hQ4,st4⟩ := zS X3 hx hZ hown (zW hw 287 rfl) (zW hw 288 rfl) (zW hw 50 rfl) (zW hw 289 rfl) (by decide) (r58w l Z a0 hw [] a1 p2 cs i kb h0 n0 Z0 hp2 hi hl K hbb SA SH SL) (by decide) (by decide) (W:=0) (g:=(mkF m 7 #[vr a1,vi p2] [.int p2,.ref a1])) rfl (by rw [hml]; rfl) (argsL:=[.ref a1,.int p2]) (rest:=[]) (lenOf pd_59_15 rfl) rfl (Nat.le_of_eq rfl) (D 5 rfl) rfl e3 (by decide:0 + 0 ≤ _) (by decide:0 + 0 ≤ _)
 obtain ⟨rfl,N4q,e4⟩ := hQ4
 have N4 := Fr.app N3 N4q
 refine zL Bd X4 (ef_58 m a1 p2) (some (.int (cs.getD i 0))) nofun (by decide) (by decide) (fun fs hr => ?_) ?_
 · refine iN X0.here hx rfl (D 0 rfl) rfl (aN X0.here hx rfl (D 1 rfl) rfl rfl (st3 _ (aN X3.here hx rfl (D 3 rfl) rfl rfl ?_)))
   refine iN X3.here hx rfl (D 4 rfl) rfl (st4 _ ?_)
   exact retN X4 hx (t:=.char) Bd.returns (by simp) (D 6 rfl) (by rw [own_nar_id (hbb _ (own_mem cs i hi)).1 (hbb _ (own_mem cs i hi)).2]; exact hr)
 · show QR (some (.int (cs.getD i 0))) h0 n0 _ T4.heap _
   rw [e4]
   exact ⟨rfl,N4,rfl⟩
def l15 : zl := [(0,.aload_n 0,1),(1,.invokevirtual 492,3),(4,.ifCond .eq 12,3),(16,.aload_n 0,1),(17,.getfield 9,3),(20,.iload_n 1,1),(21,.invokestatic 498,3),(24,.ireturn,1)]
theorem D15 : zq jdk_42_method_56_code l15 := zd (by decide +kernel)
theorem pd_15_14 : parseMethodDescriptor "()Z" = some ⟨[],some .boolean⟩ := by decide +kernel
theorem r15w (l:Launch) (Z:State) (a0:Array Value) (hw:zH Z a0) (ws:List Jvm.Cond) (a1:Addr) (p2:Int32) (w4:Addr) (cs:List Int32) (i:Nat) (kb:ClassId) (fm:Value) (w2:Int32) (h0:Heap) (n0:Nat) (Z0:n0 ≤ h0.size) (E_a1:Exa Z h0 a1 "java/lang/String") (F_value_a1:Fld Z h0 a1 "java/lang/String" "value" "[B" (.ref w4)) (S_C:Sta Z h0 "java/lang/String" "COMPACT_STRINGS" "Z" (.int w2)) (P5:¬ (w2 = 0)) (F_C:Fld Z h0 a1 "java/lang/String" "coder" "B" (.int 1)) (hp2:p2 = I i) (hi:i < cs.length) (hl:cs.length ≤ 200) (K:Arv Z h0 w4 kb .byte (I (2 * cs.length)) (StrChars.Road.wideBytes cs) (.int 0)) (hbb:own_C cs) (SA:Sta Z h0 "java/lang/StringUTF16" "$assertionsDisabled" "Z" (.int 1)) (SH:Sta Z h0 "java/lang/StringUTF16" "HI_BYTE_SHIFT" "I" (.int 0)) (SL:Sta Z h0 "java/lang/StringUTF16" "LO_BYTE_SHIFT" "I" (.int 8)) (S_F:Sta Z h0 "jdk/internal/util/Preconditions" "SIOOBE_FORMATTER" "Ljava/util/function/BiFunction;" fm) (rf:fm.isRef = true) :
   zM l Z h0 ws y_8 jdk_42_method_56_code 2 (some .char) (zr 4 0 0 53) #[.ref a1,.int p2] (QR (some (.int (cs.getD i 0))) h0 n0) := by
 refine zE pn_7 rfl fun p e s m below meth c s₁ Bd hx hby hml hown hZ X0 e0 => ?_
 have D := D15 Bd.bytes
 have N0 := Fr.nil n0
 obtain ⟨cq3,kq3,q3a,q3b,q3c⟩ := isOf hZ e0 E_a1
 obtain ⟨_,T3,Lc3,X3,hQ3,st3⟩ := zU X0 hx hZ hown (zW hw 84 rfl) (zW hw 85 rfl) (zW hw 87 rfl) (zW hw 86 rfl) (by decide) (backOf (W:=0) (r16w l Z a0 hw [] a1 w2 (1:Int32) h0 n0 Z0 S_C F_C P5 (by decide)) hZ (zW hw 88 rfl) (zW hw 7 rfl) (by decide) (by decide)) q3a q3c (g:=(mkF m 1 #[vr a1,vi p2] [.ref a1])) rfl (by rw [hml]; rfl) (argsL:=[]) (rest:=[]) (lenOf pd_15_14 rfl) rfl (Nat.le_of_eq rfl) (D 1 rfl) rfl e0 (by decide:0 + 0 ≤ _) (by decide:0 + 0 ≤ _)
 obtain ⟨rfl,N3q,e3⟩ := hQ3
 have N3 := Fr.app N0 N3q
 obtain ⟨T5,X5,e5,st5⟩ := getF X3 hx hZ hown (host:="") (Or.inl (zW hw 24 rfl)) Via.refl e3 F_value_a1 (g:=(mkF m 17 #[vr a1,vi p2] [.ref a1])) rfl rfl (D 4 rfl)
 obtain ⟨_,T6,Lc6,X6,hQ6,st6⟩ := zS X5 hx hZ hown (zW hw 290 rfl) (zW hw 291 rfl) (zW hw 50 rfl) (zW hw 292 rfl) (by decide) (r59 l Z a0 hw [] w4 p2 cs i kb fm h0 n0 Z0 hp2 hi hl K hbb SA SH SL S_F rf) (by decide) (by decide) (W:=0) (g:=(mkF m 21 #[vr a1,vi p2] [.int p2,.ref w4])) rfl (by rw [hml]; rfl) (argsL:=[.ref w4,.int p2]) (rest:=[]) (lenOf pd_59_15 rfl) rfl (Nat.le_of_eq rfl) (D 6 rfl) rfl e5 (by decide:0 + 0 ≤ _) (by decide:0 + 0 ≤ _)
 obtain ⟨rfl,N6q,e6⟩ := hQ6
 have N6 := Fr.app N3 N6q
 refine zL Bd X6 (ef_58 m a1 p2) (some (.int (cs.getD i 0))) nofun (by decide) (by decide) (fun fs hr => ?_) ?_
 · refine aN X0.here hx rfl (D 0 rfl) rfl rfl (st3.trans (fY X3.here hx rfl (pc0 := 4) (pc':=16) rfl (D 2 rfl) rfl ((if0 _ _).trans (teq (rfl:(0:Int32) = 0)).1) (by decide) (by decide) (aN X3.here hx rfl (D 3 rfl) rfl rfl ?_)))
   refine st5 _ (iN X5.here hx rfl (D 5 rfl) rfl (st6 _ ?_))
   exact retN X6 hx (t:=.char) Bd.returns (by simp) (D 7 rfl) (by rw [own_nar_id (hbb _ (own_mem cs i hi)).1 (hbb _ (own_mem cs i hi)).2]; exact hr)
 · show QR (some (.int (cs.getD i 0))) h0 n0 _ T6.heap _
   rw [e6]
   exact ⟨rfl,N6,rfl⟩
theorem own_slen {R:Room} {len W:Nat} {h:Heap} (hZ:Z.Warmed39 s.vm) (hw:zH Z a0) {o:Addr} {w:Bool} {cs:List Int32} (TX:own_Str Z h o w cs) (SWh:own_SW Z h) (hb:own_C cs) (hwd:own_wd cs = w) (hl:cs.length ≤ 200) (n0:Nat) (hfr:2 ≤ R.frames) (hlo:W + 25 ≤ R.locals) :
   Back l R p e below s args y_9 len W (fun P a => a = #[.ref o] ∧ P.U.heap = h ∧ P.cells + 0 ≤ R.cells ∧ P.slots + 0 ≤ R.slots)
     (fun P _ v B => ∃ L,QR (some (.int (I cs.length))) h n0 v B.U.heap L ∧ B.locs = P.locs ++ L ∧ B.cells = P.cells + 0 ∧ B.slots = P.slots + 0) := by
 obtain ⟨E,C,t,kb,V,K⟩ := TX
 obtain ⟨z,fm,S,hz,F,rf,SA,SH,SL⟩ := SWh
 refine Back.mono (StrChars.Road.lenW hZ (fun d hd => hw d ((by decide +kernel : ∀ d ∈ StrChars.Road.wordsLen,d ∈ tables_1) d hd)) (kI:=4) (zW hw 6 rfl) E V C K (own_cod hwd) hb S hz (by omega) hfr hlo) (fun P a hp => hp) (fun P a v B hp hq => ?_)
 obtain ⟨L,⟨q1,q2,q3⟩,hl,hc,hs⟩ := hq
 exact ⟨L,⟨q1,by rw [q2]; exact Fr.nil n0,q3⟩,hl,hc,hs⟩
theorem own_ch {R:Room} {len W:Nat} {h:Heap} (hZ:Z.Warmed39 s.vm) (hw:zH Z a0) {o:Addr} {w:Bool} {cs:List Int32} (TX:own_Str Z h o w cs) (SWh:own_SW Z h) (hb:own_C cs) (hwd:own_wd cs = w) (hl:cs.length ≤ 200) {i:Nat} {j:Int32} (hi:i < cs.length) (hj:j = I i) (n0:Nat) (Z0:n0 ≤ h.size) (hfr:5 ≤ R.frames) (hlo:W + 66 ≤ R.locals) :
   Back l R p e below s args y_8 len W (fun P a => a = #[.ref o,.int j] ∧ P.U.heap = h ∧ P.cells + 0 ≤ R.cells ∧ P.slots + 0 ≤ R.slots)
     (fun P _ v B => ∃ L,QR (some (.int (cs.getD i 0))) h n0 v B.U.heap L ∧ B.locs = P.locs ++ L ∧ B.cells = P.cells + 0 ∧ B.slots = P.slots + 0) := by
 obtain ⟨E,C,t,kb,V,K⟩ := TX
 obtain ⟨z,fm,S,hz,F,rf,SA,SH,SL⟩ := SWh
 cases w
 · refine Back.mono (StrChars.Road.chN hZ (fun d hd => hw d ((by decide +kernel : ∀ d ∈ StrChars.Road.wordsChN,d ∈ tables_1) d hd)) (kI:=4) (zW hw 6 rfl) E V C K (own_cod hwd) hb S hz F rf (by omega) hi hj (by omega) (by omega)) (fun P a hp => hp) (fun P a v B hp hq => ?_)
   obtain ⟨L,⟨q1,q2,q3⟩,hl,hc,hs⟩ := hq
   exact ⟨L,⟨q1,by rw [q2]; exact Fr.nil n0,q3⟩,hl,hc,hs⟩
 · exact backOf (W:=W) (r15w l Z a0 hw [] o j t cs i kb fm z h n0 Z0 E V S hz C hj hi hl K hb SA SH SL F rf) hZ (zW hw 83 rfl) (zW hw 7 rfl) (by show 4 + 1 ≤ _; omega) (by show W + (2 + 11) + 53 ≤ _; omega)
theorem own_ix6 (i:Nat) (h:i < 256) : (I i <<< ((1:Int32) &&& 31)).toNatClampNeg = 2 * i ∧ (I i <<< ((1:Int32) &&& 31) + 1).toNatClampNeg = 2 * i + 1 ∧ ¬ (I i <<< ((1:Int32) &&& 31)) < 0 ∧ ¬ (I i <<< ((1:Int32) &&& 31) + 1) < 0 ∧ (I (2 * i)).toNatClampNeg = 2 * i := by
 obtain ⟨x1,x2⟩ := own_ix i h
 rw [x1,own_succ]
 exact ⟨own_cl _ (by omega),own_cl _ (by omega),own_nn _ (by omega),own_nn _ (by omega),own_cl _ (by omega)⟩
def l57 : zl := [(0,.getstatic 44,3),(3,.ifCond .ne 25,3),(28,.iload_n 1,1),(29,.iconst 1,1),(30,.ishl,1),(31,.istore_n 1,1),(32,.aload_n 0,1),(33,.iload_n 1,1),(34,.iinc 1 1,3),(37,.iload_n 2,1),(38,.getstatic 59,3),(41,.ishr,1),(42,.i2b,1),(43,.bastore,1),(44,.aload_n 0,1),(45,.iload_n 1,1),(46,.iload_n 2,1),(47,.getstatic 63,3),(50,.ishr,1),(51,.i2b,1),(52,.bastore,1),(53,.return_,1)]
theorem D57 : zq jdk_52_method_4_code l57 := zd (by decide +kernel)
theorem ef_57 (m:MethodId) (x0:Addr) (x1:Int32) (x2:Int32) : entryFrame m #[.ref x0,.int x1,.int x2] 3 = mkF m 0 #[.val (.ref x0),.val (.int x1),.val (.int x2)] [] := by first | (simp [entryFrame,mkF,argsToLocals,Value.category]; done) | rfl
theorem own_bid (x:Int32) : nar .byte (x.toInt8.toInt32) = x.toInt8.toInt32 := by
 show (_:Int32).toInt8.toInt32 = _
 rw [Int8.toInt8_toInt32]
def own_put (vs:List Value) (i:Nat) (c:Int32) : List Value := (vs.set (2 * i) (.int (StrChars.lo8 c))).set (2 * i + 1) (.int (StrChars.hi8 c))
theorem own_put_len (vs:List Value) (i:Nat) (c:Int32) : (own_put vs i c).length = vs.length := by unfold own_put; rw [List.length_set,List.length_set]
theorem own_put_take (vs:List Value) (xs:List Int32) (i:Nat) (c:Int32) (h:vs.take (2 * i) = StrChars.Road.wideBytes xs) (hi:2 * i + 1 < vs.length) : (own_put vs i c).take (2 * (i + 1)) = StrChars.Road.wideBytes (xs ++ [c]) := by
 unfold own_put
 rw [show 2 * (i + 1) = 2 * i + 1 + 1 by omega,own_takeset2 _ _ _ _ hi,h,own_wb_app]; rfl
def Q57 (Z:State) (a1:Addr) (kb:ClassId) (n i:Nat) (c:Int32) (vs:List Value) (h0:Heap) (n0:Nat) (v:Option Value) (h:Heap) (L:List Loc) : Prop := v = none ∧ Fr n0 L ∧ Keep h0 h [a1] ∧ Arv Z h a1 kb .byte (I (2 * n)) (own_put vs i c) (.int 0)
theorem r57 (l:Launch) (Z:State) (a0:Array Value) (hw:zH Z a0) (ws:List Jvm.Cond) (a1:Addr) (p2:Int32) (p3:Int32) (kb:ClassId) (n i:Nat) (vs:List Value) (h0:Heap) (n0:Nat) (Z0:n0 ≤ h0.size) (hp2:p2 = I i) (hi:i < n) (hn:n ≤ 200) (V:Arv Z h0 a1 kb .byte (I (2 * n)) vs (.int 0)) (hvs:vs.length = 2 * n) (g_a1:n0 ≤ a1) (SA:Sta Z h0 "java/lang/StringUTF16" "$assertionsDisabled" "Z" (.int 1)) (SH:Sta Z h0 "java/lang/StringUTF16" "HI_BYTE_SHIFT" "I" (.int 0)) (SL:Sta Z h0 "java/lang/StringUTF16" "LO_BYTE_SHIFT" "I" (.int 8)) :
   zM l Z h0 ws y_3 jdk_52_method_4_code 3 none (zr 0 0 0 0) #[.ref a1,.int p2,.int p3] (Q57 Z a1 kb n i p3 vs h0 n0) := by
 refine MetFree.of_bodySF (plainFor_of_name pn_61) hisR ?_
 intro p e s m args below meth c s₁ Bd hml0 hP hK
 obtain ⟨rfl,hZ,hh⟩ := hP
 have hx := Bd.exec
 subst hp2
 obtain ⟨x1,x2,x3,x4,x5⟩ := own_ix6 i (by omega)
 obtain ⟨-,-,-,-,y5⟩ := own_ix6 n (by omega)
 obtain ⟨cl_a1,Ar_a1,q_a1,S_a1,N_a1,H_a1,G_a1⟩ := V
 have Sz : cl_a1.slots.size = 2 * n := by rw [S_a1,y5]
 have hin43 : ¬ ((I i <<< ((1:Int32) &&& 31)) < 0 ∨ cl_a1.slots.size ≤ ((I i <<< ((1:Int32) &&& 31))).toNatClampNeg) := fun q => q.elim x3 (by rw [x1]; omega)
 have D := D57 Bd.bytes
 have hml : c.maxLocals = 3 := hml0
 have hown : s.vm.findClass "java/lang/StringUTF16" = some m.cls := findClass_of_methodNamed Bd.named
 have X0 : Stand p l e (zr 0 0 0 0) s m #[.ref a1,(.int (I i)),.int p3] below meth c s₁ [] 0 0 := Stand.of_body Bd
 have e0 : s₁.heap = h0 := by rw [← hh,Bd.state]; rfl
 have N0 := Fr.nil n0
 have pre0 := zP p e below s₁ (ef_57 m a1 (I i) p3)
 obtain ⟨T5,X5,e5,st5⟩ := getS2 X0 hx hZ hown (host:="") (Or.inl (zW hw 284 rfl)) Via.refl e0 SA (g:=(mkF m 0 #[vr a1,vi (I i),vi p3] [])) rfl (D 0 rfl)
 obtain ⟨T7,X7,e7,st7⟩ := getS2 X5 hx hZ hown (host:="") (Or.inl (zW hw 285 rfl)) Via.refl e5 SH (g:=(mkF m 38 #[vr a1,vi (((I i) <<< ((1:Int32) &&& 31)) + 1),vi p3] [.int p3,(.int ((I i) <<< ((1:Int32) &&& 31))),.ref a1])) rfl (D 10 rfl)
 obtain ⟨T8,h8,X8,e8,W8,st8⟩ := stB X7 hx hZ e7 Ar_a1 (j:=((I i) <<< ((1:Int32) &&& 31))) hin43 (g:=(mkF m 43 #[vr a1,vi (((I i) <<< ((1:Int32) &&& 31)) + 1),vi p3] [(.int ((p3 >>> ((0:Int32) &&& 31)).toInt8.toInt32)),(.int ((I i) <<< ((1:Int32) &&& 31))),.ref a1])) rfl rfl (D 13 rfl)
 have V8 := Arv.set Ar_a1 q_a1 S_a1 N_a1 H_a1 G_a1 (fits_nar_byte _) W8 (2 * i) x1 (by omega)
 obtain ⟨cl8,Ar8,q8,S8,M8,H8,G8⟩ := V8
 have N8 := Fr.snoc X8 N0 g_a1
 have K8 : Keep h0 h8 [a1] := (Keep.refl h0 [a1]).wr W8 (Or.inl (List.mem_of_getElem? (i:=0) rfl))
 have Sz8 : cl8.slots.size = 2 * n := by rw [S8,y5]
 have hin52b : ¬ ((I i <<< ((1:Int32) &&& 31) + 1) < 0 ∨ cl8.slots.size ≤ ((I i <<< ((1:Int32) &&& 31) + 1)).toNatClampNeg) := fun q => q.elim x4 (by rw [x2]; omega)
 obtain ⟨T10,X10,e10,st10⟩ := getS2 X8 hx hZ hown (host:="") (Or.inl (zW hw 286 rfl)) Via.refl e8 (SL.wr W8) (g:=(mkF m 47 #[vr a1,vi (((I i) <<< ((1:Int32) &&& 31)) + 1),vi p3] [.int p3,(.int (((I i) <<< ((1:Int32) &&& 31)) + 1)),.ref a1])) rfl (D 17 rfl)
 obtain ⟨T11,h11,X11,e11,W11,st11⟩ := stB X10 hx hZ e10 Ar8 (j:=(((I i) <<< ((1:Int32) &&& 31)) + 1)) hin52b (g:=(mkF m 52 #[vr a1,vi (((I i) <<< ((1:Int32) &&& 31)) + 1),vi p3] [(.int ((p3 >>> ((8:Int32) &&& 31)).toInt8.toInt32)),(.int (((I i) <<< ((1:Int32) &&& 31)) + 1)),.ref a1])) rfl rfl (D 20 rfl)
 have V11 := Arv.set Ar8 q8 S8 M8 H8 G8 (fits_nar_byte _) W11 (2 * i + 1) x2 (by rw [List.length_set]; omega)
 rw [Int8.toInt8_toInt32,Int8.toInt8_toInt32,own_s0] at V11
 have N11 := Fr.snoc X11 N8 g_a1
 have K11 : Keep h0 h11 [a1] := K8.wr W11 (Or.inl (List.mem_of_getElem? (i:=0) rfl))
 obtain ⟨fs,hr,hrun,hended,hW,hsame⟩ := X11.leave (v:=none) (fun _ => rfl)
 refine ⟨_,_,pre0 _ ?_,hrun,hended,_,_,rfl,?_,⟨_,rfl⟩,hW,hsame.mono (by decide) (by decide)⟩
 · refine st5 _ (fY X5.here hx rfl (pc0 := 3) (pc':=28) rfl (D 1 rfl) rfl ((if0 _ _).trans (feq (by decide:¬ ((1:Int32) = 0))).2) (by decide) (by decide) (iN X5.here hx rfl (D 2 rfl) rfl (iC X5.here hx rfl (D 3 rfl) ?_)))
   refine XS.ishl X5.here hx rfl (D 4 rfl) rfl (sN X5.here hx rfl (D 5 rfl) rfl (l':=#[vr a1,vi ((I i) <<< ((1:Int32) &&& 31)),vi p3]) rfl (aN X5.here hx rfl (D 6 rfl) rfl rfl (iN X5.here hx rfl (D 7 rfl) rfl ?_)))
   refine iI X5.here hx rfl (D 8 rfl) rfl (l':=#[vr a1,vi (((I i) <<< ((1:Int32) &&& 31)) + 1),vi p3]) rfl (iN X5.here hx rfl (D 9 rfl) rfl (st7 _ (XS.ishr X7.here hx rfl (D 11 rfl) rfl ?_)))
   refine XS.i2b X7.here hx rfl (D 12 rfl) rfl (st8 _ (aN X8.here hx rfl (D 14 rfl) rfl rfl (iN X8.here hx rfl (D 15 rfl) rfl ?_)))
   refine iN X8.here hx rfl (D 16 rfl) rfl (st10 _ (XS.ishr X10.here hx rfl (D 18 rfl) rfl (XS.i2b X10.here hx rfl (D 19 rfl) rfl ?_)))
   refine st11 _ ?_
   exact X11.returnOut hx Bd.returns (D 21 rfl) hr
 · show Q57 Z a1 kb n i p3 vs h0 n0 _ T11.heap _
   rw [e11]
   exact ⟨rfl,N11,K11,V11⟩
def l56 : zl := [(0,.iload_n 0,1),(1,.ifCond .ge 11,3),(12,.iload_n 0,1),(13,.ldc 20,2),(15,.if_icmp .lt 40,3),(55,.iload_n 0,1),(56,.iconst 1,1),(57,.ishl,1),(58,.ireturn,1)]
theorem D56 : zq jdk_52_method_3_code l56 := zd (by decide +kernel)
theorem r56 (l:Launch) (Z:State) (a0:Array Value) (hw:zH Z a0) (ws:List Jvm.Cond) (p1:Int32) (h0:Heap) (n0:Nat) (Z0:n0 ≤ h0.size) (hc1:¬ (p1 < 0)) (hc15:p1 < 1073741823) :
   zM l Z h0 ws y_43 jdk_52_method_3_code 1 (some .int) (zr 0 0 0 0) #[.int p1] (QR (some (.int (p1 <<< ((1:Int32) &&& 31)))) h0 n0) := by
 refine zE pn_61 rfl fun p e s m below meth c s₁ Bd hx hby hml hown hZ X0 e0 => ?_
 have D := D56 Bd.bytes
 have N0 := Fr.nil n0
 refine zL Bd X0 (ef_31 m p1) (some (.int (p1 <<< ((1:Int32) &&& 31)))) nofun (by decide) (by decide) (fun fs hr => ?_) ?_
 · refine iN X0.here hx rfl (D 0 rfl) rfl (fY X0.here hx rfl (pc0 := 1) (pc':=12) rfl (D 1 rfl) rfl ((if0 _ _).trans (flt hc1).2.1) (by decide) (by decide) (iN X0.here hx rfl (D 2 rfl) rfl (X0.ldcInt hx hown (zT hZ hw 280 rfl) (g:=(mkF m 13 #[vi p1] [.int p1])) rfl (D 3 rfl) _ ?_)))
   refine cY X0.here hx rfl (pc0 := 15) (pc':=55) rfl (D 4 rfl) rfl (tlt hc15).1 (by decide) (by decide) (iN X0.here hx rfl (D 5 rfl) rfl (iC X0.here hx rfl (D 6 rfl) (XS.ishl X0.here hx rfl (D 7 rfl) rfl ?_)))
   exact retI X0 hx Bd.returns (D 8 rfl) hr
 · show QR (some (.int (p1 <<< ((1:Int32) &&& 31)))) h0 n0 _ s₁.heap _
   rw [e0]
   exact ⟨rfl,N0,rfl⟩
theorem r56c (l:Launch) (Z:State) (a0:Array Value) (hw:zH Z a0) (ws:List Jvm.Cond) (n:Nat) (h0:Heap) (n0:Nat) (Z0:n0 ≤ h0.size) (hn:n ≤ 200) :
   zM l Z h0 ws y_43 jdk_52_method_3_code 1 (some .int) (zr 0 0 0 0) #[(.int (I n))] (QR (some (.int (I (2 * n)))) h0 n0) := by
 rw [← (own_ix n (by omega)).1]
 exact r56 l Z a0 hw ws (I n) h0 n0 Z0 (own_nn n (by omega)) (by rw [show (1073741823:Int32) = I 1073741823 from rfl]; exact (own_lt n 1073741823 (by omega) (by decide)).mpr (by omega))
def l55 : zl := [(0,.iload_n 0,1),(1,.invokestatic 11,3),(4,.newarray .byte,2),(6,.areturn,1)]
theorem D55 : zq jdk_52_method_2_code l55 := zd (by decide +kernel)
theorem pd_55_30 : parseMethodDescriptor "(I)I" = some ⟨[.int],some .int⟩ := by decide +kernel
def Q55 (Z:State) (n:Nat) (h0:Heap) (n0:Nat) (v:Option Value) (h:Heap) (L:List Loc) : Prop := v = some (.ref h0.size) ∧ Fr n0 L ∧ Keep h0 h [] ∧ ∃ k,Arv Z h h0.size k .byte (I (2 * n)) (List.replicate (2 * n) (Value.int 0)) (.int 0)
theorem r55 (l:Launch) (Z:State) (a0:Array Value) (hw:zH Z a0) (ws:List Jvm.Cond) (n:Nat) (h0:Heap) (n0:Nat) (Z0:n0 ≤ h0.size) (hn:n ≤ 200) :
   zM l Z h0 ws y_49 jdk_52_method_2_code 1 (some (.array .byte)) (zr 1 1 400 12) #[(.int (I n))] (Q55 Z n h0 n0) := by
 refine zE pn_61 rfl fun p e s m below meth c s₁ Bd hx hby hml hown hZ X0 e0 => ?_
 have D := D55 Bd.bytes
 have N0 := Fr.nil n0
 obtain ⟨_,T2,Lc2,X2,hQ2,st2⟩ := zS X0 hx hZ hown (zW hw 277 rfl) (zW hw 278 rfl) (zW hw 50 rfl) (zW hw 279 rfl) (by decide) (r56c l Z a0 hw [] n h0 n0 Z0 hn) (by decide) (by decide) (W:=0) (g:=(mkF m 1 #[vi (I n)] [(.int (I n))])) rfl (by rw [hml]; rfl) (argsL:=[(.int (I n))]) (rest:=[]) (lenOf pd_55_30 rfl) rfl (Nat.le_of_eq rfl) (D 1 rfl) rfl e0 (by decide:0 + 0 ≤ _) (by decide:0 + 0 ≤ _)
 obtain ⟨rfl,N2q,e2⟩ := hQ2
 have N2 := Fr.app N0 N2q
 obtain ⟨T3,h3,k3,X3,e3,E3,A3,st3⟩ := newP X2 hx hZ (zW hw 19 rfl) e2 (g:=(mkF m 4 #[vi (I n)] [(.int (I (2 * n)))])) rfl (D 2 rfl) rfl (own_nn _ (by omega)) (cap:=400) (by rw [own_cl _ (by omega)]; omega) (by decide) (by decide) (by decide)
 obtain ⟨b3,g3⟩ : ∃ z,z = h0.size := ⟨_,rfl⟩
 rw [← g3] at A3 st3
 have V_b3 : Arv Z h3 b3 k3 .byte (I (2 * n)) ([] ++ (List.replicate (2 * n) (Value.int 0))) (.int 0) := (Arv.new A3 (own_nn _ (by omega))).pad (pad_rep [] (.int 0) (2 * n))
 have g_b3 : n0 ≤ b3 := Nat.le_trans Z0 (Nat.le_of_eq g3.symm)
 have sz_b3 : h0.size ≤ b3 := (Nat.le_trans (Keep.refl h0 []).1 (Nat.le_of_eq g3.symm))
 have K3 : Keep h0 h3 [] := (Keep.refl h0 []).ext E3
 refine zL Bd X3 (ef_31 m (I n)) (some (.ref b3)) nofun (by decide) (by decide) (fun fs hr => ?_) ?_
 · refine iN X0.here hx rfl (D 0 rfl) rfl (st2 _ (st3 _ ?_))
   jvm_step X3.here [X3.here.top,hx,(D 3 rfl),X3.method',Bd.returns,Value.isRef,FieldType.isReference]
   first | (intro acts; rw [hr _ acts rfl rfl rfl]) | rw [hr _ _ rfl rfl rfl]
   exact Steps.refl _
 · show Q55 Z n h0 n0 _ T3.heap _
   rw [e3]
   subst g3
   exact ⟨rfl,N2,K3,k3,V_b3⟩
abbrev own_R54 : Room := (zr 2 1 400 28)
def l54 : zl := [(8,.iload 4,2),(10,.iload_n 2,1),(11,.if_icmp .ge 21,3),(14,.aload_n 3,1),(15,.iload 4,2),(17,.aload_n 0,1),(18,.iload_n 1,1),(19,.caload,1),(20,.invokestatic 111,3),(23,.iinc 1 1,3),(26,.iinc 4 1,3),(29,.goto (-21),3),(0,.iload_n 2,1),(1,.invokestatic 107,3),(4,.astore_n 3,1),(5,.iconst 0,1),(6,.istore 4,2),(32,.aload_n 3,1),(33,.areturn,1)]
theorem D54 : zq jdk_52_method_14_code l54 := zd (by decide +kernel)
theorem pd_54_45 : parseMethodDescriptor "([BII)V" = some ⟨[(.array .byte),.int,.int],none⟩ := by decide +kernel
theorem tb {h0:Heap} (o0:Addr) (i1:Int32) (i2:Int32) (o3:Addr) (i4:Int32) (cs:List Int32) (n i:Nat) (kc kb:ClassId) (vs:List Value) (n0:Nat)
   (X0:Stand p l e own_R54 s m args below meth c T0 locs cells slots) (hx:p.tables.exec = Jvm.exec) (hZ:Z.Warmed39 s.vm) (hw:zH Z a0) (hby:c.code = jdk_52_method_14_code) (hml:c.maxLocals = 5) (hown:s.vm.findClass "java/lang/StringUTF16" = some m.cls) (e0:T0.heap = h0) (hcs:cs.length = n) (hi:i < n) (hn:n ≤ 200) (h1:i1 = I i) (h4:i4 = I i) (C:Arv Z h0 o0 kc .char (I n) (cs.map Value.int) (.int 0)) (V:Arv Z h0 o3 kb .byte (I (2 * n)) vs (.int 0)) (hvs:vs.length = 2 * n) (g_o3:n0 ≤ o3) (SA:Sta Z h0 "java/lang/StringUTF16" "$assertionsDisabled" "Z" (.int 1)) (SH:Sta Z h0 "java/lang/StringUTF16" "HI_BYTE_SHIFT" "I" (.int 0)) (SL:Sta Z h0 "java/lang/StringUTF16" "LO_BYTE_SHIFT" "I" (.int 8)) (Z0:n0 ≤ h0.size) (N0:Fr n0 locs) (hcl:cells ≤ own_R54.cells) (hsl:slots ≤ own_R54.slots) (hc11:i4 < i2) :
   ∃ (T':State) (locs':List Loc),Stand p l e own_R54 s m args below meth c T' locs' cells slots ∧ Fr n0 locs' ∧ Keep h0 T'.heap [o3] ∧ Arv Z T'.heap o3 kb .byte (I (2 * n)) (own_put vs i (cs.getD i 0)) (.int 0) ∧
     ∀ target,Steps p.tables e below (T'.setTop (mkF m 8 #[vr o0,vi (i1 + 1),vi i2,vr o3,vi (i4 + 1)] [])) target → Steps p.tables e below (T0.setTop (mkF m 8 #[vr o0,vi i1,vi i2,vr o3,vi i4] [])) target := by
 have D := D54 hby
 obtain ⟨cl_o0,Ar_o0,qc,Sc,Mc,Hc,Gc⟩ := C
 have x1 : (i1).toNatClampNeg = i := by rw [h1]; exact own_cl i (by omega)
 have hin19 : ¬ (i1 < 0 ∨ cl_o0.slots.size ≤ (i1).toNatClampNeg) := fun q => q.elim (by rw [h1]; exact own_nn i (by omega)) (by rw [x1,Sc,own_cl n (by omega)]; omega)
 have hat19 : cl_o0.slots[(i1).toNatClampNeg]? = some (.int (cs.getD i 0)) := by
   rw [x1,Hc i (by rw [Sc,own_cl n (by omega)]; exact hi)]
   simp [List.getD_eq_getElem?_getD,List.getElem?_eq_getElem (show i < cs.length by omega)]
 obtain ⟨_,T5,Lc5,X5,hQ5,st5⟩ := zS X0 hx hZ hown (zW hw 281 rfl) (zW hw 282 rfl) (zW hw 50 rfl) (zW hw 283 rfl) (by decide) (r57 l Z a0 hw [] o3 i4 (cs.getD i 0) kb n i vs h0 n0 Z0 h4 hi hn V hvs g_o3 SA SH SL) (by decide) (by decide) (W:=0) (g:=(mkF m 20 #[vr o0,vi i1,vi i2,vr o3,vi i4] [(.int (cs.getD i 0)),.int i4,.ref o3])) rfl (by rw [hml]; rfl) (argsL:=[.ref o3,.int i4,(.int (cs.getD i 0))]) (rest:=[]) (lenOf pd_54_45 rfl) rfl (Nat.le_of_eq rfl) (D 8 rfl) rfl e0 hcl hsl
 obtain ⟨rfl,N5q,K5,V5⟩ := hQ5
 have N5 := Fr.app N0 N5q
 refine ⟨T5,_,X5,N5,K5,V5,fun target kt => ?_⟩
 refine iL X0.here hx rfl (D 0 rfl) rfl (iN X0.here hx rfl (D 1 rfl) rfl (cN X0.here hx rfl (D 2 rfl) rfl (tlt hc11).2.1 (aN X0.here hx rfl (D 3 rfl) rfl rfl ?_)))
 refine iL X0.here hx rfl (D 4 rfl) rfl (aN X0.here hx rfl (D 5 rfl) rfl rfl (iN X0.here hx rfl (D 6 rfl) rfl (X0.caload hx (j:=i1) (v:=(.int (cs.getD i 0))) (by rw [e0]; exact Ar_o0.1) (State.isArrayOf_alike hZ.alike Ar_o0.2.1) Ar_o0.2.2 hin19 hat19 (g:=(mkF m 19 #[vr o0,vi i1,vi i2,vr o3,vi i4] [.int i1,.ref o0,.int i4,.ref o3])) rfl rfl (D 7 rfl) _ ?_)))
 refine st5 _ (iI X5.here hx rfl (D 9 rfl) rfl (l':=#[vr o0,vi (i1 + 1),vi i2,vr o3,vi i4]) rfl (iI X5.here hx rfl (D 10 rfl) rfl (l':=#[vr o0,vi (i1 + 1),vi i2,vr o3,vi (i4 + 1)]) rfl (gT X5.here hx rfl (pc0 := 29) (pc':=8) rfl (D 11 rfl) (by decide) (by decide) ?_)))
 exact kt
theorem tx {h0:Heap} (s0:Slot) (s1:Slot) (i2:Int32) (s3:Slot) (i4:Int32)
   (X0:Stand p l e own_R54 s m args below meth c T0 locs cells slots) (hx:p.tables.exec = Jvm.exec) (hZ:Z.Warmed39 s.vm) (hw:zH Z a0) (hby:c.code = jdk_52_method_14_code) (hml:c.maxLocals = 5) (hown:s.vm.findClass "java/lang/StringUTF16" = some m.cls) (e0:T0.heap = h0) (hc11:¬ (i4 < i2)) :
   ∃ (T':State),Stand p l e own_R54 s m args below meth c T' locs cells slots ∧ T'.heap = h0 ∧
     ∀ target,Steps p.tables e below (T'.setTop (mkF m 32 #[s0,s1,vi i2,s3,vi i4] [])) target → Steps p.tables e below (T0.setTop (mkF m 8 #[s0,s1,vi i2,s3,vi i4] [])) target := by
 refine ⟨T0,X0,e0,fun target kt => ?_⟩
 refine iL X0.here hx rfl (D54 hby 0 rfl) rfl (iN X0.here hx rfl (D54 hby 1 rfl) rfl (cY X0.here hx rfl (pc0 := 11) (pc':=32) rfl (D54 hby 2 rfl) rfl (flt hc11).2.1 (by decide) (by decide) ?_))
 exact kt
theorem own_tloop (hx:p.tables.exec = Jvm.exec) (hZ:Z.Warmed39 s.vm) (hw:zH Z a0) (hby:c.code = jdk_52_method_14_code) (hml:c.maxLocals = 5) (hown:s.vm.findClass "java/lang/StringUTF16" = some m.cls) (o0 o3:Addr) (cs:List Int32) (n:Nat) (kc kb:ClassId) (n0:Nat) (hcs:cs.length = n) (hn:n ≤ 200) (hne:o0 ≠ o3) (g3:n0 ≤ o3) (SA0:Sta Z Z.heap "java/lang/StringUTF16" "$assertionsDisabled" "Z" (.int 1)) (SH0:Sta Z Z.heap "java/lang/StringUTF16" "HI_BYTE_SHIFT" "I" (.int 0)) (SL0:Sta Z Z.heap "java/lang/StringUTF16" "LO_BYTE_SHIFT" "I" (.int 8)) (hcl:cells ≤ own_R54.cells) (hsl:slots ≤ own_R54.slots) :
   ∀ (r i:Nat) (vs:List Value) (T0:State) (locs:List Loc),i + r = n → Stand p l e own_R54 s m args below meth c T0 locs cells slots → Fr n0 locs → n0 ≤ T0.heap.size → Old Z n0 T0.heap → Arv Z T0.heap o0 kc .char (I n) (cs.map Value.int) (.int 0) → Arv Z T0.heap o3 kb .byte (I (2 * n)) vs (.int 0) → vs.length = 2 * n → vs.take (2 * i) = StrChars.Road.wideBytes (cs.take i) →
     ∃ (T':State) (locs':List Loc),Stand p l e own_R54 s m args below meth c T' locs' cells slots ∧ Fr n0 locs' ∧ Keep T0.heap T'.heap [o3] ∧ Arv Z T'.heap o3 kb .byte (I (2 * n)) (StrChars.Road.wideBytes cs) (.int 0) ∧ ∀ target,Steps p.tables e below (T'.setTop (mkF m 32 #[vr o0,vi (I n),vi (I n),vr o3,vi (I n)] [])) target → Steps p.tables e below (T0.setTop (mkF m 8 #[vr o0,vi (I i),vi (I n),vr o3,vi (I i)] [])) target := by
 intro r
 induction r with
 | zero =>
   intro i vs T0 locs hik X0 N0 Z0 O C V hvs hv
   obtain rfl : i = n := by omega
   obtain ⟨T1,X1,e1,st1⟩ := tx (vr o0) (vi (I i)) (I i) (vr o3) (I i) X0 hx hZ hw hby hml hown rfl Int32.lt_irrefl
   rw [← hvs,List.take_length,List.take_of_length_le (by omega)] at hv
   exact ⟨T1,locs,X1,N0,by rw [e1]; exact Keep.refl _ _,by rw [e1,← hv]; exact V,st1⟩
 | succ r ih =>
   intro i vs T0 locs hik X0 N0 Z0 O C V hvs hv
   obtain ⟨T1,L1,X1,N1,K1,V1,st1⟩ := tb o0 (I i) (I n) o3 (I i) cs n i kc kb vs n0 X0 hx hZ hw hby hml hown rfl hcs (by omega) hn rfl rfl C V hvs g3 (SA0.ext O.2) (SH0.ext O.2) (SL0.ext O.2) Z0 N0 hcl hsl ((own_lt i n (by omega) (by omega)).mpr (by omega))
   rw [own_succ] at st1
   have hp := own_put_take vs (cs.take i) i (cs.getD i 0) hv (by omega)
   rw [show cs.take i ++ [cs.getD i 0] = cs.take (i + 1) by rw [List.take_succ_eq_append_getElem (show i < cs.length by omega),List.getD_eq_getElem?_getD,List.getElem?_eq_getElem (show i < cs.length by omega)]; rfl] at hp
   obtain ⟨T2,L2,X2,N2,K2,V2,st2⟩ := ih (i + 1) _ T1 L1 (by omega) X1 N1 (Nat.le_trans Z0 K1.1) (O.keep K1 (allS g3 all0)) (C.keep K1 (ninS hne nin0)) V1 (by rw [own_put_len]; exact hvs) hp
   exact ⟨T2,L2,X2,N2,K1.trans K2 (fun x hx => Or.inl hx),V2,fun t q => st1 _ (st2 _ q)⟩
theorem pd_54_44 : parseMethodDescriptor "(I)[B" = some ⟨[.int],some (.array .byte)⟩ := by decide +kernel
theorem ef_54 (m:MethodId) (x0:Addr) (x1:Int32) (x2:Int32) : entryFrame m #[.ref x0,.int x1,.int x2] 5 = mkF m 0 #[.val (.ref x0),.val (.int x1),.val (.int x2),.unset,.unset] [] := by first | (simp [entryFrame,mkF,argsToLocals,Value.category]; done) | rfl
def Q54 (Z:State) (n:Nat) (cs:List Int32) (h0:Heap) (n0:Nat) (v:Option Value) (h:Heap) (L:List Loc) : Prop := v = some (.ref h0.size) ∧ Fr n0 L ∧ Keep h0 h [] ∧ ∃ k,Arv Z h h0.size k .byte (I (2 * n)) (StrChars.Road.wideBytes cs) (.int 0)
theorem r54 (l:Launch) (Z:State) (a0:Array Value) (hw:zH Z a0) (ws:List Jvm.Cond) (a1:Addr) (cs:List Int32) (n:Nat) (kc:ClassId) (h0:Heap) (n0:Nat) (Z0:n0 ≤ h0.size) (hcs:cs.length = n) (hn:n ≤ 200) (C:Arv Z h0 a1 kc .char (I n) (cs.map Value.int) (.int 0)) (O:Old Z n0 h0) (SA0:Sta Z Z.heap "java/lang/StringUTF16" "$assertionsDisabled" "Z" (.int 1)) (SH0:Sta Z Z.heap "java/lang/StringUTF16" "HI_BYTE_SHIFT" "I" (.int 0)) (SL0:Sta Z Z.heap "java/lang/StringUTF16" "LO_BYTE_SHIFT" "I" (.int 8)) :
   zM l Z h0 ws y_59 jdk_52_method_14_code 5 (some (.array .byte)) own_R54 #[.ref a1,.int 0,(.int (I n))] (Q54 Z n cs h0 n0) := by
 refine zE pn_61 rfl fun p e s m below meth c s₁ Bd hx hby hml hown hZ X0 e0 => ?_
 have D := D54 hby
 have N0 := Fr.nil n0
 obtain ⟨_,T4,Lc4,X4,hQ4,st4⟩ := zS X0 hx hZ hown (zW hw 274 rfl) (zW hw 275 rfl) (zW hw 50 rfl) (zW hw 276 rfl) (by decide) (r55 l Z a0 hw [] n h0 n0 Z0 hn) (by decide) (by decide) (W:=0) (g:=(mkF m 1 #[vr a1,vi 0,vi (I n),.unset,.unset] [(.int (I n))])) rfl (by rw [hml]; rfl) (argsL:=[(.int (I n))]) (rest:=[]) (lenOf pd_54_44 rfl) rfl (Nat.le_of_eq rfl) (D 13 rfl) rfl e0 (by decide:0 + 1 ≤ _) (by decide:0 + 400 ≤ _)
 obtain ⟨rfl,N4q,K4,kb,V4⟩ := hQ4
 have N4 := Fr.app N0 N4q
 have O4 := O.keep K4 all0
 have C4 := C.keep K4 nin0
 have Z4 := Nat.le_trans Z0 K4.1
 have ne : a1 ≠ h0.size := Nat.ne_of_lt C.lt
 obtain ⟨T5,L5,X5,N5,K5,V5,st5⟩ := own_tloop hx hZ hw hby hml hown a1 h0.size cs n kc kb n0 hcs hn ne Z0 SA0 SH0 SL0 (by decide) (by decide) n 0 _ T4 _ (by omega) X4 N4 Z4 O4 C4 V4 (by simp) (by simp; rfl)
 have KK : Keep h0 T5.heap [] := K4.trans K5 (fun x hx => Or.inr (Nat.le_of_eq (List.mem_singleton.mp hx).symm))
 refine zL Bd X5 (ef_54 m a1 (0:Int32) (I n)) (some (.ref h0.size)) nofun (by decide) (by decide) (fun fs hr => ?_) ?_
 · refine iN X0.here hx rfl (D 12 rfl) rfl (st4 _ (XS.astoreN X4.here hx rfl (D 14 rfl) rfl rfl (l':=#[vr a1,vi 0,vi (I n),vr h0.size,.unset]) rfl (iC X4.here hx rfl (D 15 rfl) ?_)))
   refine iS X4.here hx rfl (D 16 rfl) rfl (l':=#[vr a1,vi 0,vi (I n),vr h0.size,vi 0]) rfl (st5 _ (aN X5.here hx rfl (D 17 rfl) rfl rfl ?_))
   jvm_step X5.here [X5.here.top,hx,(D 18 rfl),X5.method',Bd.returns,Value.isRef,FieldType.isReference]
   first | (intro acts; rw [hr _ acts rfl rfl rfl]) | rw [hr _ _ rfl rfl rfl]
   exact Steps.refl _
 · show Q54 Z n cs h0 n0 _ T5.heap _
   exact ⟨rfl,N5,KK,kb,V5⟩
abbrev own_R10 : Room := (zr 0 0 0 0)
def l10 : zl := [(3,.iload 5,2),(5,.iload 4,2),(7,.if_icmp .ge 37,3),(10,.aload_n 0,1),(11,.iload_n 1,1),(12,.caload,1),(13,.istore 6,2),(15,.iload 6,2),(17,.sipush 255,3),(20,.if_icmp .le 6,3),(26,.aload_n 2,1),(27,.iload_n 3,1),(28,.iload 6,2),(30,.i2b,1),(31,.bastore,1),(32,.iinc 1 1,3),(35,.iinc 3 1,3),(38,.iinc 5 1,3),(41,.goto (-38),3),(0,.iconst 0,1),(1,.istore 5,2),(23,.iload 5,2),(25,.ireturn,1)]
theorem D10 : zq jdk_52_method_21_code l10 := zd (by decide +kernel)
theorem os10_13_ct {z0:Value} {z1:Value} {z2:Value} {z3:Value} {z4:Value} {z5:Value} {s6:Slot} {v:Int32} (h:One s6) : storeLocals #[.val z0,.val z1,.val z2,.val z3,.val z4,.val z5,s6] 6 (.int v) = some #[.val z0,.val z1,.val z2,.val z3,.val z4,.val z5,vi v] := by
 rcases h with rfl | ⟨w,rfl,hw⟩
 · rfl
 · cases w <;> first | rfl | (simp [Value.category] at hw)
theorem ct {h0:Heap} (o0:Addr) (i1:Int32) (o2:Addr) (i3:Int32) (i4:Int32) (i5:Int32) (s6:Slot) (cs:List Int32) (n i:Nat) (kc kb:ClassId) (vs:List Value) (n0:Nat)
   (X0:Stand p l e own_R10 s m args below meth c T0 locs cells slots) (hx:p.tables.exec = Jvm.exec) (hZ:Z.Warmed39 s.vm) (hw:zH Z a0) (hby:c.code = jdk_52_method_21_code) (hml:c.maxLocals = 7) (hown:s.vm.findClass "java/lang/StringUTF16" = some m.cls) (e0:T0.heap = h0) (hcs:cs.length = n) (hi:i < n) (hn:n ≤ 200) (h1:i1 = I i) (C:Arv Z h0 o0 kc .char (I n) (cs.map Value.int) (.int 0)) (h3:i3 = I i) (V:Arv Z h0 o2 kb .byte (I n) vs (.int 0)) (hvs:vs.length = n) (Z0:n0 ≤ h0.size) (N0:Fr n0 locs) (hcl:cells ≤ own_R10.cells) (hsl:slots ≤ own_R10.slots) (hs6:One s6) (g_o2:n0 ≤ o2) (hc7:i5 < i4) (hc20:¬ ((255:Int32) < (cs.getD i 0))) :
   ∃ (T':State) (locs':List Loc) (vs':List Value),Stand p l e own_R10 s m args below meth c T' locs' cells slots ∧ Fr n0 locs' ∧ Keep h0 T'.heap [o2] ∧ Arv Z T'.heap o2 kb .byte (I n) vs' (.int 0) ∧ vs'.length = n ∧
     ∀ target,Steps p.tables e below (T'.setTop (mkF m 3 #[vr o0,vi (i1 + 1),vr o2,vi (i3 + 1),vi i4,vi (i5 + 1),vi (cs.getD i 0)] [])) target → Steps p.tables e below (T0.setTop (mkF m 3 #[vr o0,vi i1,vr o2,vi i3,vi i4,vi i5,s6] [])) target := by
 have D := D10 hby
 obtain ⟨cl_o0,Ar_o0,qc,Sc,Mc,Hc,Gc⟩ := C
 rw [own_cl n (by omega)] at Sc
 have x1 : (i1).toNatClampNeg = i := by rw [h1]; exact own_cl i (by omega)
 have hin12 : ¬ (i1 < 0 ∨ cl_o0.slots.size ≤ (i1).toNatClampNeg) := fun q => q.elim (by rw [h1]; exact own_nn i (by omega)) (by rw [x1,Sc]; omega)
 have hat12 : cl_o0.slots[(i1).toNatClampNeg]? = some (.int (cs.getD i 0)) := by
   rw [x1,Hc i (by rw [Sc]; exact hi)]
   simp [List.getD_eq_getElem?_getD,List.getElem?_eq_getElem (show i < cs.length by omega)]
 obtain ⟨cl_o2,Ar_o2,q2,S2,M2,H2,G2⟩ := V
 have S2b := S2
 rw [own_cl n (by omega)] at S2b
 have x3 : (i3).toNatClampNeg = i := by rw [h3]; exact own_cl i (by omega)
 have hin31 : ¬ (i3 < 0 ∨ cl_o2.slots.size ≤ (i3).toNatClampNeg) := fun q => q.elim (by rw [h3]; exact own_nn i (by omega)) (by rw [x3,S2b]; omega)
 obtain ⟨T7,h7,X7,e7,W7,st7⟩ := stB X0 hx hZ e0 Ar_o2 (j:=i3) hin31 (g:=(mkF m 31 #[vr o0,vi i1,vr o2,vi i3,vi i4,vi i5,vi (cs.getD i 0)] [(.int ((cs.getD i 0).toInt8.toInt32)),.int i3,.ref o2])) rfl rfl (D 14 rfl)
 have N7 := Fr.snoc X7 N0 g_o2
 have K7 : Keep h0 h7 [o2] := (Keep.refl h0 [o2]).wr W7 (Or.inl (List.mem_of_getElem? (i:=0) rfl))
 refine ⟨T7,_,_,X7,N7,by rw [e7]; exact K7,by rw [e7]; exact Arv.set Ar_o2 q2 S2 M2 H2 G2 (fits_nar_byte _) W7 i x3 (by omega),by rw [List.length_set]; exact hvs,fun target kt => ?_⟩
 refine iL X0.here hx rfl (D 0 rfl) rfl (iL X0.here hx rfl (D 1 rfl) rfl (cN X0.here hx rfl (D 2 rfl) rfl (tlt hc7).2.1 (aN X0.here hx rfl (D 3 rfl) rfl rfl ?_)))
 refine iN X0.here hx rfl (D 4 rfl) rfl (X0.caload hx (j:=i1) (v:=(.int (cs.getD i 0))) (by rw [e0]; exact Ar_o0.1) (State.isArrayOf_alike hZ.alike Ar_o0.2.1) Ar_o0.2.2 hin12 hat12 (g:=(mkF m 12 #[vr o0,vi i1,vr o2,vi i3,vi i4,vi i5,s6] [.int i1,.ref o0])) rfl rfl (D 5 rfl) _ (iS X0.here hx rfl (D 6 rfl) rfl (l':=#[vr o0,vi i1,vr o2,vi i3,vi i4,vi i5,vi (cs.getD i 0)]) (os10_13_ct hs6) (iL X0.here hx rfl (D 7 rfl) rfl ?_)))
 refine XS.sipush X0.here hx rfl (D 8 rfl) (cY X0.here hx rfl (pc0 := 20) (pc':=26) rfl (D 9 rfl) rfl (flt hc20).2.2.2 (by decide) (by decide) (aN X0.here hx rfl (D 10 rfl) rfl rfl (iN X0.here hx rfl (D 11 rfl) rfl ?_)))
 refine iL X0.here hx rfl (D 12 rfl) rfl (XS.i2b X0.here hx rfl (D 13 rfl) rfl (st7 _ (iI X7.here hx rfl (D 15 rfl) rfl (l':=#[vr o0,vi (i1 + 1),vr o2,vi i3,vi i4,vi i5,vi (cs.getD i 0)]) rfl ?_)))
 refine iI X7.here hx rfl (D 16 rfl) rfl (l':=#[vr o0,vi (i1 + 1),vr o2,vi (i3 + 1),vi i4,vi i5,vi (cs.getD i 0)]) rfl (iI X7.here hx rfl (D 17 rfl) rfl (l':=#[vr o0,vi (i1 + 1),vr o2,vi (i3 + 1),vi i4,vi (i5 + 1),vi (cs.getD i 0)]) rfl (gT X7.here hx rfl (pc0 := 41) (pc':=3) rfl (D 18 rfl) (by decide) (by decide) ?_))
 exact kt
theorem os10_13_cx {z0:Value} {z1:Value} {s2:Slot} {s3:Slot} {z4:Value} {z5:Value} {s6:Slot} {v:Int32} (h:One s6) : storeLocals #[.val z0,.val z1,s2,s3,.val z4,.val z5,s6] 6 (.int v) = some #[.val z0,.val z1,s2,s3,.val z4,.val z5,vi v] := by
 rcases h with rfl | ⟨w,rfl,hw⟩
 · rfl
 · cases w <;> first | rfl | (simp [Value.category] at hw)
theorem cx {h0:Heap} (o0:Addr) (i1:Int32) (s2:Slot) (s3:Slot) (i4:Int32) (i5:Int32) (s6:Slot) (cs:List Int32) (n i:Nat) (kc:ClassId)
   (X0:Stand p l e own_R10 s m args below meth c T0 locs cells slots) (hx:p.tables.exec = Jvm.exec) (hZ:Z.Warmed39 s.vm) (hw:zH Z a0) (hby:c.code = jdk_52_method_21_code) (hml:c.maxLocals = 7) (hown:s.vm.findClass "java/lang/StringUTF16" = some m.cls) (e0:T0.heap = h0) (hcs:cs.length = n) (hi:i < n) (hn:n ≤ 200) (h1:i1 = I i) (C:Arv Z h0 o0 kc .char (I n) (cs.map Value.int) (.int 0)) (hs6:One s6) (hc7:i5 < i4) (hc20:(255:Int32) < (cs.getD i 0)) :
   ∃ (T':State),Stand p l e own_R10 s m args below meth c T' locs cells slots ∧ T'.heap = h0 ∧
     ∀ target,Steps p.tables e below (T'.setTop (mkF m 23 #[vr o0,vi i1,s2,s3,vi i4,vi i5,vi (cs.getD i 0)] [])) target → Steps p.tables e below (T0.setTop (mkF m 3 #[vr o0,vi i1,s2,s3,vi i4,vi i5,s6] [])) target := by
 have D := D10 hby
 obtain ⟨cl_o0,Ar_o0,qc,Sc,Mc,Hc,Gc⟩ := C
 rw [own_cl n (by omega)] at Sc
 have x1 : (i1).toNatClampNeg = i := by rw [h1]; exact own_cl i (by omega)
 have hin12 : ¬ (i1 < 0 ∨ cl_o0.slots.size ≤ (i1).toNatClampNeg) := fun q => q.elim (by rw [h1]; exact own_nn i (by omega)) (by rw [x1,Sc]; omega)
 have hat12 : cl_o0.slots[(i1).toNatClampNeg]? = some (.int (cs.getD i 0)) := by
   rw [x1,Hc i (by rw [Sc]; exact hi)]
   simp [List.getD_eq_getElem?_getD,List.getElem?_eq_getElem (show i < cs.length by omega)]
 refine ⟨T0,X0,e0,fun target kt => ?_⟩
 refine iL X0.here hx rfl (D 0 rfl) rfl (iL X0.here hx rfl (D 1 rfl) rfl (cN X0.here hx rfl (D 2 rfl) rfl (tlt hc7).2.1 (aN X0.here hx rfl (D 3 rfl) rfl rfl ?_)))
 refine iN X0.here hx rfl (D 4 rfl) rfl (X0.caload hx (j:=i1) (v:=(.int (cs.getD i 0))) (by rw [e0]; exact Ar_o0.1) (State.isArrayOf_alike hZ.alike Ar_o0.2.1) Ar_o0.2.2 hin12 hat12 (g:=(mkF m 12 #[vr o0,vi i1,s2,s3,vi i4,vi i5,s6] [.int i1,.ref o0])) rfl rfl (D 5 rfl) _ (iS X0.here hx rfl (D 6 rfl) rfl (l':=#[vr o0,vi i1,s2,s3,vi i4,vi i5,vi (cs.getD i 0)]) (os10_13_cx hs6) (iL X0.here hx rfl (D 7 rfl) rfl ?_)))
 refine XS.sipush X0.here hx rfl (D 8 rfl) (cN X0.here hx rfl (D 9 rfl) rfl (tlt hc20).2.2.2 ?_)
 exact kt
theorem own_cloop (hx:p.tables.exec = Jvm.exec) (hZ:Z.Warmed39 s.vm) (hw:zH Z a0) (hby:c.code = jdk_52_method_21_code) (hml:c.maxLocals = 7) (hown:s.vm.findClass "java/lang/StringUTF16" = some m.cls) (o0 o2:Addr) (cs:List Int32) (n k:Nat) (kc kb:ClassId) (n0:Nat) (hcs:cs.length = n) (hk:k < n) (hn:n ≤ 200) (hlo:∀ j,j < k → ¬ (255:Int32) < cs.getD j 0) (hhi:(255:Int32) < cs.getD k 0) (hne:o0 ≠ o2) (g2:n0 ≤ o2) (hcl:cells ≤ own_R10.cells) (hsl:slots ≤ own_R10.slots) :
   ∀ (r i:Nat) (s6:Slot) (vs:List Value) (T0:State) (locs:List Loc),i + r = k → One s6 → Stand p l e own_R10 s m args below meth c T0 locs cells slots → Fr n0 locs → n0 ≤ T0.heap.size → Arv Z T0.heap o0 kc .char (I n) (cs.map Value.int) (.int 0) → Arv Z T0.heap o2 kb .byte (I n) vs (.int 0) → vs.length = n →
     ∃ (T':State) (locs':List Loc) (s6':Slot),Stand p l e own_R10 s m args below meth c T' locs' cells slots ∧ Fr n0 locs' ∧ Keep T0.heap T'.heap [o2] ∧ ∀ target,Steps p.tables e below (T'.setTop (mkF m 23 #[vr o0,vi (I k),vr o2,vi (I k),vi (I n),vi (I k),s6'] [])) target → Steps p.tables e below (T0.setTop (mkF m 3 #[vr o0,vi (I i),vr o2,vi (I i),vi (I n),vi (I i),s6] [])) target := by
 intro r
 induction r with
 | zero =>
   intro i s6 vs T0 locs hik h6 X0 N0 Z0 C V hvs
   obtain rfl : i = k := by omega
   obtain ⟨T1,X1,e1,st1⟩ := cx o0 (I i) (vr o2) (vi (I i)) (I n) (I i) s6 cs n i kc X0 hx hZ hw hby hml hown rfl hcs hk hn rfl C h6 ((own_lt i n (by omega) (by omega)).mpr hk) hhi
   exact ⟨T1,locs,_,X1,N0,by rw [e1]; exact Keep.refl _ _,st1⟩
 | succ r ih =>
   intro i s6 vs T0 locs hik h6 X0 N0 Z0 C V hvs
   obtain ⟨T1,L1,vs1,X1,N1,K1,V1,hv1,st1⟩ := ct o0 (I i) o2 (I i) (I n) (I i) s6 cs n i kc kb vs n0 X0 hx hZ hw hby hml hown rfl hcs (by omega) hn rfl C rfl V hvs Z0 N0 hcl hsl h6 g2 ((own_lt i n (by omega) (by omega)).mpr (by omega)) (hlo i (by omega))
   rw [own_succ] at st1
   obtain ⟨T2,L2,s2,X2,N2,K2,st2⟩ := ih (i + 1) (vi (cs.getD i 0)) vs1 T1 L1 (by omega) (One.val rfl) X1 N1 (Nat.le_trans Z0 K1.1) (C.keep K1 (ninS hne nin0)) V1 hv1
   exact ⟨T2,L2,s2,X2,N2,K1.trans K2 (fun x hx => Or.inl hx),fun t q => st1 _ (st2 _ q)⟩
theorem ef_10 (m:MethodId) (x0:Addr) (x1:Int32) (x2:Addr) (x3:Int32) (x4:Int32) : entryFrame m #[.ref x0,.int x1,.ref x2,.int x3,.int x4] 7 = mkF m 0 #[.val (.ref x0),.val (.int x1),.val (.ref x2),.val (.int x3),.val (.int x4),.unset,.unset] [] := by first | (simp [entryFrame,mkF,argsToLocals,Value.category]; done) | rfl
def Q10 (a3:Addr) (k:Nat) (h0:Heap) (n0:Nat) (v:Option Value) (h:Heap) (L:List Loc) : Prop := v = some (.int (I k)) ∧ Fr n0 L ∧ Keep h0 h [a3]
theorem r10 (l:Launch) (Z:State) (a0:Array Value) (hw:zH Z a0) (ws:List Jvm.Cond) (a1 a3:Addr) (cs:List Int32) (n k:Nat) (kc kb:ClassId) (vs:List Value) (h0:Heap) (n0:Nat) (Z0:n0 ≤ h0.size) (hcs:cs.length = n) (hk:k < n) (hn:n ≤ 200) (hlo:∀ j,j < k → ¬ (255:Int32) < cs.getD j 0) (hhi:(255:Int32) < cs.getD k 0) (hne:a1 ≠ a3) (g2:n0 ≤ a3) (C:Arv Z h0 a1 kc .char (I n) (cs.map Value.int) (.int 0)) (V:Arv Z h0 a3 kb .byte (I n) vs (.int 0)) (hvs:vs.length = n) :
   zM l Z h0 ws y_60 jdk_52_method_21_code 7 (some .int) own_R10 #[.ref a1,.int 0,.ref a3,.int 0,(.int (I n))] (Q10 a3 k h0 n0) := by
 refine zE pn_61 rfl fun p e s m below meth c s₁ Bd hx hby hml hown hZ X0 e0 => ?_
 have D := D10 hby
 have N0 := Fr.nil n0
 obtain ⟨T1,L1,s6,X1,N1,K1,st1⟩ := own_cloop hx hZ hw hby hml hown a1 a3 cs n k kc kb n0 hcs hk hn hlo hhi hne g2 (Nat.le_refl _) (Nat.le_refl _) k 0 .unset vs s₁ [] (by omega) One.u X0 N0 (by rw [e0]; exact Z0) (by rw [e0]; exact C) (by rw [e0]; exact V) hvs
 rw [e0] at K1
 refine zL Bd X1 (ef_10 m a1 (0:Int32) a3 (0:Int32) (I n)) (some (.int (I k))) nofun (by decide) (by decide) (fun fs hr => ?_) ?_
 · refine iC X0.here hx rfl (D 19 rfl) (iS X0.here hx rfl (D 20 rfl) rfl (l':=#[vr a1,vi 0,vr a3,vi 0,vi (I n),vi 0,.unset]) rfl (st1 _ (iL X1.here hx rfl (D 21 rfl) rfl ?_)))
   exact retI X1 hx Bd.returns (D 22 rfl) hr
 · exact ⟨rfl,N1,K1⟩
def l9 : zl := [(0,.iload_n 2,1),(1,.newarray .byte,2),(3,.astore_n 3,1),(4,.aload_n 0,1),(5,.iload_n 1,1),(6,.aload_n 3,1),(7,.iconst 0,1),(8,.iload_n 2,1),(9,.invokestatic 115,3),(12,.istore 4,2),(14,.iload 4,2),(16,.iload_n 2,1),(17,.if_icmp .eq 40,3),(20,.aload_n 0,1),(21,.iload_n 1,1),(22,.iload_n 2,1),(23,.invokestatic 119,3),(26,.astore 5,2),(28,.aload 5,2),(30,.iload 4,2),(32,.invokestatic 71,3),(35,.sipush 255,3),(38,.if_icmp .gt 16,3),(54,.aload 5,2),(56,.areturn,1)]
theorem D9 : zq jdk_52_method_16_code l9 := zd (by decide +kernel)
theorem pd_9_9 : parseMethodDescriptor "([CI[BII)I" = some ⟨[(.array .char),.int,(.array .byte),.int,.int],some .int⟩ := by decide +kernel
theorem pd_9_8 : parseMethodDescriptor "([CII)[B" = some ⟨[(.array .char),.int,.int],some (.array .byte)⟩ := by decide +kernel
theorem ef_9 (m:MethodId) (x0:Addr) (x1:Int32) (x2:Int32) : entryFrame m #[.ref x0,.int x1,.int x2] 6 = mkF m 0 #[.val (.ref x0),.val (.int x1),.val (.int x2),.unset,.unset,.unset] [] := by first | (simp [entryFrame,mkF,argsToLocals,Value.category]; done) | rfl
def Q9 (Z:State) (n:Nat) (cs:List Int32) (h0:Heap) (n0:Nat) (v:Option Value) (h:Heap) (L:List Loc) : Prop := ∃ b,v = some (.ref b) ∧ Fr n0 L ∧ Keep h0 h [] ∧ h0.size ≤ b ∧ ∃ k,Arv Z h b k .byte (I (2 * n)) (StrChars.Road.wideBytes cs) (.int 0)
abbrev own_R9 : Room := (zr 3 2 600 60)
theorem r9 (l:Launch) (Z:State) (a0:Array Value) (hw:zH Z a0) (ws:List Jvm.Cond) (a1:Addr) (cs:List Int32) (n k:Nat) (kc:ClassId) (h0:Heap) (n0:Nat) (Z0:n0 ≤ h0.size) (hcs:cs.length = n) (hk:k < n) (hn:n ≤ 200) (hlo:∀ j,j < k → ¬ (255:Int32) < cs.getD j 0) (hhi:(255:Int32) < cs.getD k 0) (hbb:own_C cs) (C:Arv Z h0 a1 kc .char (I n) (cs.map Value.int) (.int 0)) (O:Old Z n0 h0) (SA0:Sta Z Z.heap "java/lang/StringUTF16" "$assertionsDisabled" "Z" (.int 1)) (SH0:Sta Z Z.heap "java/lang/StringUTF16" "HI_BYTE_SHIFT" "I" (.int 0)) (SL0:Sta Z Z.heap "java/lang/StringUTF16" "LO_BYTE_SHIFT" "I" (.int 8)) :
   zM l Z h0 ws y_61 jdk_52_method_16_code 6 (some (.array .byte)) own_R9 #[.ref a1,.int 0,(.int (I n))] (Q9 Z n cs h0 n0) := by
 refine zE pn_61 rfl fun p e s m below meth c s₁ Bd hx hby hml hown hZ X0 e0 => ?_
 have D := D9 Bd.bytes
 have N0 := Fr.nil n0
 obtain ⟨T4,h4,k4,X4,e4,E4,A4,st4⟩ := newP X0 hx hZ (zW hw 19 rfl) e0 (g:=(mkF m 1 #[vr a1,vi 0,vi (I n),.unset,.unset,.unset] [(.int (I n))])) rfl (D 1 rfl) rfl (own_nn n (by omega)) (cap:=200) (by rw [own_cl n (by omega)]; omega) (by decide) (by decide) (by decide)
 obtain ⟨b4,g4⟩ : ∃ z,z = h0.size := ⟨_,rfl⟩
 rw [← g4] at A4 st4
 have V_b4 : Arv Z h4 b4 k4 .byte (I n) ([] ++ (List.replicate (n) (Value.int 0))) (.int 0) := (Arv.new A4 (own_nn n (by omega))).pad (pad_rep [] (.int 0) n)
 have ne4 : a1 ≠ b4 := fun q => Nat.lt_irrefl _ (Nat.lt_of_lt_of_eq (q ▸ C.lt) g4.symm)
 have C4 := C.ext E4
 have g_b4 : n0 ≤ b4 := Nat.le_trans Z0 (Nat.le_of_eq g4.symm)
 have sz_b4 : h0.size ≤ b4 := (Nat.le_trans (Keep.refl h0 []).1 (Nat.le_of_eq g4.symm))
 have K4 : Keep h0 h4 [] := (Keep.refl h0 []).ext E4
 obtain ⟨_,T5,Lc5,X5,hQ5,st5⟩ := zS X4 hx hZ hown (zW hw 52 rfl) (zW hw 53 rfl) (zW hw 50 rfl) (zW hw 54 rfl) (by decide) (r10 l Z a0 hw [] a1 b4 cs n k kc k4 _ h4 n0 (Nat.le_trans Z0 E4.1) hcs hk hn hlo hhi ne4 g_b4 C4 V_b4 (by simp)) (by decide) (by decide) (W:=0) (g:=(mkF m 9 #[vr a1,vi 0,vi (I n),vr b4,.unset,.unset] [(.int (I n)),.int 0,.ref b4,.int 0,.ref a1])) rfl (by rw [hml]; rfl) (argsL:=[.ref a1,.int 0,.ref b4,.int 0,(.int (I n))]) (rest:=[]) (lenOf pd_9_9 rfl) rfl (Nat.le_of_eq rfl) (D 8 rfl) rfl e4 (by decide:1 + 0 ≤ _) (by decide:200 + 0 ≤ _)
 obtain ⟨rfl,N5q,K5⟩ := hQ5
 have KA : Keep h0 T5.heap [] := K4.trans K5 (allS (Or.inr sz_b4) all0)
 have C5_ := C.keep KA nin0
 have O5 := O.keep KA all0
 have Z5 := Nat.le_trans Z0 KA.1
 have N5 := Fr.app N0 N5q
 obtain ⟨_,T6,Lc6,X6,hQ6,st6⟩ := zS X5 hx hZ hown (zW hw 271 rfl) (zW hw 272 rfl) (zW hw 50 rfl) (zW hw 273 rfl) (by decide) (r54 l Z a0 hw [] a1 cs n kc T5.heap n0 Z5 hcs hn C5_ O5 SA0 SH0 SL0) (by decide) (by decide) (W:=0) (g:=(mkF m 23 #[vr a1,vi 0,vi (I n),vr b4,vi (I k),.unset] [(.int (I n)),.int 0,.ref a1])) rfl (by rw [hml]; rfl) (argsL:=[.ref a1,.int 0,(.int (I n))]) (rest:=[]) (lenOf pd_9_8 rfl) rfl (Nat.le_of_eq rfl) (D 16 rfl) rfl rfl (by decide:1 + 1 ≤ _) (by decide:200 + 400 ≤ _)
 obtain ⟨rfl,N6q,K6,kb,V6⟩ := hQ6
 have O6 := O5.keep K6 all0
 have Z6 := Nat.le_trans Z5 K6.1
 have N6 := Fr.app N5 N6q
 obtain ⟨_,T7,Lc7,X7,hQ7,st7⟩ := zS X6 hx hZ hown (zW hw 287 rfl) (zW hw 288 rfl) (zW hw 50 rfl) (zW hw 289 rfl) (by decide) (r58w l Z a0 hw [] T5.heap.size (I k) cs k kb T6.heap n0 Z6 rfl (by omega) (by omega) (by rw [hcs]; exact V6) hbb (SA0.ext O6.2) (SH0.ext O6.2) (SL0.ext O6.2)) (by decide) (by decide) (W:=0) (g:=(mkF m 32 #[vr a1,vi 0,vi (I n),vr b4,vi (I k),vr T5.heap.size] [(.int (I k)),.ref T5.heap.size])) rfl (by rw [hml]; rfl) (argsL:=[.ref T5.heap.size,(.int (I k))]) (rest:=[]) (lenOf pd_59_15 rfl) rfl (Nat.le_of_eq rfl) (D 20 rfl) rfl rfl (by decide:2 + 0 ≤ _) (by decide:600 + 0 ≤ _)
 obtain ⟨rfl,N7q,e7⟩ := hQ7
 have N7 := Fr.app N6 N7q
 refine zL Bd X7 (ef_9 m a1 (0:Int32) (I n)) (some (.ref T5.heap.size)) nofun (by decide) (by decide) (fun fs hr => ?_) ?_
 · refine iN X0.here hx rfl (D 0 rfl) rfl (st4 _ (XS.astoreN X4.here hx rfl (D 2 rfl) rfl rfl (l':=#[vr a1,vi 0,vi (I n),vr b4,.unset,.unset]) rfl (aN X4.here hx rfl (D 3 rfl) rfl rfl ?_)))
   refine iN X4.here hx rfl (D 4 rfl) rfl (aN X4.here hx rfl (D 5 rfl) rfl rfl (iC X4.here hx rfl (D 6 rfl) (iN X4.here hx rfl (D 7 rfl) rfl ?_)))
   refine st5 _ (iS X5.here hx rfl (D 9 rfl) rfl (l':=#[vr a1,vi 0,vi (I n),vr b4,vi (I k),.unset]) rfl (iL X5.here hx rfl (D 10 rfl) rfl (iN X5.here hx rfl (D 11 rfl) rfl ?_)))
   refine cN X5.here hx rfl (D 12 rfl) rfl (feq (fun q => by have := (own_eq k n (by omega) (by omega)).mp q; omega)).1 (aN X5.here hx rfl (D 13 rfl) rfl rfl (iN X5.here hx rfl (D 14 rfl) rfl (iN X5.here hx rfl (D 15 rfl) rfl ?_)))
   refine st6 _ (XS.astore X6.here hx rfl (D 17 rfl) rfl rfl (l':=#[vr a1,vi 0,vi (I n),vr b4,vi (I k),vr T5.heap.size]) rfl (aL X6.here hx rfl (D 18 rfl) rfl rfl (iL X6.here hx rfl (D 19 rfl) rfl ?_)))
   refine st7 _ (XS.sipush X7.here hx rfl (D 21 rfl) (cY X7.here hx rfl (pc0 := 38) (pc':=54) rfl (D 22 rfl) rfl (tlt (hhi:(255:Int32) < (cs.getD k 0))).2.2.1 (by decide) (by decide) (aL X7.here hx rfl (D 23 rfl) rfl rfl ?_)))
   jvm_step X7.here [X7.here.top,hx,(D 24 rfl),X7.method',Bd.returns,Value.isRef,FieldType.isReference]
   first | (intro acts; rw [hr _ acts rfl rfl rfl]) | rw [hr _ _ rfl rfl rfl]
   exact Steps.refl _
 · show Q9 Z n cs h0 n0 _ T7.heap _
   exact ⟨_,rfl,N7,by rw [e7]; exact KA.trans K6 all0,KA.1,kb,by rw [e7]; exact V6⟩
def l11 : zl := [(0,.iload_n 1,1),(1,.aload_n 0,1),(2,.arraylength,1),(3,.isub,1),(4,.bipush 31,2),(6,.iushr,1),(7,.i2b,1),(8,.ireturn,1)]
theorem D11 : zq jdk_52_method_15_code l11 := zd (by decide +kernel)
theorem r11 (l:Launch) (Z:State) (a0:Array Value) (hw:zH Z a0) (ws:List Jvm.Cond) (a1:Addr) (p2:Int32) (cl_a1:Cell) (z_a1:Int32) (h0:Heap) (n0:Nat) (Z0:n0 ≤ h0.size) (Ar_a1:Arr Z h0 a1 cl_a1 .byte) (S_a1:cl_a1.slots.size = z_a1.toNatClampNeg) (N_a1:¬ z_a1 < 0) :
   zM l Z h0 ws y_44 jdk_52_method_15_code 2 (some .byte) (zr 0 0 0 0) #[.ref a1,.int p2] (QR (some (.int (nar .byte ((((p2 - z_a1).toUInt32 >>> ((31:Int32) &&& 31).toUInt32).toInt32).toInt8.toInt32)))) h0 n0) := by
 refine zE pn_61 rfl fun p e s m below meth c s₁ Bd hx hby hml hown hZ X0 e0 => ?_
 have D := D11 Bd.bytes
 have N0 := Fr.nil n0
 refine zL Bd X0 (ef_58 m a1 p2) (some (.int (nar .byte ((((p2 - z_a1).toUInt32 >>> ((31:Int32) &&& 31).toUInt32).toInt32).toInt8.toInt32)))) nofun (by decide) (by decide) (fun fs hr => ?_) ?_
 · refine iN X0.here hx rfl (D 0 rfl) rfl (aN X0.here hx rfl (D 1 rfl) rfl rfl (X0.arraylength hx (by rw [e0]; exact Ar_a1.1) (State.isArrayOf_alike hZ.alike Ar_a1.2.1) (g:=(mkF m 2 #[vr a1,vi p2] [.ref a1,.int p2])) rfl rfl (D 2 rfl) _ ?_))
   rw [len_of S_a1 N_a1]
   refine iB X0.here hx rfl (D 3 rfl) rfl (bP X0.here hx rfl (D 4 rfl) (XS.iushr X0.here hx rfl (D 5 rfl) rfl (XS.i2b X0.here hx rfl (D 6 rfl) rfl ?_)))
   exact retN X0 hx (t:=.byte) Bd.returns (by simp) (D 7 rfl) hr
 · show QR (some (.int (nar .byte ((((p2 - z_a1).toUInt32 >>> ((31:Int32) &&& 31).toUInt32).toInt32).toInt8.toInt32)))) h0 n0 _ s₁.heap _
   rw [e0]
   exact ⟨rfl,N0,rfl⟩
theorem own_cfal (n:Nat) (h0:0 < n) (h:n < 256) : nar .byte ((((I n - I (2 * n)).toUInt32 >>> ((31:Int32) &&& 31).toUInt32).toInt32).toInt8.toInt32) = 1 := (by decide +kernel : ∀ n : Fin 256,0 < n.val → nar .byte ((((I n.val - I (2 * n.val)).toUInt32 >>> ((31:Int32) &&& 31).toUInt32).toInt32).toInt8.toInt32) = 1) ⟨n,h⟩ h0
theorem r11c (l:Launch) (Z:State) (a0:Array Value) (hw:zH Z a0) (ws:List Jvm.Cond) (a1:Addr) (n:Nat) (kb:ClassId) (vs:List Value) (h0:Heap) (n0:Nat) (Z0:n0 ≤ h0.size) (h1:0 < n) (hn:n ≤ 200) (V:Arv Z h0 a1 kb .byte (I (2 * n)) vs (.int 0)) :
   zM l Z h0 ws y_44 jdk_52_method_15_code 2 (some .byte) (zr 0 0 0 0) #[.ref a1,(.int (I n))] (QR (some (.int 1)) h0 n0) := by
 obtain ⟨cl,Ar,q,S,N,H,G⟩ := V
 rw [← own_cfal n h1 (by omega)]
 exact r11 l Z a0 hw ws a1 (I n) cl (I (2 * n)) h0 n0 Z0 Ar S N
def l3 : zl := [(0,.aload_n 0,1),(1,.invokespecial 1,3),(4,.iload_n 3,1),(5,.ifCond .ne 22,3),(27,.getstatic 38,3),(30,.ifCond .eq 28,3),(33,.aload_n 1,1),(34,.iload_n 2,1),(35,.iload_n 3,1),(36,.invokestatic 177,3),(39,.astore 5,2),(41,.aload_n 0,1),(42,.aload 5,2),(44,.iload_n 3,1),(45,.invokestatic 47,3),(48,.putfield 15,3),(51,.aload_n 0,1),(52,.aload 5,2),(54,.putfield 9,3),(57,.return_,1),(8,.aload_n 0,1),(9,.ldc 7,2),(11,.getfield 9,3),(14,.putfield 9,3),(17,.aload_n 0,1),(18,.ldc 7,2),(20,.getfield 15,3),(23,.putfield 15,3),(26,.return_,1)]
theorem D3 : zq jdk_42_method_149_code l3 := zd (by decide +kernel)
theorem pd_3_10 : parseMethodDescriptor "([BI)B" = some ⟨[(.array .byte),.int],some .byte⟩ := by decide +kernel
theorem ef_3 (m:MethodId) (x0:Addr) (x1:Addr) (x2:Int32) (x3:Int32) : entryFrame m #[.ref x0,.ref x1,.int x2,.int x3,.null] 6 = mkF m 0 #[.val (.ref x0),.val (.ref x1),.val (.int x2),.val (.int x3),.val .null,.unset] [] := by first | (simp [entryFrame,mkF,argsToLocals,Value.category]; done) | rfl
def Q3 (Z:State) (a1:Addr) (w:Bool) (cs:List Int32) (h0:Heap) (n0:Nat) (v:Option Value) (h:Heap) (L:List Loc) : Prop := v = none ∧ Fr n0 L ∧ Keep h0 h [a1] ∧ own_Str Z h a1 w cs
abbrev own_R3 : Room := (zr 4 2 600 80)
abbrev own_R2 : Room := (zr 5 2 600 100)
theorem r3 (l:Launch) (Z:State) (a0:Array Value) (hw:zH Z a0) (ws:List Jvm.Cond) (a1:Addr) (a2:Addr) (cs:List Int32) (n k:Nat) (kc:ClassId) (w6:Int32) (u_coder_a1:Value) (u_value_a1:Value) (h0:Heap) (n0:Nat) (Z0:n0 ≤ h0.size) (S_COMPACT_STRINGS:Sta Z h0 "java/lang/String" "COMPACT_STRINGS" "Z" (.int w6)) (E_a1:Exa Z h0 a1 "java/lang/String") (F_coder_a1:Fld Z h0 a1 "java/lang/String" "coder" "B" u_coder_a1) (g_a1:n0 ≤ a1) (F_value_a1:Fld Z h0 a1 "java/lang/String" "value" "[B" u_value_a1) (hc30:¬ (w6 = 0)) (hcs:cs.length = n) (hk:k < n) (hn:n ≤ 200) (hlo:∀ j,j < k → ¬ (255:Int32) < cs.getD j 0) (hhi:(255:Int32) < cs.getD k 0) (hbb:own_C cs) (C:Arv Z h0 a2 kc .char (I n) (cs.map Value.int) (.int 0)) (O:Old Z n0 h0) (SA0:Sta Z Z.heap "java/lang/StringUTF16" "$assertionsDisabled" "Z" (.int 1)) (SH0:Sta Z Z.heap "java/lang/StringUTF16" "HI_BYTE_SHIFT" "I" (.int 0)) (SL0:Sta Z Z.heap "java/lang/StringUTF16" "LO_BYTE_SHIFT" "I" (.int 8)) :
   zM l Z h0 ws y_37 jdk_42_method_149_code 6 none own_R3 #[.ref a1,.ref a2,.int 0,(.int (I n)),.null] (Q3 Z a1 true cs h0 n0) := by
 refine zE pn_7 rfl fun p e s m below meth c s₁ Bd hx hby hml hown hZ X0 e0 => ?_
 have D := D3 Bd.bytes
 have hnm := (name_of_methodNamed Bd.named Bd.method).1
 have N0 := Fr.nil n0
 obtain ⟨T5,X5,e5,st5⟩ := initO X0 hx hZ hown (zW hw 15 rfl) (zW hw 16 rfl) (zW hw 17 rfl) e0 (g:=(mkF m 1 #[vr a1,vr a2,vi 0,vi (I n),.val .null,.unset] [.ref a1])) rfl (by rw [hml]; rfl) rfl (D 1 rfl) (by decide) (W:=0) (Nat.le_of_eq rfl) (by decide)
 obtain ⟨T7,X7,e7,st7⟩ := getS2 X5 hx hZ hown (host:="") (Or.inl (zW hw 40 rfl)) Via.refl e5 S_COMPACT_STRINGS (g:=(mkF m 27 #[vr a1,vr a2,vi 0,vi (I n),.val .null,.unset] [])) rfl (D 4 rfl)
 obtain ⟨_,T8,Lc8,X8,hQ8,st8⟩ := zS X7 hx hZ hown (zW hw 48 rfl) (zW hw 49 rfl) (zW hw 50 rfl) (zW hw 51 rfl) (by decide) (r9 l Z a0 hw [] a2 cs n k kc h0 n0 Z0 hcs hk hn hlo hhi hbb C O SA0 SH0 SL0) (by decide) (by decide) (W:=0) (g:=(mkF m 36 #[vr a1,vr a2,vi 0,vi (I n),.val .null,.unset] [(.int (I n)),.int 0,.ref a2])) rfl (by rw [hml]; rfl) (argsL:=[.ref a2,.int 0,(.int (I n))]) (rest:=[]) (lenOf pd_9_8 rfl) rfl (Nat.le_of_eq rfl) (D 9 rfl) rfl e7 (by decide:0 + 2 ≤ _) (by decide:0 + 600 ≤ _)
 obtain ⟨b8,rfl,N8q,K8,g8,kb,V8⟩ := hQ8
 have Z8 := Nat.le_trans Z0 K8.1
 have N8 := Fr.app N0 N8q
 obtain ⟨_,T9,Lc9,X9,hQ9,st9⟩ := zS X8 hx hZ hown (zW hw 55 rfl) (zW hw 56 rfl) (zW hw 50 rfl) (zW hw 57 rfl) (by decide) (r11c l Z a0 hw [] b8 n kb _ T8.heap n0 Z8 (by omega) hn V8) (by decide) (by decide) (W:=1) (g:=(mkF m 45 #[vr a1,vr a2,vi 0,vi (I n),.val .null,vr b8] [(.int (I n)),.ref b8,.ref a1])) rfl (by rw [hml]; rfl) (argsL:=[.ref b8,(.int (I n))]) (rest:=[.ref a1]) (lenOf pd_3_10 rfl) rfl (Nat.le_of_eq rfl) (D 14 rfl) rfl rfl (by decide:2 + 0 ≤ _) (by decide:600 + 0 ≤ _)
 obtain ⟨rfl,N9q,e9⟩ := hQ9
 have N9 := Fr.app N8 N9q
 obtain ⟨T10,h10,X10,e10,W10,st10⟩ := putFN X9 hx hZ hown (zW hw 25 rfl) Via.refl e9 (F_coder_a1.keep K8 nin0) (E_a1.keep K8) (Or.inr ⟨(zW hw 21 rfl),rfl,hnm⟩) (zW hw 6 rfl) (ty:=.byte) (v':=(.int 1)) (by decide) rfl (by decide) (g:=(mkF m 48 #[vr a1,vr a2,vi 0,vi (I n),.val .null,vr b8] [.int 1,.ref a1])) rfl rfl (D 15 rfl)
 have Fw10 := (F_coder_a1.keep K8 nin0).same W10
 have K10 : Keep h0 h10 [a1] := ((Keep.refl h0 [a1]).trans K8 all0).wr W10 (Or.inl (List.mem_of_getElem? (i:=0) rfl))
 have N10 := Fr.snoc X10 N9 g_a1
 obtain ⟨T11,h11,X11,e11,W11,st11⟩ := putF X10 hx hZ hown (host:="") (Or.inl (zW hw 24 rfl)) Via.refl e10 ((F_value_a1.keep K8 nin0).other W10 (Or.inr (slot_ne (Or.inr (zW hw 20 rfl)) (Or.inr (zW hw 21 rfl)) (by decide) (t:=(.array .byte)) (t':=.byte) (by decide) (by decide)))) ((E_a1.keep K8).wr W10) (Or.inr ⟨(zW hw 20 rfl),rfl,hnm⟩) (zW hw 6 rfl) (ty:=(.array .byte)) (by decide) rfl rfl (g:=(mkF m 54 #[vr a1,vr a2,vi 0,vi (I n),.val .null,vr b8] [.ref b8,.ref a1])) rfl rfl (D 18 rfl)
 have Fw11 := ((F_value_a1.keep K8 nin0).other W10 (Or.inr (slot_ne (Or.inr (zW hw 20 rfl)) (Or.inr (zW hw 21 rfl)) (by decide) (t:=(.array .byte)) (t':=.byte) (by decide) (by decide)))).same W11
 have K11 : Keep h0 h11 [a1] := K10.wr W11 (Or.inl (List.mem_of_getElem? (i:=0) rfl))
 have N11 := Fr.snoc X11 N10 g_a1
 refine zL Bd X11 (ef_3 m a1 a2 (0:Int32) (I n)) none (fun _ => rfl) (by decide) (by decide) (fun fs hr => ?_) ?_
 · refine aN X0.here hx rfl (D 0 rfl) rfl rfl (st5 _ (iN X5.here hx rfl (D 2 rfl) rfl (fY X5.here hx rfl (pc0 := 5) (pc':=27) rfl (D 3 rfl) rfl ((if0 _ _).trans (feq (fun q => by have := (own_eq n 0 (by omega) (by decide)).mp q; omega : ¬ ((I n) = 0))).2) (by decide) (by decide) ?_)))
   refine st7 _ (fN X7.here hx rfl (D 5 rfl) rfl ((if0 _ _).trans (feq hc30).1) (aN X7.here hx rfl (D 6 rfl) rfl rfl (iN X7.here hx rfl (D 7 rfl) rfl ?_)))
   refine iN X7.here hx rfl (D 8 rfl) rfl (st8 _ (XS.astore X8.here hx rfl (D 10 rfl) rfl rfl (l':=#[vr a1,vr a2,vi 0,vi (I n),.val .null,vr b8]) rfl (aN X8.here hx rfl (D 11 rfl) rfl rfl ?_)))
   refine aL X8.here hx rfl (D 12 rfl) rfl rfl (iN X8.here hx rfl (D 13 rfl) rfl (st9 _ (st10 _ ?_)))
   refine aN X10.here hx rfl (D 16 rfl) rfl rfl (aL X10.here hx rfl (D 17 rfl) rfl rfl (st11 _ ?_))
   exact X11.returnOut hx Bd.returns (D 19 rfl) hr
 · show Q3 Z a1 true cs h0 n0 _ T11.heap _
   rw [e11]
   have hb8 : b8 ≠ a1 := Nat.ne_of_gt (Nat.lt_of_lt_of_le E_a1.lt g8)
   exact ⟨rfl,N11,K11,((E_a1.keep K8).wr W10).wr W11,Fw10.other W11 (Or.inr (slot_ne (Or.inr (zW hw 21 rfl)) (Or.inr (zW hw 20 rfl)) (by decide) (t:=.byte) (t':=(.array .byte)) (by decide) (by decide))),b8,kb,Fw11,by rw [hcs]; exact (V8.other W10 hb8).other W11 hb8⟩
def l2 : zl := [(0,.aload_n 0,1),(1,.aload_n 1,1),(2,.iconst 0,1),(3,.aload_n 1,1),(4,.arraylength,1),(5,.aconst_null,1),(6,.invokespecial 27,3),(9,.return_,1)]
theorem D2 : zq jdk_42_method_3_code l2 := zd (by decide +kernel)
theorem pd_2_2 : parseMethodDescriptor "([CIILjava/lang/Void;)V" = some ⟨[(.array .char),.int,.int,(.object "java/lang/Void")],none⟩ := by decide +kernel
theorem ef_2 (m:MethodId) (x0:Addr) (x1:Addr) : entryFrame m #[.ref x0,.ref x1] 2 = mkF m 0 #[.val (.ref x0),.val (.ref x1)] [] := by first | (simp [entryFrame,mkF,argsToLocals,Value.category]; done) | rfl
theorem r2 (l:Launch) (Z:State) (a0:Array Value) (hw:zH Z a0) (ws:List Jvm.Cond) (a1:Addr) (a2:Addr) (cs:List Int32) (n k:Nat) (kc:ClassId) (w6:Int32) (u_coder_a1:Value) (u_value_a1:Value) (h0:Heap) (n0:Nat) (Z0:n0 ≤ h0.size) (S_COMPACT_STRINGS:Sta Z h0 "java/lang/String" "COMPACT_STRINGS" "Z" (.int w6)) (E_a1:Exa Z h0 a1 "java/lang/String") (F_coder_a1:Fld Z h0 a1 "java/lang/String" "coder" "B" u_coder_a1) (g_a1:n0 ≤ a1) (F_value_a1:Fld Z h0 a1 "java/lang/String" "value" "[B" u_value_a1) (hc30:¬ (w6 = 0)) (hcs:cs.length = n) (hk:k < n) (hn:n ≤ 200) (hlo:∀ j,j < k → ¬ (255:Int32) < cs.getD j 0) (hhi:(255:Int32) < cs.getD k 0) (hbb:own_C cs) (C:Arv Z h0 a2 kc .char (I n) (cs.map Value.int) (.int 0)) (O:Old Z n0 h0) (SA0:Sta Z Z.heap "java/lang/StringUTF16" "$assertionsDisabled" "Z" (.int 1)) (SH0:Sta Z Z.heap "java/lang/StringUTF16" "HI_BYTE_SHIFT" "I" (.int 0)) (SL0:Sta Z Z.heap "java/lang/StringUTF16" "LO_BYTE_SHIFT" "I" (.int 8)) :
   zM l Z h0 ws y_13 jdk_42_method_3_code 2 none own_R2 #[.ref a1,.ref a2] (Q3 Z a1 true cs h0 n0) := by
 refine zE pn_7 rfl fun p e s m below meth c s₁ Bd hx hby hml hown hZ X0 e0 => ?_
 obtain ⟨cl_a2,Ar_a2,qc,S_a2,N_a2,Hc,Gc⟩ := id C
 have D := D2 Bd.bytes
 have N0 := Fr.nil n0
 obtain ⟨_,_,⟨T3,L3,k3,n3⟩,-,X3,⟨Lc3,hQ3,l3,y3,z3⟩,st3⟩ := X0.specialBack hx (y:=y_37) rfl hown (zT hZ hw 11 rfl) (zT hZ hw 12 rfl) (zT hZ hw 14 rfl) (by decide) (backOf (W:=0) (r3 l Z a0 hw [] a1 a2 cs n k kc w6 u_coder_a1 u_value_a1 h0 n0 Z0 S_COMPACT_STRINGS E_a1 F_coder_a1 g_a1 F_value_a1 hc30 hcs hk hn hlo hhi hbb C O SA0 SH0 SL0) hZ (zW hw 14 rfl) (zW hw 7 rfl) (by decide) (by decide)) (g:=(mkF m 6 #[vr a1,vr a2] [.null,(.int (I n)),.int 0,.ref a2,.ref a1])) rfl (by rw [hml]; rfl) (Steps.refl _) (a:=a1) (argsL:=[.ref a2,.int 0,(.int (I n)),.null]) (rest:=[]) (lenOf pd_2_2 rfl) rfl (Nat.le_of_eq rfl) (D 6 rfl) (fun _ _ => ⟨rfl,e0,(by decide:0 + 2 ≤ _),(by decide:0 + 600 ≤ _)⟩)
 dsimp only [Pt.U,Pt.locs,Pt.cells,Pt.slots] at X3 l3 y3 z3 st3 hQ3
 subst l3 y3 z3
 obtain ⟨rfl,N3q,Q3q⟩ := hQ3
 have N3 := Fr.app N0 N3q
 refine zL Bd X3 (ef_2 m a1 a2) none (fun _ => rfl) (by decide) (by decide) (fun fs hr => ?_) ?_
 · refine aN X0.here hx rfl (D 0 rfl) rfl rfl (aN X0.here hx rfl (D 1 rfl) rfl rfl (iC X0.here hx rfl (D 2 rfl) (aN X0.here hx rfl (D 3 rfl) rfl rfl ?_)))
   refine X0.arraylength hx (by rw [e0]; exact Ar_a2.1) (State.isArrayOf_alike hZ.alike Ar_a2.2.1) (g:=(mkF m 4 #[vr a1,vr a2] [.ref a2,.int 0,.ref a2,.ref a1])) rfl rfl (D 4 rfl) _ ?_
   rw [len_of S_a2 N_a2]
   refine XS.aconstNull X0.here hx rfl (D 5 rfl) (st3.trans ?_)
   exact X3.returnOut hx Bd.returns (D 7 rfl) hr
 · show Q3 Z a1 true cs h0 n0 _ T3.heap _
   exact ⟨rfl,N3,Q3q⟩
def l13 : zl := [(0,.aload_n 0,1),(1,.invokespecial 3,3),(4,.getstatic 18,3),(7,.ifCond .eq 18,3),(10,.aload_n 0,1),(11,.iload_n 1,1),(12,.newarray .byte,2),(14,.putfield 15,3),(17,.aload_n 0,1),(18,.iconst 0,1),(19,.putfield 22,3),(22,.goto 16,3),(38,.return_,1)]
theorem D13 : zq jdk_68_method_2_code l13 := zd (by decide +kernel)
def Q13 (Z:State) (a1:Addr) (h0:Heap) (n0:Nat) (v:Option Value) (h:Heap) (L:List Loc) : Prop := v = none ∧ Fr n0 L ∧ Keep h0 h [a1] ∧ own_SB Z h a1 false [] h0.size
theorem r13 (l:Launch) (Z:State) (a0:Array Value) (hw:zH Z a0) (ws:List Jvm.Cond) (a1:Addr) (u_value_a1:Value) (u_coder_a1:Value) (h0:Heap) (n0:Nat) (Z0:n0 ≤ h0.size) (E_a1:Exa Z h0 a1 "java/lang/StringBuilder") (F_value_a1:Fld Z h0 a1 "java/lang/AbstractStringBuilder" "value" "[B" u_value_a1) (g_a1:n0 ≤ a1) (F_coder_a1:Fld Z h0 a1 "java/lang/AbstractStringBuilder" "coder" "B" u_coder_a1) (F_count_a1:Fld Z h0 a1 "java/lang/AbstractStringBuilder" "count" "I" (.int 0)) (F_m:Fld Z h0 a1 "java/lang/AbstractStringBuilder" "maybeLatin1" "Z" (.int 0)) (SWh:own_SW Z h0) :
   zM l Z h0 ws y_62 jdk_68_method_2_code 2 none (zr 1 1 96 12) #[.ref a1,.int 96] (Q13 Z a1 h0 n0) := by
 refine zE pn_26 rfl fun p e s m below meth c s₁ Bd hx hby hml hown hZ X0 e0 => ?_
 obtain ⟨zc,-,S_COMPACT_STRINGS,hc7,-⟩ := id SWh
 have D := D13 Bd.bytes
 have N0 := Fr.nil n0
 obtain ⟨T3,X3,e3,st3⟩ := initO X0 hx hZ hown (zW hw 70 rfl) (zW hw 16 rfl) (zW hw 17 rfl) e0 (g:=(mkF m 1 #[vr a1,vi 96] [.ref a1])) rfl (by rw [hml]; rfl) rfl (D 1 rfl) (by decide) (W:=0) (Nat.le_of_eq rfl) (by decide)
 obtain ⟨T5,X5,e5,st5⟩ := getS2 X3 hx hZ hown (host:="") (Or.inl (zW hw 71 rfl)) Via.refl e3 S_COMPACT_STRINGS (g:=(mkF m 4 #[vr a1,vi 96] [])) rfl (D 2 rfl)
 obtain ⟨T6,h6,k6,X6,e6,E6,A6,st6⟩ := newP X5 hx hZ (zW hw 19 rfl) e5 (g:=(mkF m 12 #[vr a1,vi 96] [.int 96,.ref a1])) rfl (D 6 rfl) rfl (by decide) (cap:=96) (by decide) (by decide) (by decide) (by decide)
 obtain ⟨b6,g6⟩ : ∃ z,z = h0.size := ⟨_,rfl⟩
 rw [← g6] at A6 st6
 have V_b6 : Arv Z h6 b6 k6 .byte (96:Int32) ([] ++ (List.replicate (96) (Value.int 0))) (.int 0) := (Arv.new A6 (by decide)).pad (pad_rep [] (.int 0) 96)
 have g_b6 : n0 ≤ b6 := Nat.le_trans Z0 (Nat.le_of_eq g6.symm)
 have sz_b6 : h0.size ≤ b6 := (Nat.le_trans (Keep.refl h0 [a1]).1 (Nat.le_of_eq g6.symm))
 have K6 : Keep h0 h6 [a1] := (Keep.refl h0 [a1]).ext E6
 obtain ⟨T7,h7,X7,e7,W7,st7⟩ := putF X6 hx hZ hown (host:="") (Or.inl (zW hw 72 rfl)) Via.refl e6 (F_value_a1.ext E6) (E_a1.ext E6) (Or.inl (zW hw 73 rfl)) (zW hw 59 rfl) (ty:=(.array .byte)) (by decide) rfl rfl (g:=(mkF m 14 #[vr a1,vi 96] [.ref b6,.ref a1])) rfl rfl (D 7 rfl)
 have Fw7 := (F_value_a1.ext E6).same W7
 have K7 : Keep h0 h7 [a1] := K6.wr W7 (Or.inl (List.mem_of_getElem? (i:=0) rfl))
 have N7 := Fr.snoc X7 N0 g_a1
 obtain ⟨T8,h8,X8,e8,W8,st8⟩ := putFN X7 hx hZ hown (zW hw 74 rfl) Via.refl e7 ((F_coder_a1.ext E6).other W7 (Or.inr (slot_ne (Or.inl (zW hw 75 rfl)) (Or.inl (zW hw 73 rfl)) (by decide) (t:=.byte) (t':=(.array .byte)) (by decide) (by decide)))) ((E_a1.ext E6).wr W7) (Or.inl (zW hw 75 rfl)) (zW hw 59 rfl) (ty:=.byte) (v':=(.int 0)) (by decide) rfl (by decide) (g:=(mkF m 19 #[vr a1,vi 96] [.int 0,.ref a1])) rfl rfl (D 10 rfl)
 have Fw8 := ((F_coder_a1.ext E6).other W7 (Or.inr (slot_ne (Or.inl (zW hw 75 rfl)) (Or.inl (zW hw 73 rfl)) (by decide) (t:=.byte) (t':=(.array .byte)) (by decide) (by decide)))).same W8
 have K8 : Keep h0 h8 [a1] := K7.wr W8 (Or.inl (List.mem_of_getElem? (i:=0) rfl))
 have N8 := Fr.snoc X8 N7 g_a1
 refine zL Bd X8 (ef_58 m a1 (96:Int32)) none (fun _ => rfl) (by decide) (by decide) (fun fs hr => ?_) ?_
 · refine aN X0.here hx rfl (D 0 rfl) rfl rfl (st3 _ (st5 _ (fN X5.here hx rfl (D 3 rfl) rfl ((if0 _ _).trans (feq hc7).1) ?_)))
   refine aN X5.here hx rfl (D 4 rfl) rfl rfl (iN X5.here hx rfl (D 5 rfl) rfl (st6 _ (st7 _ ?_)))
   refine aN X7.here hx rfl (D 8 rfl) rfl rfl (iC X7.here hx rfl (D 9 rfl) (st8 _ (gT X8.here hx rfl (pc0 := 22) (pc':=38) rfl (D 11 rfl) (by decide) (by decide) ?_)))
   exact X8.returnOut hx Bd.returns (D 12 rfl) hr
 · show Q13 Z a1 h0 n0 _ T8.heap _
   rw [e8]
   have hb : b6 ≠ a1 := fun q => Nat.lt_irrefl _ (Nat.lt_of_lt_of_eq (q ▸ E_a1.lt) g6.symm)
   subst g6
   exact ⟨rfl,N8,K8,((E_a1.ext E6).wr W7).wr W8,Fw8,((F_count_a1.ext E6).other W7 (Or.inr (slot_ne (Or.inl (zW hw 129 rfl)) (Or.inl (zW hw 73 rfl)) (by decide) (t:=.int) (t':=(.array .byte)) (by decide) (by decide)))).other W8 (Or.inr (slot_ne (Or.inl (zW hw 129 rfl)) (Or.inl (zW hw 75 rfl)) (by decide) (t:=.int) (t':=.byte) (by decide) (by decide))),Fw7.other W8 (Or.inr (slot_ne (Or.inl (zW hw 73 rfl)) (Or.inl (zW hw 75 rfl)) (by decide) (t:=(.array .byte)) (t':=.byte) (by decide) (by decide))),((F_m.ext E6).other W7 (Or.inr (slot_ne (Or.inl (zW hw 341 rfl)) (Or.inl (zW hw 73 rfl)) (by decide) (t:=.boolean) (t':=(.array .byte)) (by decide) (by decide)))).other W8 (Or.inr (slot_ne (Or.inl (zW hw 341 rfl)) (Or.inl (zW hw 75 rfl)) (by decide) (t:=.boolean) (t':=.byte) (by decide) (by decide))),k6,_,(V_b6.other W7 hb).other W8 hb,by rfl,by decide,rfl⟩
def l12 : zl := [(0,.aload_n 0,1),(1,.iload_n 1,1),(2,.invokespecial 1,3),(5,.return_,1)]
theorem D12 : zq jdk_67_method_2_code l12 := zd (by decide +kernel)
theorem pd_12_11 : parseMethodDescriptor "(I)V" = some ⟨[.int],none⟩ := by decide +kernel
theorem r12 (l:Launch) (Z:State) (a0:Array Value) (hw:zH Z a0) (ws:List Jvm.Cond) (a1:Addr) (u_value_a1:Value) (u_coder_a1:Value) (h0:Heap) (n0:Nat) (Z0:n0 ≤ h0.size) (E_a1:Exa Z h0 a1 "java/lang/StringBuilder") (F_value_a1:Fld Z h0 a1 "java/lang/AbstractStringBuilder" "value" "[B" u_value_a1) (g_a1:n0 ≤ a1) (F_coder_a1:Fld Z h0 a1 "java/lang/AbstractStringBuilder" "coder" "B" u_coder_a1) (F_count_a1:Fld Z h0 a1 "java/lang/AbstractStringBuilder" "count" "I" (.int 0)) (F_m:Fld Z h0 a1 "java/lang/AbstractStringBuilder" "maybeLatin1" "Z" (.int 0)) (SWh:own_SW Z h0) :
   zM l Z h0 ws y_63 jdk_67_method_2_code 2 none (zr 2 1 96 25) #[.ref a1,.int 96] (Q13 Z a1 h0 n0) := by
 refine zE pn_45 rfl fun p e s m below meth c s₁ Bd hx hby hml hown hZ X0 e0 => ?_
 have D := D12 Bd.bytes
 have N0 := Fr.nil n0
 obtain ⟨_,_,⟨T3,L3,k3,n3⟩,-,X3,⟨Lc3,hQ3,l3,y3,z3⟩,st3⟩ := X0.specialBack hx (y:=y_62) rfl hown (zT hZ hw 64 rfl) (zT hZ hw 65 rfl) (zT hZ hw 69 rfl) (by decide) (backOf (W:=0) (r13 l Z a0 hw [] a1 u_value_a1 u_coder_a1 h0 n0 Z0 E_a1 F_value_a1 g_a1 F_coder_a1 F_count_a1 F_m SWh) hZ (zW hw 69 rfl) (zW hw 68 rfl) (by decide) (by decide)) (g:=(mkF m 2 #[vr a1,vi 96] [.int 96,.ref a1])) rfl (by rw [hml]; rfl) (Steps.refl _) (a:=a1) (argsL:=[.int 96]) (rest:=[]) (lenOf pd_12_11 rfl) rfl (Nat.le_of_eq rfl) (D 2 rfl) (fun _ _ => ⟨rfl,e0,(by decide:0 + 1 ≤ _),(by decide:0 + 96 ≤ _)⟩)
 dsimp only [Pt.U,Pt.locs,Pt.cells,Pt.slots] at X3 l3 y3 z3 st3 hQ3
 subst l3 y3 z3
 obtain ⟨rfl,N3q,Qq⟩ := hQ3
 have N3 := Fr.app N0 N3q
 refine zL Bd X3 (ef_58 m a1 (96:Int32)) none (fun _ => rfl) (by decide) (by decide) (fun fs hr => ?_) ?_
 · refine aN X0.here hx rfl (D 0 rfl) rfl rfl (iN X0.here hx rfl (D 1 rfl) rfl (st3.trans ?_))
   exact X3.returnOut hx Bd.returns (D 3 rfl) hr
 · show Q13 Z a1 h0 n0 _ T3.heap _
   exact ⟨rfl,N3,Qq⟩
def l24 : zl := [(0,.aload_n 0,1),(1,.getfield 15,3),(4,.arraylength,1),(5,.aload_n 0,1),(6,.getfield 22,3),(9,.ishr,1),(10,.istore_n 2,1),(11,.iload_n 1,1),(12,.iload_n 2,1),(13,.isub,1),(14,.ifCond .le 24,3),(38,.return_,1)]
theorem D24 : zq jdk_68_method_9_code l24 := zd (by decide +kernel)
theorem ef_24 (m:MethodId) (x0:Addr) (x1:Int32) : entryFrame m #[.ref x0,.int x1] 3 = mkF m 0 #[.val (.ref x0),.val (.int x1),.unset] [] := by first | (simp [entryFrame,mkF,argsToLocals,Value.category]; done) | rfl
theorem own_cap (w:Bool) : I (own_k w * 96) >>> ((own_cd w) &&& 31) = 96 := by cases w <;> decide
theorem own_cap2 (q:Nat) (h:q ≤ 96) : ¬ (0:Int32) < I q - 96 := (by decide +kernel : ∀ q : Fin 97,¬ (0:Int32) < I q.val - 96) ⟨q,by omega⟩
theorem r24 (l:Launch) (Z:State) (a0:Array Value) (hw:zH Z a0) (ws:List Jvm.Cond) (a1:Addr) (p2:Int32) (w3:Addr) (w:Bool) (cs:List Int32) (q:Nat) (h0:Heap) (n0:Nat) (Z0:n0 ≤ h0.size) (hp:p2 = I q) (SB:own_SB Z h0 a1 w cs w3) (hq:q ≤ 96) :
   zM l Z h0 ws y_14 jdk_68_method_9_code 3 none (zr 0 0 0 0) #[.ref a1,.int p2] (QR none h0 n0) := by
 refine zE pn_26 rfl fun p e s m below meth c s₁ Bd hx hby hml hown hZ X0 e0 => ?_
 obtain ⟨E_a1,F_coder_a1,F_count_a1,F_value_a1,-,kd,vd,B,hvd,hcs,htk⟩ := id SB
 obtain ⟨cl_w3,Ar_w3,qb,S_w3,N_w3,Hb,Gb⟩ := id B
 have hc14 : ¬ ((0:Int32) < (p2 - ((I (own_k w * 96)) >>> ((own_cd w) &&& 31)))) := by rw [hp,own_cap]; exact own_cap2 q hq
 have D := D24 Bd.bytes
 have N0 := Fr.nil n0
 obtain ⟨T4,X4,e4,st4⟩ := getF X0 hx hZ hown (host:="") (Or.inl (zW hw 72 rfl)) Via.refl e0 F_value_a1 (g:=(mkF m 1 #[vr a1,vi p2,.unset] [.ref a1])) rfl rfl (D 1 rfl)
 obtain ⟨T6,X6,e6,st6⟩ := getF X4 hx hZ hown (host:="") (Or.inl (zW hw 74 rfl)) Via.refl e4 F_coder_a1 (g:=(mkF m 6 #[vr a1,vi p2,.unset] [.ref a1,(.int (I (own_k w * 96)))])) rfl rfl (D 4 rfl)
 refine zL Bd X6 (ef_24 m a1 p2) none (fun _ => rfl) (by decide) (by decide) (fun fs hr => ?_) ?_
 · refine aN X0.here hx rfl (D 0 rfl) rfl rfl (st4 _ (X4.arraylength hx (by rw [e4]; exact Ar_w3.1) (State.isArrayOf_alike hZ.alike Ar_w3.2.1) (g:=(mkF m 4 #[vr a1,vi p2,.unset] [.ref w3])) rfl rfl (D 2 rfl) _ ?_))
   rw [len_of S_w3 N_w3]
   refine aN X4.here hx rfl (D 3 rfl) rfl rfl (st6 _ (XS.ishr X6.here hx rfl (D 5 rfl) rfl (sN X6.here hx rfl (D 6 rfl) rfl (l':=#[vr a1,vi p2,vi ((I (own_k w * 96)) >>> ((own_cd w) &&& 31))]) rfl ?_)))
   refine iN X6.here hx rfl (D 7 rfl) rfl (iN X6.here hx rfl (D 8 rfl) rfl (iB X6.here hx rfl (D 9 rfl) rfl (fY X6.here hx rfl (pc0 := 14) (pc':=38) rfl (D 10 rfl) rfl ((if0 _ _).trans (flt hc14).2.2.2) (by decide) (by decide) ?_)))
   exact X6.returnOut hx Bd.returns (D 11 rfl) hr
 · show QR none h0 n0 _ T6.heap _
   rw [e6]
   exact ⟨rfl,N0,rfl⟩
def l68 : zl := [(0,.iload_n 1,1),(1,.aload_n 0,1),(2,.invokestatic 67,3),(5,.aload_n 0,1),(6,.iload_n 1,1),(7,.iload_n 2,1),(8,.invokestatic 111,3),(11,.return_,1)]
theorem D68 : zq jdk_52_method_71_code l68 := zd (by decide +kernel)
theorem r68 (l:Launch) (Z:State) (a0:Array Value) (hw:zH Z a0) (ws:List Jvm.Cond) (a1:Addr) (p3:Int32) (kb:ClassId) (n i:Nat) (vs:List Value) (h0:Heap) (n0:Nat) (Z0:n0 ≤ h0.size) (hi:i < n) (hn:n ≤ 200) (V:Arv Z h0 a1 kb .byte (I (2 * n)) vs (.int 0)) (hvs:vs.length = 2 * n) (g_a1:n0 ≤ a1) (SWh:own_SW Z h0) :
   zM l Z h0 ws y_64 jdk_52_method_71_code 3 none (zr 3 0 0 41) #[.ref a1,(.int (I i)),.int p3] (Q57 Z a1 kb n i p3 vs h0 n0) := by
 refine zE pn_61 rfl fun p e s m below meth c s₁ Bd hx hby hml hown hZ X0 e0 => ?_
 obtain ⟨cl_a1,Ar_a1,qb,S_a1,N_a1,Hb,Gb⟩ := id V
 obtain ⟨zc,fm,-,-,S_F,rf,SA,SH,SL⟩ := id SWh
 have D := D68 Bd.bytes
 have N0 := Fr.nil n0
 obtain ⟨_,T4,Lc4,X4,hQ4,st4⟩ := zS X0 hx hZ hown (zW hw 293 rfl) (zW hw 294 rfl) (zW hw 50 rfl) (zW hw 295 rfl) (by decide) (r60 l Z a0 hw [] (I i) a1 cl_a1 (I (2 * n)) fm h0 n0 Z0 Ar_a1 S_a1 N_a1 S_F rf (own_nn i (by omega)) (by rw [(own_ix n (by omega)).2]; exact (own_lt i n (by omega) (by omega)).mpr hi)) (by decide) (by decide) (W:=0) (g:=(mkF m 2 #[vr a1,vi (I i),vi p3] [.ref a1,(.int (I i))])) rfl (by rw [hml]; rfl) (argsL:=[(.int (I i)),.ref a1]) (rest:=[]) (lenOf pd_59_46 rfl) rfl (Nat.le_of_eq rfl) (D 2 rfl) rfl e0 (by decide:0 + 0 ≤ _) (by decide:0 + 0 ≤ _)
 obtain ⟨rfl,N4q,e4⟩ := hQ4
 have N4 := Fr.app N0 N4q
 obtain ⟨_,T5,Lc5,X5,hQ5,st5⟩ := zS X4 hx hZ hown (zW hw 281 rfl) (zW hw 282 rfl) (zW hw 50 rfl) (zW hw 283 rfl) (by decide) (r57 l Z a0 hw [] a1 (I i) p3 kb n i vs h0 n0 Z0 rfl hi hn V hvs g_a1 SA SH SL) (by decide) (by decide) (W:=0) (g:=(mkF m 8 #[vr a1,vi (I i),vi p3] [.int p3,(.int (I i)),.ref a1])) rfl (by rw [hml]; rfl) (argsL:=[.ref a1,(.int (I i)),.int p3]) (rest:=[]) (lenOf pd_54_45 rfl) rfl (Nat.le_of_eq rfl) (D 6 rfl) rfl e4 (by decide:0 + 0 ≤ _) (by decide:0 + 0 ≤ _)
 obtain ⟨rfl,N5q,Qq⟩ := hQ5
 have N5 := Fr.app N4 N5q
 refine zL Bd X5 (ef_57 m a1 (I i) p3) none (fun _ => rfl) (by decide) (by decide) (fun fs hr => ?_) ?_
 · refine iN X0.here hx rfl (D 0 rfl) rfl (aN X0.here hx rfl (D 1 rfl) rfl rfl (st4 _ (aN X4.here hx rfl (D 3 rfl) rfl rfl ?_)))
   refine iN X4.here hx rfl (D 4 rfl) rfl (iN X4.here hx rfl (D 5 rfl) rfl (st5 _ ?_))
   exact X5.returnOut hx Bd.returns (D 7 rfl) hr
 · show Q57 Z a1 kb n i p3 vs h0 n0 _ T5.heap _
   exact ⟨rfl,N5,Qq⟩
abbrev own_R64 : Room := (zr 3 0 0 43)
theorem own_or_nn (x y:Int32) (hx:¬ x < 0) (hy:¬ y < 0) : ¬ (x ||| y) < 0 := by
 rw [Int32.lt_iff_toInt_lt] at hx hy ⊢
 have z : (0:Int32).toInt = 0 := by decide
 rw [z] at hx hy ⊢
 have e : ∀ u : Int32,(u.toInt < 0) ↔ u.toBitVec.msb = true := fun u => by
   rw [BitVec.msb_eq_toInt,decide_eq_true_iff]; rfl
 rw [e] at hx hy ⊢
 rw [Int32.toBitVec_or,BitVec.msb_or]
 simp [hx,hy]
def l64 : zl := [(10,.iload 5,2),(12,.iload 4,2),(14,.if_icmp .ge 27,3),(17,.aload_n 2,1),(18,.iload_n 3,1),(19,.iinc 3 1,3),(22,.aload_n 0,1),(23,.iload_n 1,1),(24,.iinc 1 1,3),(27,.baload,1),(28,.sipush 255,3),(31,.iand,1),(32,.invokestatic 111,3),(35,.iinc 5 1,3),(38,.goto (-28),3),(0,.iload_n 3,1),(1,.iload 4,2),(3,.aload_n 2,1),(4,.invokestatic 173,3),(7,.iconst 0,1),(8,.istore 5,2),(41,.return_,1)]
theorem D64 : zq jdk_52_method_86_code l64 := zd (by decide +kernel)
theorem iz {h0:Heap} (o0:Addr) (i1:Int32) (o2:Addr) (i3:Int32) (i4:Int32) (i5:Int32) (xs:List Int32) (sn dn m0 i:Nat) (ks kd:ClassId) (ss vd:List Value) (n0:Nat)
   (X0:Stand p l e own_R64 s m args below meth c T0 locs cells slots) (hx:p.tables.exec = Jvm.exec) (hZ:Z.Warmed39 s.vm) (hw:zH Z a0) (hby:c.code = jdk_52_method_86_code) (hml:c.maxLocals = 6) (hown:s.vm.findClass "java/lang/StringUTF16" = some m.cls) (e0:T0.heap = h0) (hi:i < xs.length) (hm:m0 + xs.length ≤ dn) (hdn:dn ≤ 200) (hx2:∀ c ∈ xs,¬ c < 0 ∧ ¬ (255:Int32) < c) (hsn:xs.length ≤ sn) (hsn2:sn ≤ 400) (h1:i1 = I i) (h3:i3 = I (m0 + i)) (S:Arv Z h0 o0 ks .byte (I sn) ss (.int 0)) (hss:ss.take xs.length = own_by xs) (V:Arv Z h0 o2 kd .byte (I (2 * dn)) vd (.int 0)) (hvd:vd.length = 2 * dn) (g_o2:n0 ≤ o2) (SA:Sta Z h0 "java/lang/StringUTF16" "$assertionsDisabled" "Z" (.int 1)) (SH:Sta Z h0 "java/lang/StringUTF16" "HI_BYTE_SHIFT" "I" (.int 0)) (SL:Sta Z h0 "java/lang/StringUTF16" "LO_BYTE_SHIFT" "I" (.int 8)) (Z0:n0 ≤ h0.size) (N0:Fr n0 locs) (hcl:cells ≤ own_R64.cells) (hsl:slots ≤ own_R64.slots) (hc14:i5 < i4) :
   ∃ (T':State) (locs':List Loc),Stand p l e own_R64 s m args below meth c T' locs' cells slots ∧ Fr n0 locs' ∧ Keep h0 T'.heap [o2] ∧ Arv Z T'.heap o2 kd .byte (I (2 * dn)) (own_put vd (m0 + i) (xs.getD i 0)) (.int 0) ∧
     ∀ target,Steps p.tables e below (T'.setTop (mkF m 10 #[vr o0,vi (i1 + 1),vr o2,vi (i3 + 1),vi i4,vi (i5 + 1)] [])) target → Steps p.tables e below (T0.setTop (mkF m 10 #[vr o0,vi i1,vr o2,vi i3,vi i4,vi i5] [])) target := by
 have D := D64 hby
 obtain ⟨cl_o0,Ar_o0,qc,Sc,Mc,Hc,Gc⟩ := S
 rw [own_cl sn (by omega)] at Sc
 have x1 : (i1).toNatClampNeg = i := by rw [h1]; exact own_cl i (by omega)
 have hin27 : ¬ (i1 < 0 ∨ cl_o0.slots.size ≤ (i1).toNatClampNeg) := fun q => q.elim (by rw [h1]; exact own_nn i (by omega)) (by rw [x1,Sc]; omega)
 have hat27 : cl_o0.slots[(i1).toNatClampNeg]? = some (.int (StrChars.lo8 (xs.getD i 0))) := by
   rw [x1,Hc i (by omega),own_take_getD ss (own_by xs) xs.length i _ hss (by rw [own_by_len]; exact hi),own_getD_by xs i _ hi]
 obtain ⟨_,T7,Lc7,X7,hQ7,st7⟩ := zS X0 hx hZ hown (zW hw 281 rfl) (zW hw 282 rfl) (zW hw 50 rfl) (zW hw 283 rfl) (by decide) (r57 l Z a0 hw [] o2 i3 ((StrChars.lo8 (xs.getD i 0)) &&& 255) kd dn (m0 + i) vd h0 n0 Z0 h3 (by omega) hdn V hvd g_o2 SA SH SL) (by decide) (by decide) (W:=0) (g:=(mkF m 32 #[vr o0,vi (i1 + 1),vr o2,vi (i3 + 1),vi i4,vi i5] [(.int ((StrChars.lo8 (xs.getD i 0)) &&& 255)),.int i3,.ref o2])) rfl (by rw [hml]; rfl) (argsL:=[.ref o2,.int i3,(.int ((StrChars.lo8 (xs.getD i 0)) &&& 255))]) (rest:=[]) (lenOf pd_54_45 rfl) rfl (Nat.le_of_eq rfl) (D 12 rfl) rfl e0 hcl hsl
 obtain ⟨rfl,N7q,K7,V7⟩ := hQ7
 have N7 := Fr.app N0 N7q
 rw [own_b255 _ (hx2 _ (own_mem xs i hi)).1 (hx2 _ (own_mem xs i hi)).2] at V7
 refine ⟨T7,_,X7,N7,K7,V7,fun target kt => ?_⟩
 refine iL X0.here hx rfl (D 0 rfl) rfl (iL X0.here hx rfl (D 1 rfl) rfl (cN X0.here hx rfl (D 2 rfl) rfl (tlt hc14).2.1 (aN X0.here hx rfl (D 3 rfl) rfl rfl ?_)))
 refine iN X0.here hx rfl (D 4 rfl) rfl (iI X0.here hx rfl (D 5 rfl) rfl (l':=#[vr o0,vi i1,vr o2,vi (i3 + 1),vi i4,vi i5]) rfl (aN X0.here hx rfl (D 6 rfl) rfl rfl (iN X0.here hx rfl (D 7 rfl) rfl ?_)))
 refine iI X0.here hx rfl (D 8 rfl) rfl (l':=#[vr o0,vi (i1 + 1),vr o2,vi (i3 + 1),vi i4,vi i5]) rfl (X0.baloadBytes hx (j:=i1) (v:=(.int (StrChars.lo8 (xs.getD i 0)))) (by rw [e0]; exact Ar_o0.1) (State.isArrayOf_alike hZ.alike Ar_o0.2.1) Ar_o0.2.2 hin27 hat27 (g:=(mkF m 27 #[vr o0,vi (i1 + 1),vr o2,vi (i3 + 1),vi i4,vi i5] [.int i1,.ref o0,.int i3,.ref o2])) rfl rfl (D 9 rfl) _ (XS.sipush X0.here hx rfl (D 10 rfl) (XS.iand X0.here hx rfl (D 11 rfl) rfl ?_)))
 refine st7 _ (iI X7.here hx rfl (D 13 rfl) rfl (l':=#[vr o0,vi (i1 + 1),vr o2,vi (i3 + 1),vi i4,vi (i5 + 1)]) rfl (gT X7.here hx rfl (pc0 := 38) (pc':=10) rfl (D 14 rfl) (by decide) (by decide) ?_))
 exact kt
theorem ix {h0:Heap} (s0:Slot) (s1:Slot) (s2:Slot) (s3:Slot) (i4:Int32) (i5:Int32)
   (X0:Stand p l e own_R64 s m args below meth c T0 locs cells slots) (hx:p.tables.exec = Jvm.exec) (hZ:Z.Warmed39 s.vm) (hw:zH Z a0) (hby:c.code = jdk_52_method_86_code) (hml:c.maxLocals = 6) (hown:s.vm.findClass "java/lang/StringUTF16" = some m.cls) (e0:T0.heap = h0) (hc14:¬ (i5 < i4)) :
   ∃ (T':State),Stand p l e own_R64 s m args below meth c T' locs cells slots ∧ T'.heap = h0 ∧
     ∀ target,Steps p.tables e below (T'.setTop (mkF m 41 #[s0,s1,s2,s3,vi i4,vi i5] [])) target → Steps p.tables e below (T0.setTop (mkF m 10 #[s0,s1,s2,s3,vi i4,vi i5] [])) target := by
 refine ⟨T0,X0,e0,fun target kt => ?_⟩
 refine iL X0.here hx rfl (D64 hby 0 rfl) rfl (iL X0.here hx rfl (D64 hby 1 rfl) rfl (cY X0.here hx rfl (pc0 := 14) (pc':=41) rfl (D64 hby 2 rfl) rfl (flt hc14).2.1 (by decide) (by decide) ?_))
 exact kt
theorem own_iloop (hx:p.tables.exec = Jvm.exec) (hZ:Z.Warmed39 s.vm) (hw:zH Z a0) (hby:c.code = jdk_52_method_86_code) (hml:c.maxLocals = 6) (hown:s.vm.findClass "java/lang/StringUTF16" = some m.cls) (o0 o2:Addr) (cs xs:List Int32) (sn dn m0:Nat) (ks kd:ClassId) (ss:List Value) (n0:Nat) (hm:m0 + xs.length ≤ dn) (hdn:dn ≤ 200) (hx2:∀ c ∈ xs,¬ c < 0 ∧ ¬ (255:Int32) < c) (hsn:xs.length ≤ sn) (hsn2:sn ≤ 400) (hss:ss.take xs.length = own_by xs) (hne:o0 ≠ o2) (g2:n0 ≤ o2) (SA0:Sta Z Z.heap "java/lang/StringUTF16" "$assertionsDisabled" "Z" (.int 1)) (SH0:Sta Z Z.heap "java/lang/StringUTF16" "HI_BYTE_SHIFT" "I" (.int 0)) (SL0:Sta Z Z.heap "java/lang/StringUTF16" "LO_BYTE_SHIFT" "I" (.int 8)) (hcl:cells ≤ own_R64.cells) (hsl:slots ≤ own_R64.slots) :
   ∀ (r i:Nat) (vd:List Value) (T0:State) (locs:List Loc),i + r = xs.length → Stand p l e own_R64 s m args below meth c T0 locs cells slots → Fr n0 locs → n0 ≤ T0.heap.size → Old Z n0 T0.heap → Arv Z T0.heap o0 ks .byte (I sn) ss (.int 0) → Arv Z T0.heap o2 kd .byte (I (2 * dn)) vd (.int 0) → vd.length = 2 * dn → vd.take (2 * (m0 + i)) = StrChars.Road.wideBytes (cs ++ xs.take i) →
     ∃ (T':State) (locs':List Loc) (vs:List Value),Stand p l e own_R64 s m args below meth c T' locs' cells slots ∧ Fr n0 locs' ∧ Keep T0.heap T'.heap [o2] ∧ Arv Z T'.heap o2 kd .byte (I (2 * dn)) vs (.int 0) ∧ vs.length = 2 * dn ∧ vs.take (2 * (m0 + xs.length)) = StrChars.Road.wideBytes (cs ++ xs) ∧ ∀ target,Steps p.tables e below (T'.setTop (mkF m 41 #[vr o0,vi (I xs.length),vr o2,vi (I (m0 + xs.length)),vi (I xs.length),vi (I xs.length)] [])) target → Steps p.tables e below (T0.setTop (mkF m 10 #[vr o0,vi (I i),vr o2,vi (I (m0 + i)),vi (I xs.length),vi (I i)] [])) target := by
 intro r
 induction r with
 | zero =>
   intro i vd T0 locs hik X0 N0 Z0 O S V hvd hv
   obtain rfl : i = xs.length := by omega
   obtain ⟨T1,X1,e1,st1⟩ := ix (vr o0) (vi (I xs.length)) (vr o2) (vi (I (m0 + xs.length))) (I xs.length) (I xs.length) X0 hx hZ hw hby hml hown rfl Int32.lt_irrefl
   rw [List.take_length] at hv
   exact ⟨T1,locs,vd,X1,N0,by rw [e1]; exact Keep.refl _ _,by rw [e1]; exact V,hvd,hv,st1⟩
 | succ r ih =>
   intro i vd T0 locs hik X0 N0 Z0 O S V hvd hv
   obtain ⟨T1,L1,X1,N1,K1,V1,st1⟩ := iz o0 (I i) o2 (I (m0 + i)) (I xs.length) (I i) xs sn dn m0 i ks kd ss vd n0 X0 hx hZ hw hby hml hown rfl (by omega) hm hdn hx2 hsn hsn2 rfl rfl S hss V hvd g2 (SA0.ext O.2) (SH0.ext O.2) (SL0.ext O.2) Z0 N0 hcl hsl ((own_lt i xs.length (by omega) (by omega)).mpr (by omega))
   rw [own_succ,own_succ,Nat.add_assoc] at st1
   have hp := own_put_take vd (cs ++ xs.take i) (m0 + i) (xs.getD i 0) hv (by omega)
   rw [List.append_assoc,show xs.take i ++ [xs.getD i 0] = xs.take (i + 1) by rw [List.take_succ_eq_append_getElem (show i < xs.length by omega),List.getD_eq_getElem?_getD,List.getElem?_eq_getElem (show i < xs.length by omega)]; rfl,Nat.add_assoc] at hp
   obtain ⟨T2,L2,vs,X2,N2,K2,V2,hvs,ht,st2⟩ := ih (i + 1) _ T1 L1 (by omega) X1 N1 (Nat.le_trans Z0 K1.1) (O.keep K1 (allS g2 all0)) (S.keep K1 (ninS hne nin0)) V1 (by rw [own_put_len]; exact hvd) hp
   exact ⟨T2,L2,vs,X2,N2,K1.trans K2 (fun x hx => Or.inl hx),V2,hvs,ht,fun t q => st1 _ (st2 _ q)⟩
theorem pd_64_49 : parseMethodDescriptor "(II[B)V" = some ⟨[.int,.int,(.array .byte)],none⟩ := by decide +kernel
theorem ef_64 (m:MethodId) (x0:Addr) (x1:Int32) (x2:Addr) (x3:Int32) (x4:Int32) : entryFrame m #[.ref x0,.int x1,.ref x2,.int x3,.int x4] 6 = mkF m 0 #[.val (.ref x0),.val (.int x1),.val (.ref x2),.val (.int x3),.val (.int x4),.unset] [] := by first | (simp [entryFrame,mkF,argsToLocals,Value.category]; done) | rfl
def Q64 (Z:State) (a3:Addr) (kd:ClassId) (dn q:Nat) (cs:List Int32) (h0:Heap) (n0:Nat) (v:Option Value) (h:Heap) (L:List Loc) : Prop := v = none ∧ Fr n0 L ∧ Keep h0 h [a3] ∧ ∃ vs : List Value,Arv Z h a3 kd .byte (I (2 * dn)) vs (.int 0) ∧ vs.length = 2 * dn ∧ vs.take (2 * q) = StrChars.Road.wideBytes cs
theorem r64 (l:Launch) (Z:State) (a0:Array Value) (hw:zH Z a0) (ws:List Jvm.Cond) (a1:Addr) (a3:Addr) (cs xs:List Int32) (sn dn m0:Nat) (ks kd:ClassId) (ss vd:List Value) (h0:Heap) (n0:Nat) (Z0:n0 ≤ h0.size) (hm:m0 + xs.length ≤ dn) (hdn:dn ≤ 200) (hx2:∀ c ∈ xs,¬ c < 0 ∧ ¬ (255:Int32) < c) (hsn:xs.length ≤ sn) (hsn2:sn ≤ 400) (S:Arv Z h0 a1 ks .byte (I sn) ss (.int 0)) (hss:ss.take xs.length = own_by xs) (V:Arv Z h0 a3 kd .byte (I (2 * dn)) vd (.int 0)) (hvd:vd.length = 2 * dn) (hv:vd.take (2 * m0) = StrChars.Road.wideBytes cs) (hne:a1 ≠ a3) (g_a3:n0 ≤ a3) (O:Old Z n0 h0) (SWz:own_SW Z Z.heap) :
   zM l Z h0 ws y_65 jdk_52_method_86_code 6 none own_R64 #[.ref a1,.int 0,.ref a3,(.int (I m0)),(.int (I xs.length))] (Q64 Z a3 kd dn (m0 + xs.length) (cs ++ xs) h0 n0) := by
 refine zE pn_61 rfl fun p e s m below meth c s₁ Bd hx hby hml hown hZ X0 e0 => ?_
 obtain ⟨cl_a3,Ar_a3,qb,S_a3,N_a3,Hb,Gb⟩ := id V
 obtain ⟨zc,fm,-,-,S_F0,rf,SA0,SH0,SL0⟩ := id SWz
 have S_F := S_F0.ext O.2
 have es := (own_ix dn (by omega)).2
 have D := D64 hby
 have N0 := Fr.nil n0
 obtain ⟨_,T6,Lc6,X6,hQ6,st6⟩ := zS X0 hx hZ hown (zW hw 313 rfl) (zW hw 314 rfl) (zW hw 50 rfl) (zW hw 315 rfl) (by decide) (r65 l Z a0 hw [] (I m0) (I xs.length) a3 cl_a3 (I (2 * dn)) fm h0 n0 Z0 Ar_a3 S_a3 N_a3 S_F rf (by rw [es]; exact own_or_nn _ _ (own_or_nn _ _ (own_nn dn (by omega)) (own_nn m0 (by omega))) (own_nn _ (by omega))) (by rw [es,own_sub m0 dn (by omega)]; exact fun q => by have := (own_lt (dn - m0) xs.length (by omega) (by omega)).mp q; omega)) (by decide) (by decide) (W:=0) (g:=(mkF m 4 #[vr a1,vi 0,vr a3,vi (I m0),vi (I xs.length),.unset] [.ref a3,(.int (I xs.length)),(.int (I m0))])) rfl (by rw [hml]; rfl) (argsL:=[(.int (I m0)),(.int (I xs.length)),.ref a3]) (rest:=[]) (lenOf pd_64_49 rfl) rfl (Nat.le_of_eq rfl) (D 18 rfl) rfl e0 (by decide:0 + 0 ≤ _) (by decide:0 + 0 ≤ _)
 obtain ⟨rfl,N6q,e6⟩ := hQ6
 have N6 := Fr.app N0 N6q
 obtain ⟨T9,L9,vs9,X9,N9,K9,V9,hv9,ht9,st9⟩ := own_iloop hx hZ hw hby hml hown a1 a3 cs xs sn dn m0 ks kd ss n0 hm hdn hx2 hsn hsn2 hss hne g_a3 SA0 SH0 SL0 (by decide) (by decide) xs.length 0 vd T6 _ (by omega) X6 N6 (by rw [e6]; exact Z0) (by rw [e6]; exact O) (by rw [e6]; exact S) (by rw [e6]; exact V) hvd (by simpa using hv)
 rw [e6] at K9
 refine zL Bd X9 (ef_64 m a1 (0:Int32) a3 (I m0) (I xs.length)) none (fun _ => rfl) (by decide) (by decide) (fun fs hr => ?_) ?_
 · refine iN X0.here hx rfl (D 15 rfl) rfl (iL X0.here hx rfl (D 16 rfl) rfl (aN X0.here hx rfl (D 17 rfl) rfl rfl (st6 _ ?_)))
   refine iC X6.here hx rfl (D 19 rfl) (iS X6.here hx rfl (D 20 rfl) rfl (l':=#[vr a1,vi 0,vr a3,vi (I m0),vi (I xs.length),vi 0]) rfl (st9 _ ?_))
   exact X9.returnOut hx Bd.returns (D 21 rfl) hr
 · show Q64 Z a3 kd dn (m0 + xs.length) (cs ++ xs) h0 n0 _ T9.heap _
   exact ⟨rfl,N9,K9,vs9,V9,hv9,ht9⟩
def l63 : zl := [(0,.aload_n 0,1),(1,.iload_n 1,1),(2,.aload_n 2,1),(3,.iload_n 3,1),(4,.iload 4,2),(6,.invokestatic 240,3),(9,.return_,1)]
theorem D63 : zq jdk_43_method_50_code l63 := zd (by decide +kernel)
theorem pd_63_48 : parseMethodDescriptor "([BI[BII)V" = some ⟨[(.array .byte),.int,(.array .byte),.int,.int],none⟩ := by decide +kernel
theorem ef_63 (m:MethodId) (x0:Addr) (x1:Int32) (x2:Addr) (x3:Int32) (x4:Int32) : entryFrame m #[.ref x0,.int x1,.ref x2,.int x3,.int x4] 5 = mkF m 0 #[.val (.ref x0),.val (.int x1),.val (.ref x2),.val (.int x3),.val (.int x4)] [] := by first | (simp [entryFrame,mkF,argsToLocals,Value.category]; done) | rfl
theorem r63 (l:Launch) (Z:State) (a0:Array Value) (hw:zH Z a0) (ws:List Jvm.Cond) (a1:Addr) (a3:Addr) (cs xs:List Int32) (sn dn m0:Nat) (ks kd:ClassId) (ss vd:List Value) (h0:Heap) (n0:Nat) (Z0:n0 ≤ h0.size) (hm:m0 + xs.length ≤ dn) (hdn:dn ≤ 200) (hx2:∀ c ∈ xs,¬ c < 0 ∧ ¬ (255:Int32) < c) (hsn:xs.length ≤ sn) (hsn2:sn ≤ 400) (S:Arv Z h0 a1 ks .byte (I sn) ss (.int 0)) (hss:ss.take xs.length = own_by xs) (V:Arv Z h0 a3 kd .byte (I (2 * dn)) vd (.int 0)) (hvd:vd.length = 2 * dn) (hv:vd.take (2 * m0) = StrChars.Road.wideBytes cs) (hne:a1 ≠ a3) (g_a3:n0 ≤ a3) (O:Old Z n0 h0) (SWz:own_SW Z Z.heap) :
   zM l Z h0 ws y_50 jdk_43_method_50_code 5 none (zr 4 0 0 60) #[.ref a1,.int 0,.ref a3,(.int (I m0)),(.int (I xs.length))] (Q64 Z a3 kd dn (m0 + xs.length) (cs ++ xs) h0 n0) := by
 refine zE pn_31 rfl fun p e s m below meth c s₁ Bd hx hby hml hown hZ X0 e0 => ?_
 have D := D63 Bd.bytes
 have N0 := Fr.nil n0
 obtain ⟨_,T6,Lc6,X6,hQ6,st6⟩ := zS X0 hx hZ hown (zW hw 310 rfl) (zW hw 311 rfl) (zW hw 50 rfl) (zW hw 312 rfl) (by decide) (r64 l Z a0 hw [] a1 a3 cs xs sn dn m0 ks kd ss vd h0 n0 Z0 hm hdn hx2 hsn hsn2 S hss V hvd hv hne g_a3 O SWz) (by decide) (by decide) (W:=0) (g:=(mkF m 6 #[vr a1,vi 0,vr a3,vi (I m0),vi (I xs.length)] [(.int (I xs.length)),(.int (I m0)),.ref a3,.int 0,.ref a1])) rfl (by rw [hml]; rfl) (argsL:=[.ref a1,.int 0,.ref a3,(.int (I m0)),(.int (I xs.length))]) (rest:=[]) (lenOf pd_63_48 rfl) rfl (Nat.le_of_eq rfl) (D 5 rfl) rfl e0 (by decide:0 + 0 ≤ _) (by decide:0 + 0 ≤ _)
 obtain ⟨rfl,N6q,Qq⟩ := hQ6
 have N6 := Fr.app N0 N6q
 refine zL Bd X6 (ef_63 m a1 (0:Int32) a3 (I m0) (I xs.length)) none (fun _ => rfl) (by decide) (by decide) (fun fs hr => ?_) ?_
 · refine aN X0.here hx rfl (D 0 rfl) rfl rfl (iN X0.here hx rfl (D 1 rfl) rfl (aN X0.here hx rfl (D 2 rfl) rfl rfl (iN X0.here hx rfl (D 3 rfl) rfl ?_)))
   refine iL X0.here hx rfl (D 4 rfl) rfl (st6 _ ?_)
   exact X6.returnOut hx Bd.returns (D 6 rfl) hr
 · show Q64 Z a3 kd dn (m0 + xs.length) (cs ++ xs) h0 n0 _ T6.heap _
   exact ⟨rfl,N6,Qq⟩
def l62 : zl := [(0,.aload_n 0,1),(1,.invokevirtual 83,3),(4,.ifCond .ne 4,3),(7,.return_,1),(8,.aload_n 0,1),(9,.getfield 15,3),(12,.arraylength,1),(13,.invokestatic 26,3),(16,.astore_n 1,1),(17,.aload_n 0,1),(18,.getfield 15,3),(21,.iconst 0,1),(22,.aload_n 1,1),(23,.iconst 0,1),(24,.aload_n 0,1),(25,.getfield 79,3),(28,.invokestatic 125,3),(31,.aload_n 0,1),(32,.aload_n 1,1),(33,.putfield 15,3),(36,.aload_n 0,1),(37,.iconst 1,1),(38,.putfield 22,3),(41,.return_,1)]
theorem D62 : zq jdk_68_method_11_code l62 := zd (by decide +kernel)
theorem ef_62 (m:MethodId) (x0:Addr) : entryFrame m #[.ref x0] 2 = mkF m 0 #[.val (.ref x0),.unset] [] := by first | (simp [entryFrame,mkF,argsToLocals,Value.category]; done) | rfl
theorem r62w (l:Launch) (Z:State) (a0:Array Value) (hw:zH Z a0) (ws:List Jvm.Cond) (a1:Addr) (h0:Heap) (n0:Nat) (Z0:n0 ≤ h0.size) (E_a1:Exa Z h0 a1 "java/lang/StringBuilder") (F_coder_a1:Fld Z h0 a1 "java/lang/AbstractStringBuilder" "coder" "B" (.int (own_cd true))) (SWh:own_SW Z h0) :
   zM l Z h0 ws y_38 jdk_68_method_11_code 2 none (zr 1 0 0 12) #[.ref a1] (QR none h0 n0) := by
 refine zE pn_26 rfl fun p e s m below meth c s₁ Bd hx hby hml hown hZ X0 e0 => ?_
 obtain ⟨zc,fm,SC,hz,-⟩ := id SWh
 have D := D62 Bd.bytes
 have N0 := Fr.nil n0
 obtain ⟨cq2,kq2,q2a,q2b,q2c⟩ := isOf hZ e0 E_a1
 obtain ⟨_,T2,Lc2,X2,hQ2,st2⟩ := zU X0 hx hZ hown (zW hw 141 rfl) (zW hw 142 rfl) (zW hw 144 rfl) (zW hw 143 rfl) (by decide) (backOf (W:=0) (r26 l Z a0 hw [] a1 zc true h0 n0 Z0 SC F_coder_a1 hz) hZ (zW hw 145 rfl) (zW hw 68 rfl) (by decide) (by decide)) q2a q2c (g:=(mkF m 1 #[vr a1,.unset] [.ref a1])) rfl (by rw [hml]; rfl) (argsL:=[]) (rest:=[]) (lenOf pd_15_14 rfl) rfl (Nat.le_of_eq rfl) (D 1 rfl) rfl e0 (by decide:0 + 0 ≤ _) (by decide:0 + 0 ≤ _)
 obtain ⟨rfl,N2q,e2⟩ := hQ2
 have N2 := Fr.app N0 N2q
 refine zL Bd X2 (ef_62 m a1) none (fun _ => rfl) (by decide) (by decide) (fun fs hr => ?_) ?_
 · refine aN X0.here hx rfl (D 0 rfl) rfl rfl (st2.trans (fN X2.here hx rfl (D 2 rfl) rfl ((if0 _ _).trans (teq (rfl:(own_nl true) = 0)).2) ?_))
   exact X2.returnOut hx Bd.returns (D 3 rfl) hr
 · show QR none h0 n0 _ T2.heap _
   exact ⟨rfl,N2,e2⟩
def Q62 (Z:State) (a1:Addr) (cs:List Int32) (h0:Heap) (n0:Nat) (v:Option Value) (h:Heap) (L:List Loc) : Prop := v = none ∧ Fr n0 L ∧ Keep h0 h [a1] ∧ own_SB Z h a1 true cs h0.size
theorem r62l (l:Launch) (Z:State) (a0:Array Value) (hw:zH Z a0) (ws:List Jvm.Cond) (a1:Addr) (t0:Addr) (cs:List Int32) (h0:Heap) (n0:Nat) (Z0:n0 ≤ h0.size) (SB:own_SB Z h0 a1 false cs t0) (hx2:∀ c ∈ cs,¬ c < 0 ∧ ¬ (255:Int32) < c) (g_a1:n0 ≤ a1) (O:Old Z n0 h0) (SWz:own_SW Z Z.heap) :
   zM l Z h0 ws y_38 jdk_68_method_11_code 2 none (zr 5 1 400 76) #[.ref a1] (Q62 Z a1 cs h0 n0) := by
 refine zE pn_26 rfl fun p e s m below meth c s₁ Bd hx hby hml hown hZ X0 e0 => ?_
 obtain ⟨E_a1,F_coder_a1,F_count_a1,F_value_a1,F_m,kd,vd,B,hvd,hcs,htk⟩ := id SB
 obtain ⟨cl_t0,Ar_t0,qb,S_t0,N_t0,Hb,Gb⟩ := id B
 have SWh := SWz.ext O.2
 obtain ⟨zc,fm,SC,hz,-⟩ := id SWh
 have nea : a1 ≠ h0.size := Nat.ne_of_lt E_a1.lt
 have net : t0 ≠ h0.size := Nat.ne_of_lt B.lt
 have D := D62 Bd.bytes
 have N0 := Fr.nil n0
 obtain ⟨cq2,kq2,q2a,q2b,q2c⟩ := isOf hZ e0 E_a1
 obtain ⟨_,T2,Lc2,X2,hQ2,st2⟩ := zU X0 hx hZ hown (zW hw 141 rfl) (zW hw 142 rfl) (zW hw 144 rfl) (zW hw 143 rfl) (by decide) (backOf (W:=0) (r26 l Z a0 hw [] a1 zc false h0 n0 Z0 SC F_coder_a1 hz) hZ (zW hw 145 rfl) (zW hw 68 rfl) (by decide) (by decide)) q2a q2c (g:=(mkF m 1 #[vr a1,.unset] [.ref a1])) rfl (by rw [hml]; rfl) (argsL:=[]) (rest:=[]) (lenOf pd_15_14 rfl) rfl (Nat.le_of_eq rfl) (D 1 rfl) rfl e0 (by decide:0 + 0 ≤ _) (by decide:0 + 0 ≤ _)
 obtain ⟨rfl,N2q,e2⟩ := hQ2
 have N2 := Fr.app N0 N2q
 obtain ⟨T4,X4,e4,st4⟩ := getF X2 hx hZ hown (host:="") (Or.inl (zW hw 72 rfl)) Via.refl e2 (F_value_a1) (g:=(mkF m 9 #[vr a1,.unset] [.ref a1])) rfl rfl (D 5 rfl)
 obtain ⟨_,T5,Lc5,X5,hQ5,st5⟩ := zS X4 hx hZ hown (zW hw 306 rfl) (zW hw 275 rfl) (zW hw 50 rfl) (zW hw 276 rfl) (by decide) (r55 l Z a0 hw [] 96 h0 n0 Z0 (by decide)) (by decide) (by decide) (W:=0) (g:=(mkF m 13 #[vr a1,.unset] [(.int (I 96))])) rfl (by rw [hml]; rfl) (argsL:=[(.int (I 96))]) (rest:=[]) (lenOf pd_54_44 rfl) rfl (Nat.le_of_eq rfl) (D 7 rfl) rfl e4 (by decide:0 + 1 ≤ _) (by decide:0 + 400 ≤ _)
 obtain ⟨rfl,N5q,K5,k5x,V5⟩ := hQ5
 have Z5 := Nat.le_trans Z0 K5.1
 have O5 := O.keep K5 all0
 have N5 := Fr.app N2 N5q
 obtain ⟨T7,X7,e7,st7⟩ := getF X5 hx hZ hown (host:="") (Or.inl (zW hw 72 rfl)) Via.refl rfl ((F_value_a1).keep K5 nin0) (g:=(mkF m 18 #[vr a1,vr h0.size] [.ref a1])) rfl rfl (D 10 rfl)
 obtain ⟨T9,X9,e9,st9⟩ := getF X7 hx hZ hown (host:="") (Or.inl (zW hw 128 rfl)) Via.refl e7 ((F_count_a1).keep K5 nin0) (g:=(mkF m 25 #[vr a1,vr h0.size] [.ref a1,.int 0,.ref h0.size,.int 0,.ref t0])) rfl rfl (D 15 rfl)
 obtain ⟨_,T10,Lc10,X10,hQ10,st10⟩ := zS X9 hx hZ hown (zW hw 307 rfl) (zW hw 308 rfl) (zW hw 91 rfl) (zW hw 309 rfl) (by decide) (r63 l Z a0 hw [] t0 h0.size [] cs 96 96 0 kd k5x vd _ T5.heap n0 Z5 (by omega) (by decide) hx2 hcs (by decide) (B.keep K5 nin0) (by rw [← Nat.one_mul cs.length]; exact htk) V5 (by simp) rfl net Z0 O5 SWz) (by decide) (by decide) (W:=0) (g:=(mkF m 28 #[vr a1,vr h0.size] [(.int (I cs.length)),.int 0,.ref h0.size,.int 0,.ref t0])) rfl (by rw [hml]; rfl) (argsL:=[.ref t0,.int 0,.ref h0.size,.int 0,(.int (I cs.length))]) (rest:=[]) (lenOf pd_63_48 rfl) rfl (Nat.le_of_eq rfl) (D 16 rfl) rfl e9 (by decide:1 + 0 ≤ _) (by decide:400 + 0 ≤ _)
 obtain ⟨rfl,N10q,K10,vs10,V10,hv10,ht10⟩ := hQ10
 have N10 := Fr.app N5 N10q
 obtain ⟨T11,h11,X11,e11,W11,st11⟩ := putF X10 hx hZ hown (host:="") (Or.inl (zW hw 72 rfl)) Via.refl rfl (((F_value_a1).keep K5 nin0).keep K10 (ninS nea nin0)) (((E_a1).keep K5).keep K10) (Or.inl (zW hw 73 rfl)) (zW hw 59 rfl) (ty:=(.array .byte)) (by decide) rfl rfl (g:=(mkF m 33 #[vr a1,vr h0.size] [.ref h0.size,.ref a1])) rfl rfl (D 19 rfl)
 have Fw11 := (((F_value_a1).keep K5 nin0).keep K10 (ninS nea nin0)).same W11
 have K11 : Keep h0 h11 [a1] := ((Keep.refl h0 [a1]).trans (K5.trans K10 (fun x hx => Or.inr (Nat.le_of_eq (List.mem_singleton.mp hx).symm)) : Keep h0 T10.heap []) all0).wr W11 (Or.inl (List.mem_of_getElem? (i:=0) rfl))
 have N11 := Fr.snoc X11 N10 g_a1
 obtain ⟨T12,h12,X12,e12,W12,st12⟩ := putFN X11 hx hZ hown (zW hw 74 rfl) Via.refl e11 ((((F_coder_a1).keep K5 nin0).keep K10 (ninS nea nin0)).other W11 (Or.inr (slot_ne (Or.inl (zW hw 75 rfl)) (Or.inl (zW hw 73 rfl)) (by decide) (t:=.byte) (t':=(.array .byte)) (by decide) (by decide)))) ((((E_a1).keep K5).keep K10).wr W11) (Or.inl (zW hw 75 rfl)) (zW hw 59 rfl) (ty:=.byte) (v':=(.int 1)) (by decide) rfl (by decide) (g:=(mkF m 38 #[vr a1,vr h0.size] [.int 1,.ref a1])) rfl rfl (D 22 rfl)
 have Fw12 := ((((F_coder_a1).keep K5 nin0).keep K10 (ninS nea nin0)).other W11 (Or.inr (slot_ne (Or.inl (zW hw 75 rfl)) (Or.inl (zW hw 73 rfl)) (by decide) (t:=.byte) (t':=(.array .byte)) (by decide) (by decide)))).same W12
 have K12 : Keep h0 h12 [a1] := K11.wr W12 (Or.inl (List.mem_of_getElem? (i:=0) rfl))
 have N12 := Fr.snoc X12 N11 g_a1
 refine zL Bd X12 (ef_62 m a1) none (fun _ => rfl) (by decide) (by decide) (fun fs hr => ?_) ?_
 · refine aN X0.here hx rfl (D 0 rfl) rfl rfl (st2.trans (fY X2.here hx rfl (pc0 := 4) (pc':=8) rfl (D 2 rfl) rfl ((if0 _ _).trans (feq (by decide:¬ ((own_nl false) = 0))).2) (by decide) (by decide) (aN X2.here hx rfl (D 4 rfl) rfl rfl ?_)))
   refine st4 _ (X4.arraylength hx (by rw [e4]; exact Ar_t0.1) (State.isArrayOf_alike hZ.alike Ar_t0.2.1) (g:=(mkF m 12 #[vr a1,.unset] [.ref t0])) rfl rfl (D 6 rfl) _ ?_)
   rw [len_of S_t0 N_t0]
   refine st5 _ (XS.astoreN X5.here hx rfl (D 8 rfl) rfl rfl (l':=#[vr a1,vr h0.size]) rfl (aN X5.here hx rfl (D 9 rfl) rfl rfl (st7 _ ?_)))
   refine iC X7.here hx rfl (D 11 rfl) (aN X7.here hx rfl (D 12 rfl) rfl rfl (iC X7.here hx rfl (D 13 rfl) (aN X7.here hx rfl (D 14 rfl) rfl rfl ?_)))
   refine st9 _ (st10 _ (aN X10.here hx rfl (D 17 rfl) rfl rfl (aN X10.here hx rfl (D 18 rfl) rfl rfl ?_)))
   refine st11 _ (aN X11.here hx rfl (D 20 rfl) rfl rfl (iC X11.here hx rfl (D 21 rfl) (st12 _ ?_)))
   exact X12.returnOut hx Bd.returns (D 23 rfl) hr
 · show Q62 Z a1 cs h0 n0 _ T12.heap _
   rw [e12]
   exact ⟨rfl,N12,K12,(((E_a1.keep K5).keep K10).wr W11).wr W12,Fw12,(((F_count_a1.keep K5 nin0).keep K10 (ninS nea nin0)).other W11 (Or.inr (slot_ne (Or.inl (zW hw 129 rfl)) (Or.inl (zW hw 73 rfl)) (by decide) (t:=.int) (t':=(.array .byte)) (by decide) (by decide)))).other W12 (Or.inr (slot_ne (Or.inl (zW hw 129 rfl)) (Or.inl (zW hw 75 rfl)) (by decide) (t:=.int) (t':=.byte) (by decide) (by decide))),Fw11.other W12 (Or.inr (slot_ne (Or.inl (zW hw 73 rfl)) (Or.inl (zW hw 75 rfl)) (by decide) (t:=(.array .byte)) (t':=.byte) (by decide) (by decide))),(((F_m.keep K5 nin0).keep K10 (ninS nea nin0)).other W11 (Or.inr (slot_ne (Or.inl (zW hw 341 rfl)) (Or.inl (zW hw 73 rfl)) (by decide) (t:=.boolean) (t':=(.array .byte)) (by decide) (by decide)))).other W12 (Or.inr (slot_ne (Or.inl (zW hw 341 rfl)) (Or.inl (zW hw 75 rfl)) (by decide) (t:=.boolean) (t':=.byte) (by decide) (by decide))),k5x,vs10,(V10.other W11 nea.symm).other W12 nea.symm,hv10,hcs,by rw [Nat.zero_add] at ht10; exact ht10⟩
def l30 : zl := [(0,.aload_n 0,1),(1,.aload_n 0,1),(2,.getfield 79,3),(5,.iconst 1,1),(6,.iadd,1),(7,.invokevirtual 100,3),(10,.aload_n 0,1),(11,.invokevirtual 83,3),(14,.ifCond .eq 31,3),(17,.iload_n 1,1),(18,.invokestatic 191,3),(21,.ifCond .eq 24,3),(24,.aload_n 0,1),(25,.getfield 15,3),(28,.aload_n 0,1),(29,.dup,1),(30,.getfield 79,3),(33,.dup_x1,1),(34,.iconst 1,1),(35,.iadd,1),(36,.putfield 79,3),(39,.iload_n 1,1),(40,.i2b,1),(41,.bastore,1),(42,.goto 33,3),(75,.aload_n 0,1),(76,.areturn,1),(45,.aload_n 0,1),(46,.invokevirtual 83,3),(49,.ifCond .eq 7,3),(56,.aload_n 0,1),(57,.getfield 15,3),(60,.aload_n 0,1),(61,.dup,1),(62,.getfield 79,3),(65,.dup_x1,1),(66,.iconst 1,1),(67,.iadd,1),(68,.putfield 79,3),(71,.iload_n 1,1),(72,.invokestatic 197,3)]
theorem D30 : zq jdk_68_method_31_code l30 := zd (by decide +kernel)
theorem pd_30_18 : parseMethodDescriptor "(C)Z" = some ⟨[.char],some .boolean⟩ := by decide +kernel
theorem r30l (l:Launch) (Z:State) (a0:Array Value) (hw:zH Z a0) (ws:List Jvm.Cond) (a1:Addr) (p2:Int32) (t0:Addr) (cs:List Int32) (h0:Heap) (n0:Nat) (Z0:n0 ≤ h0.size) (SB:own_SB Z h0 a1 false cs t0) (g_a1:n0 ≤ a1) (g_t0:n0 ≤ t0) (O:Old Z n0 h0) (SWz:own_SW Z Z.heap) (hp2:¬ (255:Int32) < p2) (hq:cs.length + 1 ≤ 96) :
   zM l Z h0 ws y_16 jdk_68_method_31_code 2 (some (.object "java/lang/AbstractStringBuilder")) (zr 4 0 0 55) #[.ref a1,.int p2] (QA Z a1 t0 false (cs ++ [p2]) h0 n0) := by
 refine zE pn_26 rfl fun p e s m below meth c s₁ Bd hx hby hml hown hZ X0 e0 => ?_
 obtain ⟨E_a1,F_coder_a1,F_count_a1,F_value_a1,F_m,kd,vd,B,hvd,hcs,htk⟩ := id SB
 have SWh := SWz.ext O.2
 obtain ⟨zc,fm,SC,hz,S_F,rf,SA,SH,SL⟩ := id SWh
 have hn2 : a1 ≠ t0 := Exa.neArv E_a1 B (zW hw 59 rfl)
 have x1 : (I cs.length).toNatClampNeg = cs.length := own_cl _ (by omega)
 have D := D30 Bd.bytes
 have N0 := Fr.nil n0
 obtain ⟨T4,X4,e4,st4⟩ := getF X0 hx hZ hown (host:="") (Or.inl (zW hw 128 rfl)) Via.refl e0 F_count_a1 (g:=(mkF m 2 #[vr a1,vi p2] [.ref a1,.ref a1])) rfl rfl (D 2 rfl)
 obtain ⟨cq5,q5,q5'⟩ := E_a1.cell
 obtain ⟨_,_,⟨T5,L5,k5,n5⟩,-,X5,⟨Lc5,hQ5,l5,y5,z5⟩,st5⟩ := X4.privateBack hx (y:=y_14) hown (zT hZ hw 130 rfl) (zT hZ hw 131 rfl) (mvT hZ (own_selP (zW hw 133 rfl) (zW hw 132 rfl) (zW hw 131 rfl) (by decide))) (Cond.privateMethod_at (mvP hZ (zW hw 132 rfl) (args:=#[]))) (zT hZ hw 134 rfl) (by decide) (backOf (W:=0) (r24 l Z a0 hw [] a1 ((I cs.length) + 1) t0 false cs (cs.length + 1) h0 n0 Z0 (own_succ _) SB hq) hZ (zW hw 134 rfl) (zW hw 68 rfl) (by decide) (by decide)) (g:=(mkF m 7 #[vr a1,vi p2] [(.int ((I cs.length) + 1)),.ref a1])) rfl (by rw [hml]; rfl) (Steps.refl _) (a:=a1) (by rw [e4]; exact q5) q5' (argsL:=[(.int ((I cs.length) + 1))]) (rest:=[]) (lenOf pd_12_11 rfl) rfl (Nat.le_of_eq rfl) (D 5 rfl) (fun _ _ => ⟨rfl,e4,(by decide:0 + 0 ≤ _),(by decide:0 + 0 ≤ _)⟩)
 dsimp only [Pt.U,Pt.locs,Pt.cells,Pt.slots] at X5 l5 y5 z5 st5 hQ5
 subst l5 y5 z5
 obtain ⟨rfl,N5q,e5⟩ := hQ5
 have N5 := Fr.app N0 N5q
 obtain ⟨cq6,kq6,q6a,q6b,q6c⟩ := isOf hZ e5 (E_a1)
 obtain ⟨_,T6,Lc6,X6,hQ6,st6⟩ := zU X5 hx hZ hown (zW hw 141 rfl) (zW hw 142 rfl) (zW hw 144 rfl) (zW hw 143 rfl) (by decide) (backOf (W:=0) (r26 l Z a0 hw [] a1 zc false h0 n0 Z0 SC F_coder_a1 hz) hZ (zW hw 145 rfl) (zW hw 68 rfl) (by decide) (by decide)) q6a q6c (g:=(mkF m 11 #[vr a1,vi p2] [.ref a1])) rfl (by rw [hml]; rfl) (argsL:=[]) (rest:=[]) (lenOf pd_15_14 rfl) rfl (Nat.le_of_eq rfl) (D 7 rfl) rfl e5 (by decide:0 + 0 ≤ _) (by decide:0 + 0 ≤ _)
 obtain ⟨rfl,N6q,e6⟩ := hQ6
 have N6 := Fr.app N5 N6q
 obtain ⟨_,T7,Lc7,X7,hQ7,st7⟩ := zS X6 hx hZ hown (zW hw 169 rfl) (zW hw 170 rfl) (zW hw 91 rfl) (zW hw 171 rfl) (by decide) (r31l l Z a0 hw [] p2 h0 n0 Z0 hp2) (by decide) (by decide) (W:=0) (g:=(mkF m 18 #[vr a1,vi p2] [.int p2])) rfl (by rw [hml]; rfl) (argsL:=[.int p2]) (rest:=[]) (lenOf pd_30_18 rfl) rfl (Nat.le_of_eq rfl) (D 10 rfl) rfl e6 (by decide:0 + 0 ≤ _) (by decide:0 + 0 ≤ _)
 obtain ⟨rfl,N7q,e7⟩ := hQ7
 have N7 := Fr.app N6 N7q
 obtain ⟨T9,X9,e9,st9⟩ := getF X7 hx hZ hown (host:="") (Or.inl (zW hw 72 rfl)) Via.refl e7 (((F_value_a1))) (g:=(mkF m 25 #[vr a1,vi p2] [.ref a1])) rfl rfl (D 13 rfl)
 obtain ⟨T11,X11,e11,st11⟩ := getF X9 hx hZ hown (host:="") (Or.inl (zW hw 128 rfl)) Via.refl e9 (((F_count_a1))) (g:=(mkF m 30 #[vr a1,vi p2] [.ref a1,.ref a1,.ref t0])) rfl rfl (D 16 rfl)
 obtain ⟨T12,h12,X12,e12,W12,st12⟩ := putF X11 hx hZ hown (host:="") (Or.inl (zW hw 128 rfl)) Via.refl e11 (((F_count_a1))) (((E_a1))) (Or.inl (zW hw 129 rfl)) (zW hw 59 rfl) (ty:=.int) (by decide) rfl rfl (g:=(mkF m 36 #[vr a1,vi p2] [(.int ((I cs.length) + 1)),.ref a1,(.int (I cs.length)),.ref t0])) rfl rfl (D 20 rfl)
 have Fw12 := (((F_count_a1))).same W12
 have K12 : Keep h0 h12 [a1,t0] := (Keep.refl h0 [a1,t0]).wr W12 (Or.inl (List.mem_of_getElem? (i:=0) rfl))
 have N12 := Fr.snoc X12 N7 g_a1
 have B12 := B.other W12 hn2.symm
 obtain ⟨cl_t0,Ar_t0,qb,S_t0,N_t0,Hb,Gb⟩ := id B12
 have hin41 : ¬ ((I cs.length) < 0 ∨ cl_t0.slots.size ≤ ((I cs.length)).toNatClampNeg) := by rw [S_t0,x1,own_cl _ (by decide)]; intro q_; rcases q_ with q_ | q_; exact own_nn _ (by omega) q_; exact absurd q_ (by show ¬ 96 ≤ cs.length; omega)
 obtain ⟨T13,h13,X13,e13,W13,st13⟩ := stB X12 hx hZ e12 Ar_t0 (j:=(I cs.length)) hin41 (g:=(mkF m 41 #[vr a1,vi p2] [(.int (p2.toInt8.toInt32)),(.int (I cs.length)),.ref t0])) rfl rfl (D 23 rfl)
 have N13 := Fr.snoc X13 N12 g_t0
 have K13 : Keep h0 h13 [a1,t0] := K12.wr W13 (Or.inl (List.mem_of_getElem? (i:=1) rfl))
 refine zL Bd X13 (ef_58 m a1 p2) (some (.ref a1)) nofun (by decide) (by decide) (fun fs hr => ?_) ?_
 · refine aN X0.here hx rfl (D 0 rfl) rfl rfl (aN X0.here hx rfl (D 1 rfl) rfl rfl (st4 _ (iC X4.here hx rfl (D 3 rfl) ?_)))
   refine iA X4.here hx rfl (D 4 rfl) rfl (st5.trans (aN X5.here hx rfl (D 6 rfl) rfl rfl (st6.trans ?_)))
   refine fN X6.here hx rfl (D 8 rfl) rfl ((if0 _ _).trans (feq (by decide:¬ ((own_nl false) = 0))).1) (iN X6.here hx rfl (D 9 rfl) rfl (st7 _ (fN X7.here hx rfl (D 11 rfl) rfl ((if0 _ _).trans (feq (by decide:¬ ((1:Int32) = 0))).1) ?_)))
   refine aN X7.here hx rfl (D 12 rfl) rfl rfl (st9 _ (aN X9.here hx rfl (D 14 rfl) rfl rfl (XS.dup X9.here hx rfl (D 15 rfl) rfl rfl ?_)))
   refine st11 _ (XS.dupX1 X11.here hx rfl (D 17 rfl) rfl rfl rfl (iC X11.here hx rfl (D 18 rfl) (iA X11.here hx rfl (D 19 rfl) rfl ?_)))
   refine st12 _ (iN X12.here hx rfl (D 21 rfl) rfl (XS.i2b X12.here hx rfl (D 22 rfl) rfl (st13 _ ?_)))
   refine gT X13.here hx rfl (pc0 := 42) (pc':=75) rfl (D 24 rfl) (by decide) (by decide) (aN X13.here hx rfl (D 25 rfl) rfl rfl ?_)
   jvm_step X13.here [X13.here.top,hx,(D 26 rfl),X13.method',Bd.returns,Value.isRef,FieldType.isReference]
   first | (intro acts; rw [hr _ acts rfl rfl rfl]) | rw [hr _ _ rfl rfl rfl]
   exact Steps.refl _
 · show QA Z a1 t0 false (cs ++ [p2]) h0 n0 _ T13.heap _
   rw [e13]
   have V13 := Arv.set Ar_t0 qb S_t0 N_t0 Hb Gb (StrChars.fits_lo8 (StrChars.lo8 p2)) W13 cs.length x1 (by rw [hvd]; show cs.length < 96; omega)
   rw [own_lo8i p2] at V13
   refine ⟨rfl,N13,K13,t0,⟨(E_a1.wr W12).wr W13,?_,?_,?_,?_,kd,_,V13,by rw [List.length_set]; exact hvd,?_,?_⟩,Or.inl rfl⟩
   · exact (F_coder_a1.other W12 (Or.inr (slot_ne (Or.inl (zW hw 75 rfl)) (Or.inl (zW hw 129 rfl)) (by decide) (t:=.byte) (t':=.int) (by decide) (by decide)))).other W13 (Or.inl hn2)
   · rw [List.length_append,Int32.ofNat_add]; exact Fw12.other W13 (Or.inl hn2)
   · exact (F_value_a1.other W12 (Or.inr (slot_ne (Or.inl (zW hw 73 rfl)) (Or.inl (zW hw 129 rfl)) (by decide) (t:=(.array .byte)) (t':=.int) (by decide) (by decide)))).other W13 (Or.inl hn2)
   · exact (F_m.other W12 (Or.inr (slot_ne (Or.inl (zW hw 341 rfl)) (Or.inl (zW hw 129 rfl)) (by decide) (t:=.boolean) (t':=.int) (by decide) (by decide)))).other W13 (Or.inl hn2)
   · rw [List.length_append]; exact hq
   · rw [own_enc_app,← htk]
     show (vd.set cs.length _).take (1 * (cs ++ [p2]).length) = vd.take (1 * cs.length) ++ _
     rw [List.length_append,Nat.one_mul,Nat.one_mul]
     exact own_takeset _ _ _ (by rw [hvd]; show cs.length < 96; omega)
theorem r30w (l:Launch) (Z:State) (a0:Array Value) (hw:zH Z a0) (ws:List Jvm.Cond) (a1:Addr) (p2:Int32) (t0:Addr) (cs:List Int32) (h0:Heap) (n0:Nat) (Z0:n0 ≤ h0.size) (SB:own_SB Z h0 a1 true cs t0) (g_a1:n0 ≤ a1) (g_t0:n0 ≤ t0) (O:Old Z n0 h0) (SWz:own_SW Z Z.heap) (hp2:¬ (255:Int32) < p2) (hq:cs.length + 1 ≤ 96) :
   zM l Z h0 ws y_16 jdk_68_method_31_code 2 (some (.object "java/lang/AbstractStringBuilder")) (zr 4 0 0 55) #[.ref a1,.int p2] (QA Z a1 t0 true (cs ++ [p2]) h0 n0) := by
 refine zE pn_26 rfl fun p e s m below meth c s₁ Bd hx hby hml hown hZ X0 e0 => ?_
 obtain ⟨E_a1,F_coder_a1,F_count_a1,F_value_a1,F_m,kd,vd,B,hvd,hcs,htk⟩ := id SB
 have SWh := SWz.ext O.2
 obtain ⟨zc,fm,SC,hz,S_F,rf,SA,SH,SL⟩ := id SWh
 have hn2 : a1 ≠ t0 := Exa.neArv E_a1 B (zW hw 59 rfl)
 have D := D30 Bd.bytes
 have N0 := Fr.nil n0
 obtain ⟨T4,X4,e4,st4⟩ := getF X0 hx hZ hown (host:="") (Or.inl (zW hw 128 rfl)) Via.refl e0 F_count_a1 (g:=(mkF m 2 #[vr a1,vi p2] [.ref a1,.ref a1])) rfl rfl (D 2 rfl)
 obtain ⟨cq5,q5,q5'⟩ := E_a1.cell
 obtain ⟨_,_,⟨T5,L5,k5,n5⟩,-,X5,⟨Lc5,hQ5,l5,y5,z5⟩,st5⟩ := X4.privateBack hx (y:=y_14) hown (zT hZ hw 130 rfl) (zT hZ hw 131 rfl) (mvT hZ (own_selP (zW hw 133 rfl) (zW hw 132 rfl) (zW hw 131 rfl) (by decide))) (Cond.privateMethod_at (mvP hZ (zW hw 132 rfl) (args:=#[]))) (zT hZ hw 134 rfl) (by decide) (backOf (W:=0) (r24 l Z a0 hw [] a1 ((I cs.length) + 1) t0 true cs (cs.length + 1) h0 n0 Z0 (own_succ _) SB hq) hZ (zW hw 134 rfl) (zW hw 68 rfl) (by decide) (by decide)) (g:=(mkF m 7 #[vr a1,vi p2] [(.int ((I cs.length) + 1)),.ref a1])) rfl (by rw [hml]; rfl) (Steps.refl _) (a:=a1) (by rw [e4]; exact q5) q5' (argsL:=[(.int ((I cs.length) + 1))]) (rest:=[]) (lenOf pd_12_11 rfl) rfl (Nat.le_of_eq rfl) (D 5 rfl) (fun _ _ => ⟨rfl,e4,(by decide:0 + 0 ≤ _),(by decide:0 + 0 ≤ _)⟩)
 dsimp only [Pt.U,Pt.locs,Pt.cells,Pt.slots] at X5 l5 y5 z5 st5 hQ5
 subst l5 y5 z5
 obtain ⟨rfl,N5q,e5⟩ := hQ5
 have N5 := Fr.app N0 N5q
 obtain ⟨cq6,kq6,q6a,q6b,q6c⟩ := isOf hZ e5 (E_a1)
 obtain ⟨_,T6,Lc6,X6,hQ6,st6⟩ := zU X5 hx hZ hown (zW hw 141 rfl) (zW hw 142 rfl) (zW hw 144 rfl) (zW hw 143 rfl) (by decide) (backOf (W:=0) (r26 l Z a0 hw [] a1 zc true h0 n0 Z0 SC F_coder_a1 hz) hZ (zW hw 145 rfl) (zW hw 68 rfl) (by decide) (by decide)) q6a q6c (g:=(mkF m 11 #[vr a1,vi p2] [.ref a1])) rfl (by rw [hml]; rfl) (argsL:=[]) (rest:=[]) (lenOf pd_15_14 rfl) rfl (Nat.le_of_eq rfl) (D 7 rfl) rfl e5 (by decide:0 + 0 ≤ _) (by decide:0 + 0 ≤ _)
 obtain ⟨rfl,N6q,e6⟩ := hQ6
 have N6 := Fr.app N5 N6q
 obtain ⟨cq7,kq7,q7a,q7b,q7c⟩ := isOf hZ e6 ((E_a1))
 obtain ⟨_,T7,Lc7,X7,hQ7,st7⟩ := zU X6 hx hZ hown (zW hw 141 rfl) (zW hw 142 rfl) (zW hw 144 rfl) (zW hw 143 rfl) (by decide) (backOf (W:=0) (r26 l Z a0 hw [] a1 zc true h0 n0 Z0 SC F_coder_a1 hz) hZ (zW hw 145 rfl) (zW hw 68 rfl) (by decide) (by decide)) q7a q7c (g:=(mkF m 46 #[vr a1,vi p2] [.ref a1])) rfl (by rw [hml]; rfl) (argsL:=[]) (rest:=[]) (lenOf pd_15_14 rfl) rfl (Nat.le_of_eq rfl) (D 28 rfl) rfl e6 (by decide:0 + 0 ≤ _) (by decide:0 + 0 ≤ _)
 obtain ⟨rfl,N7q,e7⟩ := hQ7
 have N7 := Fr.app N6 N7q
 obtain ⟨T9,X9,e9,st9⟩ := getF X7 hx hZ hown (host:="") (Or.inl (zW hw 72 rfl)) Via.refl e7 (((F_value_a1))) (g:=(mkF m 57 #[vr a1,vi p2] [.ref a1])) rfl rfl (D 31 rfl)
 obtain ⟨T11,X11,e11,st11⟩ := getF X9 hx hZ hown (host:="") (Or.inl (zW hw 128 rfl)) Via.refl e9 (((F_count_a1))) (g:=(mkF m 62 #[vr a1,vi p2] [.ref a1,.ref a1,.ref t0])) rfl rfl (D 34 rfl)
 obtain ⟨T12,h12,X12,e12,W12,st12⟩ := putF X11 hx hZ hown (host:="") (Or.inl (zW hw 128 rfl)) Via.refl e11 (((F_count_a1))) (((E_a1))) (Or.inl (zW hw 129 rfl)) (zW hw 59 rfl) (ty:=.int) (by decide) rfl rfl (g:=(mkF m 68 #[vr a1,vi p2] [(.int ((I cs.length) + 1)),.ref a1,(.int (I cs.length)),.ref t0])) rfl rfl (D 38 rfl)
 have Fw12 := (((F_count_a1))).same W12
 have K12 : Keep h0 h12 [a1,t0] := (Keep.refl h0 [a1,t0]).wr W12 (Or.inl (List.mem_of_getElem? (i:=0) rfl))
 have N12 := Fr.snoc X12 N7 g_a1
 obtain ⟨_,T13,Lc13,X13,hQ13,st13⟩ := zS X12 hx hZ hown (zW hw 322 rfl) (zW hw 323 rfl) (zW hw 50 rfl) (zW hw 324 rfl) (by decide) (r68 l Z a0 hw [] t0 p2 kd 96 cs.length vd h12 n0 (Nat.le_trans Z0 K12.1) (by omega) (by decide) (B.other W12 hn2.symm) hvd g_t0 (SWz.ext (O.wr W12 g_a1).2)) (by decide) (by decide) (W:=0) (g:=(mkF m 72 #[vr a1,vi p2] [.int p2,(.int (I cs.length)),.ref t0])) rfl (by rw [hml]; rfl) (argsL:=[.ref t0,(.int (I cs.length)),.int p2]) (rest:=[]) (lenOf pd_54_45 rfl) rfl (Nat.le_of_eq rfl) (D 40 rfl) rfl e12 (by decide:0 + 0 ≤ _) (by decide:0 + 0 ≤ _)
 obtain ⟨rfl,N13q,K13,V13⟩ := hQ13
 have N13 := Fr.app N12 N13q
 refine zL Bd X13 (ef_58 m a1 p2) (some (.ref a1)) nofun (by decide) (by decide) (fun fs hr => ?_) ?_
 · refine aN X0.here hx rfl (D 0 rfl) rfl rfl (aN X0.here hx rfl (D 1 rfl) rfl rfl (st4 _ (iC X4.here hx rfl (D 3 rfl) ?_)))
   refine iA X4.here hx rfl (D 4 rfl) rfl (st5.trans (aN X5.here hx rfl (D 6 rfl) rfl rfl (st6.trans ?_)))
   refine fY X6.here hx rfl (pc0 := 14) (pc':=45) rfl (D 8 rfl) rfl ((if0 _ _).trans (teq (by decide:(own_nl true) = 0)).1) (by decide) (by decide) (aN X6.here hx rfl (D 27 rfl) rfl rfl (st7.trans (fY X7.here hx rfl (pc0 := 49) (pc':=56) rfl (D 29 rfl) rfl ((if0 _ _).trans (teq (by decide:(own_nl true) = 0)).1) (by decide) (by decide) ?_)))
   refine aN X7.here hx rfl (D 30 rfl) rfl rfl (st9 _ (aN X9.here hx rfl (D 32 rfl) rfl rfl (XS.dup X9.here hx rfl (D 33 rfl) rfl rfl ?_)))
   refine st11 _ (XS.dupX1 X11.here hx rfl (D 35 rfl) rfl rfl rfl (iC X11.here hx rfl (D 36 rfl) (iA X11.here hx rfl (D 37 rfl) rfl ?_)))
   refine st12 _ (iN X12.here hx rfl (D 39 rfl) rfl (st13 _ (aN X13.here hx rfl (D 25 rfl) rfl rfl ?_)))
   jvm_step X13.here [X13.here.top,hx,(D 26 rfl),X13.method',Bd.returns,Value.isRef,FieldType.isReference]
   first | (intro acts; rw [hr _ acts rfl rfl rfl]) | rw [hr _ _ rfl rfl rfl]
   exact Steps.refl _
 · show QA Z a1 t0 true (cs ++ [p2]) h0 n0 _ T13.heap _
   refine ⟨rfl,N13,K12.trans K13 (allS (Or.inl (List.mem_of_getElem? (i:=1) rfl)) all0),t0,⟨(E_a1.wr W12).keep K13,?_,?_,?_,?_,kd,_,V13,by rw [own_put_len]; exact hvd,?_,?_⟩,Or.inl rfl⟩
   · exact (F_coder_a1.other W12 (Or.inr (slot_ne (Or.inl (zW hw 75 rfl)) (Or.inl (zW hw 129 rfl)) (by decide) (t:=.byte) (t':=.int) (by decide) (by decide)))).keep K13 (ninS hn2 nin0)
   · rw [List.length_append,Int32.ofNat_add]; exact Fw12.keep K13 (ninS hn2 nin0)
   · exact (F_value_a1.other W12 (Or.inr (slot_ne (Or.inl (zW hw 73 rfl)) (Or.inl (zW hw 129 rfl)) (by decide) (t:=(.array .byte)) (t':=.int) (by decide) (by decide)))).keep K13 (ninS hn2 nin0)
   · exact (F_m.other W12 (Or.inr (slot_ne (Or.inl (zW hw 341 rfl)) (Or.inl (zW hw 129 rfl)) (by decide) (t:=.boolean) (t':=.int) (by decide) (by decide)))).keep K13 (ninS hn2 nin0)
   · rw [List.length_append]; exact hq
   · rw [List.length_append]
     exact own_put_take vd cs cs.length p2 htk (by rw [hvd]; simp only [own_k]; simp; omega)
theorem r30 (l:Launch) (Z:State) (a0:Array Value) (hw:zH Z a0) (ws:List Jvm.Cond) (a1:Addr) (p2:Int32) (t0:Addr) (w:Bool) (cs:List Int32) (h0:Heap) (n0:Nat) (Z0:n0 ≤ h0.size) (SB:own_SB Z h0 a1 w cs t0) (g_a1:n0 ≤ a1) (g_t0:n0 ≤ t0) (O:Old Z n0 h0) (SWz:own_SW Z Z.heap) (hp2:¬ (255:Int32) < p2) (hq:cs.length + 1 ≤ 96) :
   zM l Z h0 ws y_16 jdk_68_method_31_code 2 (some (.object "java/lang/AbstractStringBuilder")) (zr 4 0 0 55) #[.ref a1,.int p2] (QA Z a1 t0 w (cs ++ [p2]) h0 n0) := by
 cases w
 · exact r30l l Z a0 hw ws a1 p2 t0 cs h0 n0 Z0 SB g_a1 g_t0 O SWz hp2 hq
 · exact r30w l Z a0 hw ws a1 p2 t0 cs h0 n0 Z0 SB g_a1 g_t0 O SWz hp2 hq
def l29 : zl := [(0,.aload_n 0,1),(1,.iload_n 1,1),(2,.invokespecial 50,3),(5,.pop,1),(6,.aload_n 0,1),(7,.areturn,1)]
theorem D29 : zq jdk_67_method_14_code l29 := zd (by decide +kernel)
theorem pd_29_27 : parseMethodDescriptor "(C)Ljava/lang/AbstractStringBuilder;" = some ⟨[.char],some (.object "java/lang/AbstractStringBuilder")⟩ := by decide +kernel
theorem r29 (l:Launch) (Z:State) (a0:Array Value) (hw:zH Z a0) (ws:List Jvm.Cond) (a1:Addr) (p2:Int32) (t0:Addr) (w:Bool) (cs:List Int32) (h0:Heap) (n0:Nat) (Z0:n0 ≤ h0.size) (SB:own_SB Z h0 a1 w cs t0) (g_a1:n0 ≤ a1) (g_t0:n0 ≤ t0) (O:Old Z n0 h0) (SWz:own_SW Z Z.heap) (hp2:¬ (255:Int32) < p2) (hq:cs.length + 1 ≤ 96) :
   zM l Z h0 ws y_39 jdk_67_method_14_code 2 (some (.object "java/lang/StringBuilder")) (zr 5 0 0 68) #[.ref a1,.int p2] (QA Z a1 t0 w (cs ++ [p2]) h0 n0) := by
 refine zE pn_45 rfl fun p e s m below meth c s₁ Bd hx hby hml hown hZ X0 e0 => ?_
 have E_a1 := SB.1
 have D := D29 Bd.bytes
 have N0 := Fr.nil n0
 obtain ⟨_,_,⟨T3,L3,k3,n3⟩,-,X3,⟨Lc3,hQ3,l3,y3,z3⟩,st3⟩ := superBack X0 hx hZ (y:=y_16) hown (zW hw 165 rfl) (own_same (y:=y_16) (own_nf (notFace_of_selects (zW hw 133 rfl)) (zW hw 131 rfl) rfl) (zW hw 166 rfl) (by decide)) (zW hw 166 rfl) (zW hw 113 rfl) (by decide) (backOf (W:=0) (r30 l Z a0 hw [] a1 p2 t0 w cs h0 n0 Z0 SB g_a1 g_t0 O SWz hp2 hq) hZ (zW hw 168 rfl) (zW hw 68 rfl) (by decide) (by decide)) e0 (Ins.self E_a1) (g:=(mkF m 2 #[vr a1,vi p2] [.int p2,.ref a1])) rfl (by rw [hml]; rfl) (zW hw 168 rfl) (argsL:=[.int p2]) (rest:=[]) (lenOf pd_29_27 rfl) rfl (Nat.le_of_eq rfl) (D 2 rfl) (fun _ _ => ⟨rfl,e0,(by decide:0 + 0 ≤ _),(by decide:0 + 0 ≤ _)⟩)
 dsimp only [Pt.U,Pt.locs,Pt.cells,Pt.slots] at X3 l3 y3 z3 st3 hQ3
 subst l3 y3 z3
 obtain ⟨rfl,N3q,Qq⟩ := hQ3
 have N3 := Fr.app N0 N3q
 refine zL Bd X3 (ef_58 m a1 p2) (some (.ref a1)) nofun (by decide) (by decide) (fun fs hr => ?_) ?_
 · refine aN X0.here hx rfl (D 0 rfl) rfl rfl (iN X0.here hx rfl (D 1 rfl) rfl (st3.trans (XS.pop X3.here hx rfl (D 3 rfl) rfl rfl ?_)))
   refine aN X3.here hx rfl (D 4 rfl) rfl rfl ?_
   jvm_step X3.here [X3.here.top,hx,(D 5 rfl),X3.method',Bd.returns,Value.isRef,FieldType.isReference]
   first | (intro acts; rw [hr _ acts rfl rfl rfl]) | rw [hr _ _ rfl rfl rfl]
   exact Steps.refl _
 · show QA Z a1 t0 w (cs ++ [p2]) h0 n0 _ T3.heap _
   exact ⟨rfl,N3,Qq⟩
def l39 : zl := [(0,.getstatic 18,3),(3,.ifCond .eq 18,3),(6,.aload_n 0,1),(7,.getfield 22,3),(10,.aload_n 1,1),(11,.invokevirtual 40,3),(14,.if_icmp .eq 7,3),(21,.return_,1),(17,.aload_n 0,1),(18,.invokevirtual 195,3)]
theorem D39 : zq jdk_68_method_71_code l39 := zd (by decide +kernel)
theorem pd_39_6 : parseMethodDescriptor "()B" = some ⟨[],some .byte⟩ := by decide +kernel
theorem r39l (l:Launch) (Z:State) (a0:Array Value) (hw:zH Z a0) (ws:List Jvm.Cond) (a1:Addr) (a2:Addr) (xs:List Int32) (h0:Heap) (n0:Nat) (Z0:n0 ≤ h0.size) (E_a1:Exa Z h0 a1 "java/lang/StringBuilder") (F_coder_a1:Fld Z h0 a1 "java/lang/AbstractStringBuilder" "coder" "B" (.int (own_cd false))) (S:own_Str Z h0 a2 false xs) (SWh:own_SW Z h0) :
   zM l Z h0 ws y_27 jdk_68_method_71_code 2 none (zr 2 0 0 25) #[.ref a1,.ref a2] (QR none h0 n0) := by
 refine zE pn_26 rfl fun p e s m below meth c s₁ Bd hx hby hml hown hZ X0 e0 => ?_
 obtain ⟨E_a2,FC,-⟩ := id S
 obtain ⟨zc,fm,S_COMPACT_STRINGS,hc3,-⟩ := id SWh
 have D := D39 Bd.bytes
 have N0 := Fr.nil n0
 obtain ⟨T4,X4,e4,st4⟩ := getS2 X0 hx hZ hown (host:="") (Or.inl (zW hw 71 rfl)) Via.refl e0 S_COMPACT_STRINGS (g:=(mkF m 0 #[vr a1,vr a2] [])) rfl (D 0 rfl)
 obtain ⟨T6,X6,e6,st6⟩ := getF X4 hx hZ hown (host:="") (Or.inl (zW hw 74 rfl)) Via.refl e4 F_coder_a1 (g:=(mkF m 7 #[vr a1,vr a2] [.ref a1])) rfl rfl (D 3 rfl)
 obtain ⟨cq7,kq7,q7a,q7b,q7c⟩ := isOf hZ e6 E_a2
 obtain ⟨_,T7,Lc7,X7,hQ7,st7⟩ := zU X6 hx hZ hown (zW hw 210 rfl) (zW hw 36 rfl) (zW hw 38 rfl) (zW hw 37 rfl) (by decide) (backOf (W:=1) (r7 l Z a0 hw [] a2 zc h0 n0 Z0 S_COMPACT_STRINGS FC hc3) hZ (zW hw 39 rfl) (zW hw 7 rfl) (by decide) (by decide)) q7a q7c (g:=(mkF m 11 #[vr a1,vr a2] [.ref a2,(.int (own_cd false))])) rfl (by rw [hml]; rfl) (argsL:=[]) (rest:=[(.int (own_cd false))]) (lenOf pd_39_6 rfl) rfl (Nat.le_of_eq rfl) (D 5 rfl) rfl e6 (by decide:0 + 0 ≤ _) (by decide:0 + 0 ≤ _)
 obtain ⟨rfl,N7q,e7⟩ := hQ7
 have N7 := Fr.app N0 N7q
 refine zL Bd X7 (ef_2 m a1 a2) none (fun _ => rfl) (by decide) (by decide) (fun fs hr => ?_) ?_
 · refine st4 _ (fN X4.here hx rfl (D 1 rfl) rfl ((if0 _ _).trans (feq hc3).1) (aN X4.here hx rfl (D 2 rfl) rfl rfl (st6 _ ?_)))
   refine aN X6.here hx rfl (D 4 rfl) rfl rfl (st7.trans (cY X7.here hx rfl (pc0 := 14) (pc':=21) rfl (D 6 rfl) rfl (teq (by decide:(own_cd false) = 0)).1 (by decide) (by decide) ?_))
   exact X7.returnOut hx Bd.returns (D 7 rfl) hr
 · show QR none h0 n0 _ T7.heap _
   exact ⟨rfl,N7,e7⟩
theorem pd_39_3 : parseMethodDescriptor "()V" = some ⟨[],none⟩ := by decide +kernel
theorem r39w (l:Launch) (Z:State) (a0:Array Value) (hw:zH Z a0) (ws:List Jvm.Cond) (a1:Addr) (a2:Addr) (xs:List Int32) (h0:Heap) (n0:Nat) (Z0:n0 ≤ h0.size) (E_a1:Exa Z h0 a1 "java/lang/StringBuilder") (F_coder_a1:Fld Z h0 a1 "java/lang/AbstractStringBuilder" "coder" "B" (.int (own_cd true))) (S:own_Str Z h0 a2 false xs) (SWh:own_SW Z h0) :
   zM l Z h0 ws y_27 jdk_68_method_71_code 2 none (zr 2 0 0 25) #[.ref a1,.ref a2] (QR none h0 n0) := by
 refine zE pn_26 rfl fun p e s m below meth c s₁ Bd hx hby hml hown hZ X0 e0 => ?_
 obtain ⟨E_a2,FC,-⟩ := id S
 obtain ⟨zc,fm,S_COMPACT_STRINGS,hc3,-⟩ := id SWh
 have D := D39 Bd.bytes
 have N0 := Fr.nil n0
 obtain ⟨T4,X4,e4,st4⟩ := getS2 X0 hx hZ hown (host:="") (Or.inl (zW hw 71 rfl)) Via.refl e0 S_COMPACT_STRINGS (g:=(mkF m 0 #[vr a1,vr a2] [])) rfl (D 0 rfl)
 obtain ⟨T6,X6,e6,st6⟩ := getF X4 hx hZ hown (host:="") (Or.inl (zW hw 74 rfl)) Via.refl e4 F_coder_a1 (g:=(mkF m 7 #[vr a1,vr a2] [.ref a1])) rfl rfl (D 3 rfl)
 obtain ⟨cq7,kq7,q7a,q7b,q7c⟩ := isOf hZ e6 E_a2
 obtain ⟨_,T7,Lc7,X7,hQ7,st7⟩ := zU X6 hx hZ hown (zW hw 210 rfl) (zW hw 36 rfl) (zW hw 38 rfl) (zW hw 37 rfl) (by decide) (backOf (W:=1) (r7 l Z a0 hw [] a2 zc h0 n0 Z0 S_COMPACT_STRINGS FC hc3) hZ (zW hw 39 rfl) (zW hw 7 rfl) (by decide) (by decide)) q7a q7c (g:=(mkF m 11 #[vr a1,vr a2] [.ref a2,(.int (own_cd true))])) rfl (by rw [hml]; rfl) (argsL:=[]) (rest:=[(.int (own_cd true))]) (lenOf pd_39_6 rfl) rfl (Nat.le_of_eq rfl) (D 5 rfl) rfl e6 (by decide:0 + 0 ≤ _) (by decide:0 + 0 ≤ _)
 obtain ⟨rfl,N7q,e7⟩ := hQ7
 have N7 := Fr.app N0 N7q
 obtain ⟨cq8,q8,q8'⟩ := (E_a1).cell
 obtain ⟨_,_,⟨T8,L8,k8,n8⟩,-,X8,⟨Lc8,hQ8,l8,y8,z8⟩,st8⟩ := X7.privateBack hx (y:=y_38) hown (zT hZ hw 301 rfl) (zT hZ hw 302 rfl) (mvT hZ (own_selP (zW hw 304 rfl) (zW hw 303 rfl) (zW hw 302 rfl) (by decide))) (Cond.privateMethod_at (mvP hZ (zW hw 303 rfl) (args:=#[]))) (zT hZ hw 305 rfl) (by decide) (backOf (W:=0) (r62w l Z a0 hw [] a1 h0 n0 Z0 E_a1 F_coder_a1 SWh) hZ (zW hw 305 rfl) (zW hw 68 rfl) (by decide) (by decide)) (g:=(mkF m 18 #[vr a1,vr a2] [.ref a1])) rfl (by rw [hml]; rfl) (Steps.refl _) (a:=a1) (by rw [e7]; exact q8) q8' (argsL:=[]) (rest:=[]) (lenOf pd_39_3 rfl) rfl (Nat.le_of_eq rfl) (D 9 rfl) (fun _ _ => ⟨rfl,e7,(by decide:0 + 0 ≤ _),(by decide:0 + 0 ≤ _)⟩)
 dsimp only [Pt.U,Pt.locs,Pt.cells,Pt.slots] at X8 l8 y8 z8 st8 hQ8
 subst l8 y8 z8
 obtain ⟨rfl,N8q,e8⟩ := hQ8
 have N8 := Fr.app N7 N8q
 refine zL Bd X8 (ef_2 m a1 a2) none (fun _ => rfl) (by decide) (by decide) (fun fs hr => ?_) ?_
 · refine st4 _ (fN X4.here hx rfl (D 1 rfl) rfl ((if0 _ _).trans (feq hc3).1) (aN X4.here hx rfl (D 2 rfl) rfl rfl (st6 _ ?_)))
   refine aN X6.here hx rfl (D 4 rfl) rfl rfl (st7.trans (cN X7.here hx rfl (D 6 rfl) rfl (feq (by decide:¬ ((own_cd true) = 0))).1 (aN X7.here hx rfl (D 8 rfl) rfl rfl ?_)))
   refine st8.trans ?_
   exact X8.returnOut hx Bd.returns (D 7 rfl) hr
 · show QR none h0 n0 _ T8.heap _
   exact ⟨rfl,N8,e8⟩
theorem r39 (l:Launch) (Z:State) (a0:Array Value) (hw:zH Z a0) (ws:List Jvm.Cond) (a1:Addr) (a2:Addr) (w:Bool) (xs:List Int32) (h0:Heap) (n0:Nat) (Z0:n0 ≤ h0.size) (E_a1:Exa Z h0 a1 "java/lang/StringBuilder") (F_coder_a1:Fld Z h0 a1 "java/lang/AbstractStringBuilder" "coder" "B" (.int (own_cd w))) (S:own_Str Z h0 a2 false xs) (SWh:own_SW Z h0) :
   zM l Z h0 ws y_27 jdk_68_method_71_code 2 none (zr 2 0 0 25) #[.ref a1,.ref a2] (QR none h0 n0) := by
 cases w
 · exact r39l l Z a0 hw ws a1 a2 xs h0 n0 Z0 E_a1 F_coder_a1 S SWh
 · exact r39w l Z a0 hw ws a1 a2 xs h0 n0 Z0 E_a1 F_coder_a1 S SWh
def QB (Z:State) (a2:Addr) (kd:ClassId) (w:Bool) (cs:List Int32) (h0:Heap) (n0:Nat) (v:Option Value) (h:Heap) (L:List Loc) : Prop := v = none ∧ Fr n0 L ∧ Keep h0 h [a2] ∧ ∃ vs : List Value,Arv Z h a2 kd .byte (I (own_k w * 96)) vs (.int 0) ∧ vs.length = own_k w * 96 ∧ vs.take (own_k w * cs.length) = own_enc w cs
def l40 : zl := [(0,.aload_n 0,1),(1,.invokevirtual 335,3),(4,.iload_n 3,1),(5,.if_icmp .ne 23,3),(8,.aload_n 0,1),(9,.getfield 9,3),(12,.iconst 0,1),(13,.aload_n 1,1),(14,.iload_n 2,1),(15,.iload_n 3,1),(16,.ishl,1),(17,.aload_n 0,1),(18,.getfield 9,3),(21,.arraylength,1),(22,.invokestatic 212,3),(25,.goto 18,3),(43,.return_,1),(28,.aload_n 0,1),(29,.getfield 9,3),(32,.iconst 0,1),(33,.aload_n 1,1),(34,.iload_n 2,1),(35,.aload_n 0,1),(36,.getfield 9,3),(39,.arraylength,1),(40,.invokestatic 106,3)]
theorem D40 : zq jdk_42_method_147_code l40 := zd (by decide +kernel)
theorem ef_40 (m:MethodId) (x0:Addr) (x1:Addr) (x2:Int32) (x3:Int32) : entryFrame m #[.ref x0,.ref x1,.int x2,.int x3] 4 = mkF m 0 #[.val (.ref x0),.val (.ref x1),.val (.int x2),.val (.int x3)] [] := by first | (simp [entryFrame,mkF,argsToLocals,Value.category]; done) | rfl
theorem r40l (l:Launch) (Z:State) (a0:Array Value) (hw:zH Z a0) (ws:List Jvm.Cond) (a1:Addr) (a2:Addr) (cs xs:List Int32) (kd:ClassId) (vd:List Value) (h0:Heap) (n0:Nat) (Z0:n0 ≤ h0.size) (S:own_Str Z h0 a1 false xs) (hx2:∀ c ∈ xs,¬ c < 0 ∧ ¬ (255:Int32) < c) (hne:∀ t,Fld Z h0 a1 "java/lang/String" "value" "[B" (.ref t) → t ≠ a2) (B:Arv Z h0 a2 kd .byte (I (own_k false * 96)) vd (.int 0)) (hvd:vd.length = own_k false * 96) (htk:vd.take (own_k false * cs.length) = own_enc false cs) (g_a2:n0 ≤ a2) (hq:cs.length + xs.length ≤ 96) (O:Old Z n0 h0) (SWz:own_SW Z Z.heap) :
   zM l Z h0 ws y_17 jdk_42_method_147_code 4 none (zr 5 0 0 76) #[.ref a1,.ref a2,(.int (I cs.length)),(.int (own_cd false))] (QB Z a2 kd false (cs ++ xs) h0 n0) := by
 refine zE pn_7 rfl fun p e s m below meth c s₁ Bd hx hby hml hown hZ X0 e0 => ?_
 obtain ⟨E_a1,FC,ta,ka,F_value_a1,VA0⟩ := id S
 have VA : Arv Z h0 ta ka .byte (I xs.length) (own_by xs) (.int 0) := by rw [← Nat.one_mul xs.length]; exact VA0
 obtain ⟨cl_ta,Ar_ta,qa,S_ta,N_ta,Ha,Ga⟩ := id VA
 obtain ⟨zc,fm,SC,hz,-⟩ := SWz.ext O.2
 have x1 : (I xs.length).toNatClampNeg = xs.length := own_cl _ (by omega)
 have x2 : (I cs.length).toNatClampNeg = cs.length := own_cl _ (by omega)
 have x3 : (I (own_k false * 96)).toNatClampNeg = 96 := by decide
 have el0 : (I cs.length) <<< ((own_cd false) &&& 31) = (I cs.length) := own_l0 _
 have hp2 : ¬ ((I cs.length) <<< ((own_cd false) &&& 31)) < 0 := by rw [el0]; exact own_nn _ (by omega)
 have hp3 : ¬ (I xs.length) < 0 := own_nn _ (by omega)
 have D := D40 Bd.bytes
 have N0 := Fr.nil n0
 obtain ⟨cq5,kq5,q5a,q5b,q5c⟩ := isOf hZ e0 E_a1
 obtain ⟨_,T5,Lc5,X5,hQ5,st5⟩ := zU X0 hx hZ hown (zW hw 35 rfl) (zW hw 36 rfl) (zW hw 38 rfl) (zW hw 37 rfl) (by decide) (backOf (W:=0) (r7 l Z a0 hw [] a1 zc h0 n0 Z0 SC FC hz) hZ (zW hw 39 rfl) (zW hw 7 rfl) (by decide) (by decide)) q5a q5c (g:=(mkF m 1 #[vr a1,vr a2,vi (I cs.length),vi (own_cd false)] [.ref a1])) rfl (by rw [hml]; rfl) (argsL:=[]) (rest:=[]) (lenOf pd_39_6 rfl) rfl (Nat.le_of_eq rfl) (D 1 rfl) rfl e0 (by decide:0 + 0 ≤ _) (by decide:0 + 0 ≤ _)
 obtain ⟨rfl,N5q,e5⟩ := hQ5
 have N5 := Fr.app N0 N5q
 obtain ⟨T7,X7,e7,st7⟩ := getF X5 hx hZ hown (host:="") (Or.inl (zW hw 24 rfl)) Via.refl e5 (F_value_a1) (g:=(mkF m 9 #[vr a1,vr a2,vi (I cs.length),vi (own_cd false)] [.ref a1])) rfl rfl (D 5 rfl)
 obtain ⟨T8,X8,e8,st8⟩ := getF X7 hx hZ hown (host:="") (Or.inl (zW hw 24 rfl)) Via.refl e7 (F_value_a1) (g:=(mkF m 18 #[vr a1,vr a2,vi (I cs.length),vi (own_cd false)] [.ref a1,(.int ((I cs.length) <<< ((own_cd false) &&& 31))),.ref a2,.int 0,.ref ta])) rfl rfl (D 12 rfl)
 obtain ⟨T9,h9,L9,X9,e9,N9,K9,V9,st9⟩ := cpA X8 hx hZ hown (zW hw 216 rfl) (zW hw 155 rfl) (zW hw 153 rfl) (zW hw 154 rfl) e8 VA B (Or.inl ⟨rfl,rfl⟩) (by decide) hp2 hp3 (by rw [x1]; exact Nat.le_of_eq (Nat.zero_add _)) (by rw [el0,x1,x2,x3]; exact hq) rfl (by rw [el0,x1,x2,hvd]; exact hq) N5 g_a2 (g:=(mkF m 22 #[vr a1,vr a2,vi (I cs.length),vi (own_cd false)] [(.int (I xs.length)),(.int ((I cs.length) <<< ((own_cd false) &&& 31))),.ref a2,.int 0,.ref ta])) rfl (by rw [hml]; rfl) (rest:=[]) rfl (D 14 rfl) (by decide) (W:=0) (Nat.le_of_eq rfl) (by decide)
 refine zL Bd X9 (ef_40 m a1 a2 (I cs.length) (own_cd false)) none (fun _ => rfl) (by decide) (by decide) (fun fs hr => ?_) ?_
 · refine aN X0.here hx rfl (D 0 rfl) rfl rfl (st5.trans (iN X5.here hx rfl (D 2 rfl) rfl (cN X5.here hx rfl (D 3 rfl) rfl (teq (rfl:(0:Int32) = (own_cd false))).2 ?_)))
   refine aN X5.here hx rfl (D 4 rfl) rfl rfl (st7 _ (iC X7.here hx rfl (D 6 rfl) (aN X7.here hx rfl (D 7 rfl) rfl rfl ?_)))
   refine iN X7.here hx rfl (D 8 rfl) rfl (iN X7.here hx rfl (D 9 rfl) rfl (XS.ishl X7.here hx rfl (D 10 rfl) rfl (aN X7.here hx rfl (D 11 rfl) rfl rfl ?_)))
   refine st8 _ (X8.arraylength hx (by rw [e8]; exact Ar_ta.1) (State.isArrayOf_alike hZ.alike Ar_ta.2.1) (g:=(mkF m 21 #[vr a1,vr a2,vi (I cs.length),vi (own_cd false)] [.ref ta,(.int ((I cs.length) <<< ((own_cd false) &&& 31))),.ref a2,.int 0,.ref ta])) rfl rfl (D 13 rfl) _ ?_)
   rw [len_of S_ta N_ta]
   refine st9 _ (gT X9.here hx rfl (pc0 := 25) (pc':=43) rfl (D 15 rfl) (by decide) (by decide) ?_)
   exact X9.returnOut hx Bd.returns (D 16 rfl) hr
 · show QB Z a2 kd false (cs ++ xs) h0 n0 _ T9.heap _
   rw [el0,x1,x2] at V9
   have e0_ : (0:Int32).toNatClampNeg = 0 := by decide
   simp only [e0_] at V9
   rw [own_rng (own_by xs) _ xs.length (own_by_len xs)] at V9
   have htk' : vd.take cs.length = own_by cs := by rw [← Nat.one_mul cs.length]; exact htk
   obtain ⟨hl9,ht9⟩ := own_takesplice vd (own_by cs) (own_by xs) cs.length xs.length 96 hvd htk' (own_by_len cs) (own_by_len xs) hq
   refine ⟨rfl,N9,by rw [e9]; exact K9,_,by rw [e9]; exact V9,hl9,?_⟩
   rw [List.length_append,own_enc_app]
   show List.take (1 * (cs.length + xs.length)) _ = _
   rw [Nat.one_mul]; exact ht9
theorem r40w (l:Launch) (Z:State) (a0:Array Value) (hw:zH Z a0) (ws:List Jvm.Cond) (a1:Addr) (a2:Addr) (cs xs:List Int32) (kd:ClassId) (vd:List Value) (h0:Heap) (n0:Nat) (Z0:n0 ≤ h0.size) (S:own_Str Z h0 a1 false xs) (hx2:∀ c ∈ xs,¬ c < 0 ∧ ¬ (255:Int32) < c) (hne:∀ t,Fld Z h0 a1 "java/lang/String" "value" "[B" (.ref t) → t ≠ a2) (B:Arv Z h0 a2 kd .byte (I (own_k true * 96)) vd (.int 0)) (hvd:vd.length = own_k true * 96) (htk:vd.take (own_k true * cs.length) = own_enc true cs) (g_a2:n0 ≤ a2) (hq:cs.length + xs.length ≤ 96) (O:Old Z n0 h0) (SWz:own_SW Z Z.heap) :
   zM l Z h0 ws y_17 jdk_42_method_147_code 4 none (zr 5 0 0 76) #[.ref a1,.ref a2,(.int (I cs.length)),(.int (own_cd true))] (QB Z a2 kd true (cs ++ xs) h0 n0) := by
 refine zE pn_7 rfl fun p e s m below meth c s₁ Bd hx hby hml hown hZ X0 e0 => ?_
 obtain ⟨E_a1,FC,ta,ka,F_value_a1,VA0⟩ := id S
 have VA : Arv Z h0 ta ka .byte (I xs.length) (own_by xs) (.int 0) := by rw [← Nat.one_mul xs.length]; exact VA0
 obtain ⟨cl_ta,Ar_ta,qa,S_ta,N_ta,Ha,Ga⟩ := id VA
 obtain ⟨zc,fm,SC,hz,-⟩ := SWz.ext O.2
 have D := D40 Bd.bytes
 have N0 := Fr.nil n0
 obtain ⟨cq5,kq5,q5a,q5b,q5c⟩ := isOf hZ e0 E_a1
 obtain ⟨_,T5,Lc5,X5,hQ5,st5⟩ := zU X0 hx hZ hown (zW hw 35 rfl) (zW hw 36 rfl) (zW hw 38 rfl) (zW hw 37 rfl) (by decide) (backOf (W:=0) (r7 l Z a0 hw [] a1 zc h0 n0 Z0 SC FC hz) hZ (zW hw 39 rfl) (zW hw 7 rfl) (by decide) (by decide)) q5a q5c (g:=(mkF m 1 #[vr a1,vr a2,vi (I cs.length),vi (own_cd true)] [.ref a1])) rfl (by rw [hml]; rfl) (argsL:=[]) (rest:=[]) (lenOf pd_39_6 rfl) rfl (Nat.le_of_eq rfl) (D 1 rfl) rfl e0 (by decide:0 + 0 ≤ _) (by decide:0 + 0 ≤ _)
 obtain ⟨rfl,N5q,e5⟩ := hQ5
 have N5 := Fr.app N0 N5q
 obtain ⟨T7,X7,e7,st7⟩ := getF X5 hx hZ hown (host:="") (Or.inl (zW hw 24 rfl)) Via.refl e5 (F_value_a1) (g:=(mkF m 29 #[vr a1,vr a2,vi (I cs.length),vi (own_cd true)] [.ref a1])) rfl rfl (D 18 rfl)
 obtain ⟨T8,X8,e8,st8⟩ := getF X7 hx hZ hown (host:="") (Or.inl (zW hw 24 rfl)) Via.refl e7 (F_value_a1) (g:=(mkF m 36 #[vr a1,vr a2,vi (I cs.length),vi (own_cd true)] [.ref a1,(.int (I cs.length)),.ref a2,.int 0,.ref ta])) rfl rfl (D 23 rfl)
 obtain ⟨_,T9,Lc9,X9,hQ9,st9⟩ := zS X8 hx hZ hown (zW hw 339 rfl) (zW hw 308 rfl) (zW hw 91 rfl) (zW hw 309 rfl) (by decide) (r63 l Z a0 hw [] ta a2 cs xs xs.length 96 cs.length ka kd (own_by xs) vd h0 n0 Z0 hq (by decide) hx2 (Nat.le_refl _) (by omega) VA (by rw [← own_by_len xs,List.take_length]) B hvd htk (hne ta F_value_a1) g_a2 O SWz) (by decide) (by decide) (W:=0) (g:=(mkF m 40 #[vr a1,vr a2,vi (I cs.length),vi (own_cd true)] [(.int (I xs.length)),(.int (I cs.length)),.ref a2,.int 0,.ref ta])) rfl (by rw [hml]; rfl) (argsL:=[.ref ta,.int 0,.ref a2,(.int (I cs.length)),(.int (I xs.length))]) (rest:=[]) (lenOf pd_63_48 rfl) rfl (Nat.le_of_eq rfl) (D 25 rfl) rfl e8 (by decide:0 + 0 ≤ _) (by decide:0 + 0 ≤ _)
 obtain ⟨rfl,N9q,K9,vs9,V9,hv9,ht9⟩ := hQ9
 have N9 := Fr.app N5 N9q
 refine zL Bd X9 (ef_40 m a1 a2 (I cs.length) (own_cd true)) none (fun _ => rfl) (by decide) (by decide) (fun fs hr => ?_) ?_
 · refine aN X0.here hx rfl (D 0 rfl) rfl rfl (st5.trans (iN X5.here hx rfl (D 2 rfl) rfl (cY X5.here hx rfl (pc0 := 5) (pc':=28) rfl (D 3 rfl) rfl (feq (by decide:¬ ((0:Int32) = (own_cd true)))).2 (by decide) (by decide) ?_)))
   refine aN X5.here hx rfl (D 17 rfl) rfl rfl (st7 _ (iC X7.here hx rfl (D 19 rfl) (aN X7.here hx rfl (D 20 rfl) rfl rfl ?_)))
   refine iN X7.here hx rfl (D 21 rfl) rfl (aN X7.here hx rfl (D 22 rfl) rfl rfl (st8 _ (X8.arraylength hx (by rw [e8]; exact Ar_ta.1) (State.isArrayOf_alike hZ.alike Ar_ta.2.1) (g:=(mkF m 39 #[vr a1,vr a2,vi (I cs.length),vi (own_cd true)] [.ref ta,(.int (I cs.length)),.ref a2,.int 0,.ref ta])) rfl rfl (D 24 rfl) _ ?_)))
   rw [len_of S_ta N_ta]
   refine st9 _ ?_
   exact X9.returnOut hx Bd.returns (D 16 rfl) hr
 · show QB Z a2 kd true (cs ++ xs) h0 n0 _ T9.heap _
   exact ⟨rfl,N9,K9,vs9,V9,hv9,by rw [List.length_append]; exact ht9⟩
theorem r40 (l:Launch) (Z:State) (a0:Array Value) (hw:zH Z a0) (ws:List Jvm.Cond) (a1:Addr) (a2:Addr) (w:Bool) (cs xs:List Int32) (kd:ClassId) (vd:List Value) (h0:Heap) (n0:Nat) (Z0:n0 ≤ h0.size) (S:own_Str Z h0 a1 false xs) (hx2:∀ c ∈ xs,¬ c < 0 ∧ ¬ (255:Int32) < c) (hne:∀ t,Fld Z h0 a1 "java/lang/String" "value" "[B" (.ref t) → t ≠ a2) (B:Arv Z h0 a2 kd .byte (I (own_k w * 96)) vd (.int 0)) (hvd:vd.length = own_k w * 96) (htk:vd.take (own_k w * cs.length) = own_enc w cs) (g_a2:n0 ≤ a2) (hq:cs.length + xs.length ≤ 96) (O:Old Z n0 h0) (SWz:own_SW Z Z.heap) :
   zM l Z h0 ws y_17 jdk_42_method_147_code 4 none (zr 5 0 0 76) #[.ref a1,.ref a2,(.int (I cs.length)),(.int (own_cd w))] (QB Z a2 kd w (cs ++ xs) h0 n0) := by
 cases w
 · exact r40l l Z a0 hw ws a1 a2 cs xs kd vd h0 n0 Z0 S hx2 hne B hvd htk g_a2 hq O SWz
 · exact r40w l Z a0 hw ws a1 a2 cs xs kd vd h0 n0 Z0 S hx2 hne B hvd htk g_a2 hq O SWz
def l38 : zl := [(0,.aload_n 0,1),(1,.aload_n 2,1),(2,.invokevirtual 397,3),(5,.aload_n 2,1),(6,.aload_n 0,1),(7,.getfield 15,3),(10,.iload_n 1,1),(11,.aload_n 0,1),(12,.getfield 22,3),(15,.invokevirtual 399,3),(18,.return_,1)]
theorem D38 : zq jdk_68_method_73_code l38 := zd (by decide +kernel)
theorem pd_38_35 : parseMethodDescriptor "(Ljava/lang/String;)V" = some ⟨[(.object "java/lang/String")],none⟩ := by decide +kernel
theorem pd_38_36 : parseMethodDescriptor "([BIB)V" = some ⟨[(.array .byte),.int,.byte],none⟩ := by decide +kernel
theorem ef_38 (m:MethodId) (x0:Addr) (x1:Int32) (x2:Addr) : entryFrame m #[.ref x0,.int x1,.ref x2] 3 = mkF m 0 #[.val (.ref x0),.val (.int x1),.val (.ref x2)] [] := by first | (simp [entryFrame,mkF,argsToLocals,Value.category]; done) | rfl
theorem r38 (l:Launch) (Z:State) (a0:Array Value) (hw:zH Z a0) (ws:List Jvm.Cond) (a1:Addr) (a3:Addr) (t0:Addr) (w:Bool) (cs xs:List Int32) (kd:ClassId) (vd:List Value) (h0:Heap) (n0:Nat) (Z0:n0 ≤ h0.size) (E_a1:Exa Z h0 a1 "java/lang/StringBuilder") (F_value_a1:Fld Z h0 a1 "java/lang/AbstractStringBuilder" "value" "[B" (.ref t0)) (F_coder_a1:Fld Z h0 a1 "java/lang/AbstractStringBuilder" "coder" "B" (.int (own_cd w))) (S:own_Str Z h0 a3 false xs) (hx2:∀ c ∈ xs,¬ c < 0 ∧ ¬ (255:Int32) < c) (hne:∀ t,Fld Z h0 a3 "java/lang/String" "value" "[B" (.ref t) → t ≠ t0) (B:Arv Z h0 t0 kd .byte (I (own_k w * 96)) vd (.int 0)) (hvd:vd.length = own_k w * 96) (htk:vd.take (own_k w * cs.length) = own_enc w cs) (g_t0:n0 ≤ t0) (hq:cs.length + xs.length ≤ 96) (O:Old Z n0 h0) (SWz:own_SW Z Z.heap) :
   zM l Z h0 ws y_66 jdk_68_method_73_code 3 none (zr 6 0 0 91) #[.ref a1,(.int (I cs.length)),.ref a3] (QB Z t0 kd w (cs ++ xs) h0 n0) := by
 refine zE pn_26 rfl fun p e s m below meth c s₁ Bd hx hby hml hown hZ X0 e0 => ?_
 have E_a3 := S.1
 have D := D38 Bd.bytes
 have N0 := Fr.nil n0
 obtain ⟨cq4,q4,q4'⟩ := E_a1.cell
 obtain ⟨_,_,⟨T4,L4,k4,n4⟩,-,X4,⟨Lc4,hQ4,l4,y4,z4⟩,st4⟩ := X0.privateBack hx (y:=y_27) hown (zT hZ hw 205 rfl) (zT hZ hw 206 rfl) (mvT hZ (own_selP (zW hw 208 rfl) (zW hw 207 rfl) (zW hw 206 rfl) (by decide))) (Cond.privateMethod_at (mvP hZ (zW hw 207 rfl) (args:=#[]))) (zT hZ hw 209 rfl) (by decide) (backOf (W:=0) (r39 l Z a0 hw [] a1 a3 w xs h0 n0 Z0 E_a1 F_coder_a1 S (SWz.ext O.2)) hZ (zW hw 209 rfl) (zW hw 68 rfl) (by decide) (by decide)) (g:=(mkF m 2 #[vr a1,vi (I cs.length),vr a3] [.ref a3,.ref a1])) rfl (by rw [hml]; rfl) (Steps.refl _) (a:=a1) (by rw [e0]; exact q4) q4' (argsL:=[.ref a3]) (rest:=[]) (lenOf pd_38_35 rfl) rfl (Nat.le_of_eq rfl) (D 2 rfl) (fun _ _ => ⟨rfl,e0,(by decide:0 + 0 ≤ _),(by decide:0 + 0 ≤ _)⟩)
 dsimp only [Pt.U,Pt.locs,Pt.cells,Pt.slots] at X4 l4 y4 z4 st4 hQ4
 subst l4 y4 z4
 obtain ⟨rfl,N4q,e4⟩ := hQ4
 have N4 := Fr.app N0 N4q
 obtain ⟨T6,X6,e6,st6⟩ := getF X4 hx hZ hown (host:="") (Or.inl (zW hw 72 rfl)) Via.refl e4 (F_value_a1) (g:=(mkF m 7 #[vr a1,vi (I cs.length),vr a3] [.ref a1,.ref a3])) rfl rfl (D 5 rfl)
 obtain ⟨T8,X8,e8,st8⟩ := getF X6 hx hZ hown (host:="") (Or.inl (zW hw 74 rfl)) Via.refl e6 (F_coder_a1) (g:=(mkF m 12 #[vr a1,vi (I cs.length),vr a3] [.ref a1,(.int (I cs.length)),.ref t0,.ref a3])) rfl rfl (D 8 rfl)
 obtain ⟨cq9,kq9,q9a,q9b,q9c⟩ := isOf hZ e8 (E_a3)
 obtain ⟨_,T9,Lc9,X9,hQ9,st9⟩ := zU X8 hx hZ hown (zW hw 211 rfl) (zW hw 212 rfl) (zW hw 214 rfl) (zW hw 213 rfl) (by decide) (backOf (W:=0) (r40 l Z a0 hw [] a3 t0 w cs xs kd vd h0 n0 Z0 S hx2 hne B hvd htk g_t0 hq O SWz) hZ (zW hw 215 rfl) (zW hw 7 rfl) (by decide) (by decide)) q9a q9c (g:=(mkF m 15 #[vr a1,vi (I cs.length),vr a3] [(.int (own_cd w)),(.int (I cs.length)),.ref t0,.ref a3])) rfl (by rw [hml]; rfl) (argsL:=[.ref t0,(.int (I cs.length)),(.int (own_cd w))]) (rest:=[]) (lenOf pd_38_36 rfl) rfl (Nat.le_of_eq rfl) (D 9 rfl) rfl e8 (by decide:0 + 0 ≤ _) (by decide:0 + 0 ≤ _)
 obtain ⟨rfl,N9q,Qq⟩ := hQ9
 have N9 := Fr.app N4 N9q
 refine zL Bd X9 (ef_38 m a1 (I cs.length) a3) none (fun _ => rfl) (by decide) (by decide) (fun fs hr => ?_) ?_
 · refine aN X0.here hx rfl (D 0 rfl) rfl rfl (aN X0.here hx rfl (D 1 rfl) rfl rfl (st4.trans (aN X4.here hx rfl (D 3 rfl) rfl rfl ?_)))
   refine aN X4.here hx rfl (D 4 rfl) rfl rfl (st6 _ (iN X6.here hx rfl (D 6 rfl) rfl (aN X6.here hx rfl (D 7 rfl) rfl rfl ?_)))
   refine st8 _ (st9.trans ?_)
   exact X9.returnOut hx Bd.returns (D 10 rfl) hr
 · show QB Z t0 kd w (cs ++ xs) h0 n0 _ T9.heap _
   exact ⟨rfl,N9,Qq⟩
theorem own_lat {xs:List Int32} (h:own_wd xs = false) (hc:own_C xs) : ∀ c ∈ xs,¬ c < 0 ∧ ¬ (255:Int32) < c := fun c hm => ⟨(hc c hm).1,own_wd_f h c hm⟩
def l37 : zl := [(0,.aload_n 1,1),(1,.ifnonnull 8,3),(9,.aload_n 1,1),(10,.invokevirtual 32,3),(13,.istore_n 2,1),(14,.aload_n 0,1),(15,.aload_n 0,1),(16,.getfield 79,3),(19,.iload_n 2,1),(20,.iadd,1),(21,.invokevirtual 100,3),(24,.aload_n 0,1),(25,.aload_n 0,1),(26,.getfield 79,3),(29,.aload_n 1,1),(30,.invokevirtual 208,3),(33,.aload_n 0,1),(34,.dup,1),(35,.getfield 79,3),(38,.iload_n 2,1),(39,.iadd,1),(40,.putfield 79,3),(43,.aload_n 0,1),(44,.areturn,1)]
theorem D37 : zq jdk_68_method_22_code l37 := zd (by decide +kernel)
theorem pd_37_34 : parseMethodDescriptor "(ILjava/lang/String;)V" = some ⟨[.int,(.object "java/lang/String")],none⟩ := by decide +kernel
theorem ef_37 (m:MethodId) (x0:Addr) (x1:Addr) : entryFrame m #[.ref x0,.ref x1] 3 = mkF m 0 #[.val (.ref x0),.val (.ref x1),.unset] [] := by first | (simp [entryFrame,mkF,argsToLocals,Value.category]; done) | rfl
theorem r37 (l:Launch) (Z:State) (a0:Array Value) (hw:zH Z a0) (ws:List Jvm.Cond) (a1:Addr) (a2:Addr) (t0:Addr) (w:Bool) (cs xs:List Int32) (h0:Heap) (n0:Nat) (Z0:n0 ≤ h0.size) (SB:own_SB Z h0 a1 w cs t0) (S:own_Str Z h0 a2 false xs) (hxw:own_wd xs = false) (hxC:own_C xs) (g_a1:n0 ≤ a1) (g_t0:n0 ≤ t0) (O:Old Z n0 h0) (SWz:own_SW Z Z.heap) (hne:∀ t,Fld Z h0 a2 "java/lang/String" "value" "[B" (.ref t) → t ≠ t0) (hq:cs.length + xs.length ≤ 96) :
   zM l Z h0 ws y_51 jdk_68_method_22_code 3 (some (.object "java/lang/AbstractStringBuilder")) (zr 7 0 0 107) #[.ref a1,.ref a2] (QA Z a1 t0 w (cs ++ xs) h0 n0) := by
 refine zE pn_26 rfl fun p e s m below meth c s₁ Bd hx hby hml hown hZ X0 e0 => ?_
 obtain ⟨E_a1,F_coder_a1,F_count_a1,F_value_a1,F_m,kd,vd,B,hvd,hcs,htk⟩ := id SB
 have SWh := SWz.ext O.2
 obtain ⟨zc,fm,SC,hz,S_F,rf,SA,SH,SL⟩ := id SWh
 have hn2 : a1 ≠ t0 := Exa.neArv E_a1 B (zW hw 59 rfl)
 have E_a2 := S.1
 have D := D37 Bd.bytes
 have N0 := Fr.nil n0
 obtain ⟨cq3,kq3,q3a,q3b,q3c⟩ := isOf hZ e0 E_a2
 obtain ⟨_,T3,Lc3,X3,hQ3,st3⟩ := zU X0 hx hZ hown (zW hw 199 rfl) (zW hw 31 rfl) (zW hw 33 rfl) (zW hw 32 rfl) (by decide) (own_slen (W:=0) hZ hw S SWh hxC hxw (by omega) n0 (by decide) (by decide)) q3a q3c (g:=(mkF m 10 #[vr a1,vr a2,.unset] [.ref a2])) rfl (by rw [hml]; rfl) (argsL:=[]) (rest:=[]) (lenOf pd_45_5 rfl) rfl (Nat.le_of_eq rfl) (D 3 rfl) rfl e0 (by decide:0 + 0 ≤ _) (by decide:0 + 0 ≤ _)
 obtain ⟨rfl,N3q,e3⟩ := hQ3
 have N3 := Fr.app N0 N3q
 obtain ⟨T5,X5,e5,st5⟩ := getF X3 hx hZ hown (host:="") (Or.inl (zW hw 128 rfl)) Via.refl e3 (F_count_a1) (g:=(mkF m 16 #[vr a1,vr a2,vi (I xs.length)] [.ref a1,.ref a1])) rfl rfl (D 7 rfl)
 obtain ⟨cq6,q6,q6'⟩ := (E_a1).cell
 obtain ⟨_,_,⟨T6,L6,k6,n6⟩,-,X6,⟨Lc6,hQ6,l6,y6,z6⟩,st6⟩ := X5.privateBack hx (y:=y_14) hown (zT hZ hw 130 rfl) (zT hZ hw 131 rfl) (mvT hZ (own_selP (zW hw 133 rfl) (zW hw 132 rfl) (zW hw 131 rfl) (by decide))) (Cond.privateMethod_at (mvP hZ (zW hw 132 rfl) (args:=#[]))) (zT hZ hw 134 rfl) (by decide) (backOf (W:=0) (r24 l Z a0 hw [] a1 ((I cs.length) + (I xs.length)) t0 w cs (cs.length + xs.length) h0 n0 Z0 (Int32.ofNat_add _ _).symm SB hq) hZ (zW hw 134 rfl) (zW hw 68 rfl) (by decide) (by decide)) (g:=(mkF m 21 #[vr a1,vr a2,vi (I xs.length)] [(.int ((I cs.length) + (I xs.length))),.ref a1])) rfl (by rw [hml]; rfl) (Steps.refl _) (a:=a1) (by rw [e5]; exact q6) q6' (argsL:=[(.int ((I cs.length) + (I xs.length)))]) (rest:=[]) (lenOf pd_12_11 rfl) rfl (Nat.le_of_eq rfl) (D 10 rfl) (fun _ _ => ⟨rfl,e5,(by decide:0 + 0 ≤ _),(by decide:0 + 0 ≤ _)⟩)
 dsimp only [Pt.U,Pt.locs,Pt.cells,Pt.slots] at X6 l6 y6 z6 st6 hQ6
 subst l6 y6 z6
 obtain ⟨rfl,N6q,e6⟩ := hQ6
 have N6 := Fr.app N3 N6q
 obtain ⟨T8,X8,e8,st8⟩ := getF X6 hx hZ hown (host:="") (Or.inl (zW hw 128 rfl)) Via.refl e6 ((F_count_a1)) (g:=(mkF m 26 #[vr a1,vr a2,vi (I xs.length)] [.ref a1,.ref a1])) rfl rfl (D 13 rfl)
 obtain ⟨cq9,q9,q9'⟩ := ((E_a1)).cell
 obtain ⟨_,_,⟨T9,L9,k9,n9⟩,-,X9,⟨Lc9,hQ9,l9,y9,z9⟩,st9⟩ := X8.privateBack hx (y:=y_66) hown (zT hZ hw 200 rfl) (zT hZ hw 201 rfl) (mvT hZ (own_selP (zW hw 203 rfl) (zW hw 202 rfl) (zW hw 201 rfl) (by decide))) (Cond.privateMethod_at (mvP hZ (zW hw 202 rfl) (args:=#[]))) (zT hZ hw 204 rfl) (by decide) (backOf (W:=0) (r38 l Z a0 hw [] a1 a2 t0 w cs xs kd vd h0 n0 Z0 E_a1 F_value_a1 F_coder_a1 S (own_lat hxw hxC) hne B hvd htk g_t0 hq O SWz) hZ (zW hw 204 rfl) (zW hw 68 rfl) (by decide) (by decide)) (g:=(mkF m 30 #[vr a1,vr a2,vi (I xs.length)] [.ref a2,(.int (I cs.length)),.ref a1])) rfl (by rw [hml]; rfl) (Steps.refl _) (a:=a1) (by rw [e8]; exact q9) q9' (argsL:=[(.int (I cs.length)),.ref a2]) (rest:=[]) (lenOf pd_37_34 rfl) rfl (Nat.le_of_eq rfl) (D 15 rfl) (fun _ _ => ⟨rfl,e8,(by decide:0 + 0 ≤ _),(by decide:0 + 0 ≤ _)⟩)
 dsimp only [Pt.U,Pt.locs,Pt.cells,Pt.slots] at X9 l9 y9 z9 st9 hQ9
 subst l9 y9 z9
 obtain ⟨rfl,N9q,K9,vs9,V9,hv9,ht9⟩ := hQ9
 have N9 := Fr.app N6 N9q
 obtain ⟨T11,X11,e11,st11⟩ := getF X9 hx hZ hown (host:="") (Or.inl (zW hw 128 rfl)) Via.refl rfl (((F_count_a1)).keep K9 (ninS hn2 nin0)) (g:=(mkF m 35 #[vr a1,vr a2,vi (I xs.length)] [.ref a1,.ref a1])) rfl rfl (D 18 rfl)
 obtain ⟨T12,h12,X12,e12,W12,st12⟩ := putF X11 hx hZ hown (host:="") (Or.inl (zW hw 128 rfl)) Via.refl e11 (((F_count_a1)).keep K9 (ninS hn2 nin0)) (((E_a1)).keep K9) (Or.inl (zW hw 129 rfl)) (zW hw 59 rfl) (ty:=.int) (by decide) rfl rfl (g:=(mkF m 40 #[vr a1,vr a2,vi (I xs.length)] [(.int ((I cs.length) + (I xs.length))),.ref a1])) rfl rfl (D 21 rfl)
 have Fw12 := (((F_count_a1)).keep K9 (ninS hn2 nin0)).same W12
 have K12 : Keep h0 h12 [a1,t0] := ((Keep.refl h0 [a1,t0]).trans K9 (allS (Or.inl (List.mem_of_getElem? (i:=1) rfl)) all0)).wr W12 (Or.inl (List.mem_of_getElem? (i:=0) rfl))
 have N12 := Fr.snoc X12 N9 g_a1
 refine zL Bd X12 (ef_37 m a1 a2) (some (.ref a1)) nofun (by decide) (by decide) (fun fs hr => ?_) ?_
 · refine aN X0.here hx rfl (D 0 rfl) rfl rfl (XS.ifnonnullYes X0.here hx rfl (pc0 := 1) (pc':=9) rfl (D 1 rfl) rfl (by decide) (by decide) (aN X0.here hx rfl (D 2 rfl) rfl rfl (st3.trans ?_)))
   refine sN X3.here hx rfl (D 4 rfl) rfl (l':=#[vr a1,vr a2,vi (I xs.length)]) rfl (aN X3.here hx rfl (D 5 rfl) rfl rfl (aN X3.here hx rfl (D 6 rfl) rfl rfl (st5 _ ?_)))
   refine iN X5.here hx rfl (D 8 rfl) rfl (iA X5.here hx rfl (D 9 rfl) rfl (st6.trans (aN X6.here hx rfl (D 11 rfl) rfl rfl ?_)))
   refine aN X6.here hx rfl (D 12 rfl) rfl rfl (st8 _ (aN X8.here hx rfl (D 14 rfl) rfl rfl (st9.trans ?_)))
   refine aN X9.here hx rfl (D 16 rfl) rfl rfl (XS.dup X9.here hx rfl (D 17 rfl) rfl rfl (st11 _ (iN X11.here hx rfl (D 19 rfl) rfl ?_)))
   refine iA X11.here hx rfl (D 20 rfl) rfl (st12 _ (aN X12.here hx rfl (D 22 rfl) rfl rfl ?_))
   jvm_step X12.here [X12.here.top,hx,(D 23 rfl),X12.method',Bd.returns,Value.isRef,FieldType.isReference]
   first | (intro acts; rw [hr _ acts rfl rfl rfl]) | rw [hr _ _ rfl rfl rfl]
   exact Steps.refl _
 · show QA Z a1 t0 w (cs ++ xs) h0 n0 _ T12.heap _
   rw [e12]
   refine ⟨rfl,N12,K12,t0,⟨(E_a1.keep K9).wr W12,(F_coder_a1.keep K9 (ninS hn2 nin0)).other W12 (Or.inr (slot_ne (Or.inl (zW hw 75 rfl)) (Or.inl (zW hw 129 rfl)) (by decide) (t:=.byte) (t':=.int) (by decide) (by decide))),?_,(F_value_a1.keep K9 (ninS hn2 nin0)).other W12 (Or.inr (slot_ne (Or.inl (zW hw 73 rfl)) (Or.inl (zW hw 129 rfl)) (by decide) (t:=(.array .byte)) (t':=.int) (by decide) (by decide))),(F_m.keep K9 (ninS hn2 nin0)).other W12 (Or.inr (slot_ne (Or.inl (zW hw 341 rfl)) (Or.inl (zW hw 129 rfl)) (by decide) (t:=.boolean) (t':=.int) (by decide) (by decide))),kd,_,V9.other W12 hn2.symm,hv9,?_,ht9⟩,Or.inl rfl⟩
   · rw [List.length_append,Int32.ofNat_add]; exact Fw12
   · rw [List.length_append]; exact hq
def l36 : zl := [(0,.aload_n 0,1),(1,.aload_n 1,1),(2,.invokespecial 29,3),(5,.pop,1),(6,.aload_n 0,1),(7,.areturn,1)]
theorem D36 : zq jdk_67_method_7_code l36 := zd (by decide +kernel)
theorem pd_36_33 : parseMethodDescriptor "(Ljava/lang/String;)Ljava/lang/AbstractStringBuilder;" = some ⟨[(.object "java/lang/String")],some (.object "java/lang/AbstractStringBuilder")⟩ := by decide +kernel
theorem r36 (l:Launch) (Z:State) (a0:Array Value) (hw:zH Z a0) (ws:List Jvm.Cond) (a1:Addr) (a2:Addr) (t0:Addr) (w:Bool) (cs xs:List Int32) (h0:Heap) (n0:Nat) (Z0:n0 ≤ h0.size) (SB:own_SB Z h0 a1 w cs t0) (S:own_Str Z h0 a2 false xs) (hxw:own_wd xs = false) (hxC:own_C xs) (g_a1:n0 ≤ a1) (g_t0:n0 ≤ t0) (O:Old Z n0 h0) (SWz:own_SW Z Z.heap) (hne:∀ t,Fld Z h0 a2 "java/lang/String" "value" "[B" (.ref t) → t ≠ t0) (hq:cs.length + xs.length ≤ 96) :
   zM l Z h0 ws y_6 jdk_67_method_7_code 2 (some (.object "java/lang/StringBuilder")) (zr 8 0 0 121) #[.ref a1,.ref a2] (QA Z a1 t0 w (cs ++ xs) h0 n0) := by
 refine zE pn_45 rfl fun p e s m below meth c s₁ Bd hx hby hml hown hZ X0 e0 => ?_
 have E_a1 := SB.1
 have D := D36 Bd.bytes
 have N0 := Fr.nil n0
 obtain ⟨_,_,⟨T3,L3,k3,n3⟩,-,X3,⟨Lc3,hQ3,l3,y3,z3⟩,st3⟩ := superBack X0 hx hZ (y:=y_51) hown (zW hw 195 rfl) (own_same (y:=y_51) (own_nf (notFace_of_selects (zW hw 133 rfl)) (zW hw 131 rfl) rfl) (zW hw 196 rfl) (by decide)) (zW hw 196 rfl) (zW hw 113 rfl) (by decide) (backOf (W:=0) (r37 l Z a0 hw [] a1 a2 t0 w cs xs h0 n0 Z0 SB S hxw hxC g_a1 g_t0 O SWz hne hq) hZ (zW hw 198 rfl) (zW hw 68 rfl) (by decide) (by decide)) e0 (Ins.self E_a1) (g:=(mkF m 2 #[vr a1,vr a2] [.ref a2,.ref a1])) rfl (by rw [hml]; rfl) (zW hw 198 rfl) (argsL:=[.ref a2]) (rest:=[]) (lenOf pd_36_33 rfl) rfl (Nat.le_of_eq rfl) (D 2 rfl) (fun _ _ => ⟨rfl,e0,(by decide:0 + 0 ≤ _),(by decide:0 + 0 ≤ _)⟩)
 dsimp only [Pt.U,Pt.locs,Pt.cells,Pt.slots] at X3 l3 y3 z3 st3 hQ3
 subst l3 y3 z3
 obtain ⟨rfl,N3q,Qq⟩ := hQ3
 have N3 := Fr.app N0 N3q
 refine zL Bd X3 (ef_2 m a1 a2) (some (.ref a1)) nofun (by decide) (by decide) (fun fs hr => ?_) ?_
 · refine aN X0.here hx rfl (D 0 rfl) rfl rfl (aN X0.here hx rfl (D 1 rfl) rfl rfl (st3.trans (XS.pop X3.here hx rfl (D 3 rfl) rfl rfl ?_)))
   refine aN X3.here hx rfl (D 4 rfl) rfl rfl ?_
   jvm_step X3.here [X3.here.top,hx,(D 5 rfl),X3.method',Bd.returns,Value.isRef,FieldType.isReference]
   first | (intro acts; rw [hr _ acts rfl rfl rfl]) | rw [hr _ _ rfl rfl rfl]
   exact Steps.refl _
 · show QA Z a1 t0 w (cs ++ xs) h0 n0 _ T3.heap _
   exact ⟨rfl,N3,Qq⟩
theorem own_pred (n:Nat) : I (n + 1) + (-1 : Int32) = I n := by
 rw [Int32.ofNat_add,show (-1 : Int32) = -(I 1) by decide,Int32.add_assoc,Int32.add_right_neg,Int32.add_zero]
def own_T (Z:State) (name:String) (F:Nat → Nat) : Prop := ∃ (d:Addr) (D:Cell),Sta Z Z.heap "java/lang/Integer" name "[B" (.ref d) ∧ Arr Z Z.heap d D .byte ∧ D.slots.size = 100 ∧ ∀ r,r < 100 → D.slots[r]? = some (.int (I (F r)))
def own_DT (Z:State) : Prop := own_T Z "DigitOnes" (fun r => 48 + r % 10) ∧ own_T Z "DigitTens" (fun r => 48 + r / 10)
def own_cnt (p:Int32) : Prop := p = 1 ∨ p = 2 ∨ p = 3 ∨ p = 11 ∨ p = 12 ∨ p = 100 ∨ p = 101
def own_dg (p:Int32) : List Int32 := if p = 1 then [49] else if p = 2 then [50] else if p = 3 then [51] else if p = 11 then [49,49] else if p = 12 then [49,50] else if p = 100 then [49,48,48] else [49,48,49]
theorem own_st1 (vd:List Value) (xs:List Int32) (m:Nat) (a:Int32) (h:vd.take m = own_by xs) (hm:m < vd.length) : (vd.set m (.int (StrChars.lo8 a))).take (m + 1) = own_by (xs ++ [a]) := by
 rw [own_takeset _ _ _ hm,h,own_by_app]; rfl
theorem own_st2 (vd:List Value) (xs:List Int32) (m:Nat) (a b:Int32) (h:vd.take m = own_by xs) (hm:m + 1 < vd.length) : ((vd.set (m + 1) (.int (StrChars.lo8 b))).set m (.int (StrChars.lo8 a))).take (m + 1 + 1) = own_by (xs ++ [a,b]) := by
 rw [List.set_comm _ _ (by omega),own_takeset2 _ _ _ _ hm,h,own_by_app]; rfl
theorem own_st3 (vd:List Value) (xs:List Int32) (m:Nat) (a b c:Int32) (h:vd.take m = own_by xs) (hm:m + 1 + 1 < vd.length) : (((vd.set (m + 1 + 1) (.int (StrChars.lo8 c))).set (m + 1) (.int (StrChars.lo8 b))).set m (.int (StrChars.lo8 a))).take (m + 1 + 1 + 1) = own_by (xs ++ [a,b,c]) := by
 rw [List.set_comm _ _ (by omega),List.set_comm _ _ (by omega:m + 1 + 1 ≠ m),List.set_comm _ _ (by omega:m + 1 + 1 ≠ m + 1),own_takeset _ _ _ (by rw [List.length_set,List.length_set]; exact hm),List.set_comm _ _ (by omega:m ≠ m + 1),List.set_comm _ _ (by omega:m + 1 ≠ m),own_takeset2 _ _ _ _ (by omega),h,own_by_app]
 rw [List.append_assoc]; rfl
theorem own_put_comm (vs:List Value) (i j:Nat) (c d:Int32) (h:i ≠ j) : own_put (own_put vs i c) j d = own_put (own_put vs j d) i c := by
 unfold own_put
 rw [List.set_comm _ _ (by omega:2 * i + 1 ≠ 2 * j),List.set_comm _ _ (by omega:2 * i ≠ 2 * j),List.set_comm _ _ (by omega:2 * i + 1 ≠ 2 * j + 1),List.set_comm _ _ (by omega:2 * i ≠ 2 * j + 1)]
theorem own_pt2 (vd:List Value) (xs:List Int32) (m:Nat) (a b:Int32) (h:vd.take (2 * m) = StrChars.Road.wideBytes xs) (hm:2 * (m + 1) + 1 < vd.length) : (own_put (own_put vd (m + 1) b) m a).take (2 * (m + 1 + 1)) = StrChars.Road.wideBytes (xs ++ [a,b]) := by
 rw [own_put_comm _ _ _ _ _ (by omega),own_put_take _ (xs ++ [a]) (m + 1) b (own_put_take vd xs m a h (by omega)) (by rw [own_put_len]; exact hm),List.append_assoc]; rfl
theorem own_pt3 (vd:List Value) (xs:List Int32) (m:Nat) (a b c:Int32) (h:vd.take (2 * m) = StrChars.Road.wideBytes xs) (hm:2 * (m + 1 + 1) + 1 < vd.length) : (own_put (own_put (own_put vd (m + 1 + 1) c) (m + 1) b) m a).take (2 * (m + 1 + 1 + 1)) = StrChars.Road.wideBytes (xs ++ [a,b,c]) := by
 rw [own_put_comm _ _ _ _ _ (by omega:m + 1 + 1 ≠ m + 1),own_put_comm _ _ _ _ _ (by omega:m + 1 + 1 ≠ m),own_put_take _ (xs ++ [a,b]) (m + 1 + 1) c (own_pt2 vd xs m a b h (by omega)) (by rw [own_put_len,own_put_len]; exact hm),List.append_assoc]; rfl
def QG (Z:State) (a3:Addr) (kd:ClassId) (w:Bool) (cs:List Int32) (h0:Heap) (n0:Nat) (v:Option Value) (h:Heap) (L:List Loc) : Prop := (∃ r : Int32,v = some (.int r)) ∧ Fr n0 L ∧ Keep h0 h [a3] ∧ ∃ vs : List Value,Arv Z h a3 kd .byte (I (own_k w * 96)) vs (.int 0) ∧ vs.length = own_k w * 96 ∧ vs.take (own_k w * cs.length) = own_enc w cs
def l34 : zl := [(0,.iconst 1,1),(1,.istore_n 1,1),(2,.iload_n 0,1),(3,.ifCond .lt 8,3),(6,.iconst 0,1),(7,.istore_n 1,1),(8,.iload_n 0,1),(9,.ineg,1),(10,.istore_n 0,1),(11,.bipush (-10),2),(13,.istore_n 2,1),(14,.iconst 1,1),(15,.istore_n 3,1),(16,.iload_n 3,1),(17,.bipush 10,2),(19,.if_icmp .ge 23,3),(22,.iload_n 0,1),(23,.iload_n 2,1),(24,.if_icmp .le 7,3),(27,.iload_n 3,1),(28,.iload_n 1,1),(29,.iadd,1),(30,.ireturn,1),(31,.bipush 10,2),(33,.iload_n 2,1),(34,.imul,1),(35,.istore_n 2,1),(36,.iinc 3 1,3),(39,.goto (-23),3)]
theorem D34 : zq jdk_33_method_13_code l34 := zd (by decide +kernel)
theorem pn_34 : plainName "java/lang/Integer" = true := by first | (simp [plainName,overriddenIn]; done) | decide +kernel
theorem ef_34 (m:MethodId) (x0:Int32) : entryFrame m #[.int x0] 4 = mkF m 0 #[.val (.int x0),.unset,.unset,.unset] [] := by first | (simp [entryFrame,mkF,argsToLocals,Value.category]; done) | rfl
theorem r34_1 (l:Launch) (Z:State) (a0:Array Value) (hw:zH Z a0) (ws:List Jvm.Cond) (h0:Heap) (n0:Nat) (Z0:n0 ≤ h0.size) (v_ w_:Int32) (hv:zV0 v_ w_) :
   zM l Z h0 ws y_4 jdk_33_method_13_code 4 (some .int) (zr 0 0 0 0) #[.int v_] (QR (some (.int (I 1))) h0 n0) := by
 refine zE pn_34 rfl fun p e s m below meth c s₁ Bd hx hby hml hown hZ X0 e0 => ?_
 have D := D34 Bd.bytes
 have N0 := Fr.nil n0
 refine zL Bd X0 (ef_34 m v_) (some (.int ((1:Int32) + 0))) nofun (by decide) (by decide) (fun fs hr => ?_) ?_
 · refine iC X0.here hx rfl (D 0 rfl) (sN X0.here hx rfl (D 1 rfl) rfl (l':=#[vi v_,vi 1,.unset,.unset]) rfl (iN X0.here hx rfl (D 2 rfl) rfl (fN X0.here hx rfl (D 3 rfl) rfl ((if0 _ _).trans (flt (by apply zC0 hv <;> decide)).1) ?_)))
   refine iC X0.here hx rfl (D 4 rfl) (sN X0.here hx rfl (D 5 rfl) rfl (l':=#[vi v_,vi 0,.unset,.unset]) rfl (iN X0.here hx rfl (D 6 rfl) rfl (XS.ineg X0.here hx rfl (D 7 rfl) rfl ?_)))
   refine sN X0.here hx rfl (D 8 rfl) rfl (l':=#[vi (-v_),vi 0,.unset,.unset]) rfl (bP X0.here hx rfl (D 9 rfl) (sN X0.here hx rfl (D 10 rfl) rfl (l':=#[vi (-v_),vi 0,vi (-10 : Int32),.unset]) rfl (iC X0.here hx rfl (D 11 rfl) ?_)))
   refine sN X0.here hx rfl (D 12 rfl) rfl (l':=#[vi (-v_),vi 0,vi (-10 : Int32),vi 1]) rfl (iN X0.here hx rfl (D 13 rfl) rfl (bP X0.here hx rfl (D 14 rfl) (cN X0.here hx rfl (D 15 rfl) rfl (tlt (by apply zC0 hv <;> decide)).2.1 ?_)))
   refine iN X0.here hx rfl (D 16 rfl) rfl (iN X0.here hx rfl (D 17 rfl) rfl (cN X0.here hx rfl (D 18 rfl) rfl (tlt (by apply zC0 hv <;> decide)).2.2.2 (iN X0.here hx rfl (D 19 rfl) rfl ?_)))
   refine iN X0.here hx rfl (D 20 rfl) rfl (iA X0.here hx rfl (D 21 rfl) rfl ?_)
   exact retI X0 hx Bd.returns (D 22 rfl) hr
 · show QR (some (.int (I 1))) h0 n0 _ s₁.heap _
   rw [e0]
   exact ⟨rfl,N0,rfl⟩
theorem r34_11 (l:Launch) (Z:State) (a0:Array Value) (hw:zH Z a0) (ws:List Jvm.Cond) (h0:Heap) (n0:Nat) (Z0:n0 ≤ h0.size) (v_ w_:Int32) (hv:zV1 v_ w_) :
   zM l Z h0 ws y_4 jdk_33_method_13_code 4 (some .int) (zr 0 0 0 0) #[.int v_] (QR (some (.int (I 2))) h0 n0) := by
 refine zE pn_34 rfl fun p e s m below meth c s₁ Bd hx hby hml hown hZ X0 e0 => ?_
 have D := D34 Bd.bytes
 have N0 := Fr.nil n0
 refine zL Bd X0 (ef_34 m v_) (some (.int (((1:Int32) + 1) + 0))) nofun (by decide) (by decide) (fun fs hr => ?_) ?_
 · refine iC X0.here hx rfl (D 0 rfl) (sN X0.here hx rfl (D 1 rfl) rfl (l':=#[vi v_,vi 1,.unset,.unset]) rfl (iN X0.here hx rfl (D 2 rfl) rfl (fN X0.here hx rfl (D 3 rfl) rfl ((if0 _ _).trans (flt (by apply zC1 hv <;> decide)).1) ?_)))
   refine iC X0.here hx rfl (D 4 rfl) (sN X0.here hx rfl (D 5 rfl) rfl (l':=#[vi v_,vi 0,.unset,.unset]) rfl (iN X0.here hx rfl (D 6 rfl) rfl (XS.ineg X0.here hx rfl (D 7 rfl) rfl ?_)))
   refine sN X0.here hx rfl (D 8 rfl) rfl (l':=#[vi (-v_),vi 0,.unset,.unset]) rfl (bP X0.here hx rfl (D 9 rfl) (sN X0.here hx rfl (D 10 rfl) rfl (l':=#[vi (-v_),vi 0,vi (-10 : Int32),.unset]) rfl (iC X0.here hx rfl (D 11 rfl) ?_)))
   refine sN X0.here hx rfl (D 12 rfl) rfl (l':=#[vi (-v_),vi 0,vi (-10 : Int32),vi 1]) rfl (iN X0.here hx rfl (D 13 rfl) rfl (bP X0.here hx rfl (D 14 rfl) (cN X0.here hx rfl (D 15 rfl) rfl (tlt (by apply zC1 hv <;> decide)).2.1 ?_)))
   refine iN X0.here hx rfl (D 16 rfl) rfl (iN X0.here hx rfl (D 17 rfl) rfl (cY X0.here hx rfl (pc0 := 24) (pc':=31) rfl (D 18 rfl) rfl (flt (by apply zC1 hv <;> decide)).2.2.2 (by decide) (by decide) (bP X0.here hx rfl (D 23 rfl) ?_)))
   refine iN X0.here hx rfl (D 24 rfl) rfl (XS.imul X0.here hx rfl (D 25 rfl) rfl (sN X0.here hx rfl (D 26 rfl) rfl (l':=#[vi (-v_),vi 0,vi ((10:Int32) * (-10 : Int32)),vi 1]) rfl (iI X0.here hx rfl (D 27 rfl) rfl (l':=#[vi (-v_),vi 0,vi ((10:Int32) * (-10 : Int32)),vi ((1:Int32) + 1)]) rfl ?_)))
   refine gT X0.here hx rfl (pc0 := 39) (pc':=16) rfl (D 28 rfl) (by decide) (by decide) (iN X0.here hx rfl (D 13 rfl) rfl (bP X0.here hx rfl (D 14 rfl) (cN X0.here hx rfl (D 15 rfl) rfl (tlt (by apply zC1 hv <;> decide)).2.1 ?_)))
   refine iN X0.here hx rfl (D 16 rfl) rfl (iN X0.here hx rfl (D 17 rfl) rfl (cN X0.here hx rfl (D 18 rfl) rfl (tlt (by apply zC1 hv <;> decide)).2.2.2 (iN X0.here hx rfl (D 19 rfl) rfl ?_)))
   refine iN X0.here hx rfl (D 20 rfl) rfl (iA X0.here hx rfl (D 21 rfl) rfl ?_)
   exact retI X0 hx Bd.returns (D 22 rfl) hr
 · show QR (some (.int (I 2))) h0 n0 _ s₁.heap _
   rw [e0]
   exact ⟨rfl,N0,rfl⟩
theorem r34_100 (l:Launch) (Z:State) (a0:Array Value) (hw:zH Z a0) (ws:List Jvm.Cond) (h0:Heap) (n0:Nat) (Z0:n0 ≤ h0.size) (v_ w_:Int32) (hv:zV2 v_ w_) :
   zM l Z h0 ws y_4 jdk_33_method_13_code 4 (some .int) (zr 0 0 0 0) #[.int v_] (QR (some (.int (I 3))) h0 n0) := by
 refine zE pn_34 rfl fun p e s m below meth c s₁ Bd hx hby hml hown hZ X0 e0 => ?_
 have D := D34 Bd.bytes
 have N0 := Fr.nil n0
 refine zL Bd X0 (ef_34 m v_) (some (.int ((((1:Int32) + 1) + 1) + 0))) nofun (by decide) (by decide) (fun fs hr => ?_) ?_
 · refine iC X0.here hx rfl (D 0 rfl) (sN X0.here hx rfl (D 1 rfl) rfl (l':=#[vi v_,vi 1,.unset,.unset]) rfl (iN X0.here hx rfl (D 2 rfl) rfl (fN X0.here hx rfl (D 3 rfl) rfl ((if0 _ _).trans (flt (by apply zC2 hv <;> decide)).1) ?_)))
   refine iC X0.here hx rfl (D 4 rfl) (sN X0.here hx rfl (D 5 rfl) rfl (l':=#[vi v_,vi 0,.unset,.unset]) rfl (iN X0.here hx rfl (D 6 rfl) rfl (XS.ineg X0.here hx rfl (D 7 rfl) rfl ?_)))
   refine sN X0.here hx rfl (D 8 rfl) rfl (l':=#[vi (-v_),vi 0,.unset,.unset]) rfl (bP X0.here hx rfl (D 9 rfl) (sN X0.here hx rfl (D 10 rfl) rfl (l':=#[vi (-v_),vi 0,vi (-10 : Int32),.unset]) rfl (iC X0.here hx rfl (D 11 rfl) ?_)))
   refine sN X0.here hx rfl (D 12 rfl) rfl (l':=#[vi (-v_),vi 0,vi (-10 : Int32),vi 1]) rfl (iN X0.here hx rfl (D 13 rfl) rfl (bP X0.here hx rfl (D 14 rfl) (cN X0.here hx rfl (D 15 rfl) rfl (tlt (by apply zC2 hv <;> decide)).2.1 ?_)))
   refine iN X0.here hx rfl (D 16 rfl) rfl (iN X0.here hx rfl (D 17 rfl) rfl (cY X0.here hx rfl (pc0 := 24) (pc':=31) rfl (D 18 rfl) rfl (flt (by apply zC2 hv <;> decide)).2.2.2 (by decide) (by decide) (bP X0.here hx rfl (D 23 rfl) ?_)))
   refine iN X0.here hx rfl (D 24 rfl) rfl (XS.imul X0.here hx rfl (D 25 rfl) rfl (sN X0.here hx rfl (D 26 rfl) rfl (l':=#[vi (-v_),vi 0,vi ((10:Int32) * (-10 : Int32)),vi 1]) rfl (iI X0.here hx rfl (D 27 rfl) rfl (l':=#[vi (-v_),vi 0,vi ((10:Int32) * (-10 : Int32)),vi ((1:Int32) + 1)]) rfl ?_)))
   refine gT X0.here hx rfl (pc0 := 39) (pc':=16) rfl (D 28 rfl) (by decide) (by decide) (iN X0.here hx rfl (D 13 rfl) rfl (bP X0.here hx rfl (D 14 rfl) (cN X0.here hx rfl (D 15 rfl) rfl (tlt (by apply zC2 hv <;> decide)).2.1 ?_)))
   refine iN X0.here hx rfl (D 16 rfl) rfl (iN X0.here hx rfl (D 17 rfl) rfl (cY X0.here hx rfl (pc0 := 24) (pc':=31) rfl (D 18 rfl) rfl (flt (by apply zC2 hv <;> decide)).2.2.2 (by decide) (by decide) (bP X0.here hx rfl (D 23 rfl) ?_)))
   refine iN X0.here hx rfl (D 24 rfl) rfl (XS.imul X0.here hx rfl (D 25 rfl) rfl (sN X0.here hx rfl (D 26 rfl) rfl (l':=#[vi (-v_),vi 0,vi ((10:Int32) * ((10:Int32) * (-10 : Int32))),vi ((1:Int32) + 1)]) rfl (iI X0.here hx rfl (D 27 rfl) rfl (l':=#[vi (-v_),vi 0,vi ((10:Int32) * ((10:Int32) * (-10 : Int32))),vi (((1:Int32) + 1) + 1)]) rfl ?_)))
   refine gT X0.here hx rfl (pc0 := 39) (pc':=16) rfl (D 28 rfl) (by decide) (by decide) (iN X0.here hx rfl (D 13 rfl) rfl (bP X0.here hx rfl (D 14 rfl) (cN X0.here hx rfl (D 15 rfl) rfl (tlt (by apply zC2 hv <;> decide)).2.1 ?_)))
   refine iN X0.here hx rfl (D 16 rfl) rfl (iN X0.here hx rfl (D 17 rfl) rfl (cN X0.here hx rfl (D 18 rfl) rfl (tlt (by apply zC2 hv <;> decide)).2.2.2 (iN X0.here hx rfl (D 19 rfl) rfl ?_)))
   refine iN X0.here hx rfl (D 20 rfl) rfl (iA X0.here hx rfl (D 21 rfl) rfl ?_)
   exact retI X0 hx Bd.returns (D 22 rfl) hr
 · show QR (some (.int (I 3))) h0 n0 _ s₁.heap _
   rw [e0]
   exact ⟨rfl,N0,rfl⟩
theorem r34 (l:Launch) (Z:State) (a0:Array Value) (hw:zH Z a0) (ws:List Jvm.Cond) (p1:Int32) (h0:Heap) (n0:Nat) (Z0:n0 ≤ h0.size) (hp:own_cnt p1) :
   zM l Z h0 ws y_4 jdk_33_method_13_code 4 (some .int) (zr 0 0 0 0) #[.int p1] (QR (some (.int (I (own_dg p1).length))) h0 n0) := by
 rcases hp with rfl | rfl | rfl | rfl | rfl | rfl | rfl
 · exact r34_1 l Z a0 hw ws h0 n0 Z0 1 49 (Or.inl ⟨rfl,rfl⟩)
 · exact r34_1 l Z a0 hw ws h0 n0 Z0 2 50 (Or.inr (Or.inl ⟨rfl,rfl⟩))
 · exact r34_1 l Z a0 hw ws h0 n0 Z0 3 51 (Or.inr (Or.inr ⟨rfl,rfl⟩))
 · exact r34_11 l Z a0 hw ws h0 n0 Z0 11 49 (Or.inl ⟨rfl,rfl⟩)
 · exact r34_11 l Z a0 hw ws h0 n0 Z0 12 50 (Or.inr ⟨rfl,rfl⟩)
 · exact r34_100 l Z a0 hw ws h0 n0 Z0 100 48 (Or.inl ⟨rfl,rfl⟩)
 · exact r34_100 l Z a0 hw ws h0 n0 Z0 101 49 (Or.inr ⟨rfl,rfl⟩)
def l35 : zl := [(0,.iload_n 1,1),(1,.istore 5,2),(3,.iload_n 0,1),(4,.ifCond .ge 7,3),(11,.iconst 0,1),(12,.istore 6,2),(14,.iload 6,2),(16,.ifCond .ne 6,3),(19,.iload_n 0,1),(20,.ineg,1),(21,.istore_n 0,1),(22,.iload_n 0,1),(23,.bipush (-100),2),(25,.if_icmp .gt 47,3),(72,.aload_n 2,1),(73,.iinc 5 (-1),3),(76,.iload 5,2),(78,.getstatic 83,3),(81,.iload_n 0,1),(82,.ineg,1),(83,.baload,1),(84,.bastore,1),(85,.iload_n 0,1),(86,.bipush (-9),2),(88,.if_icmp .ge 16,3),(104,.iload 6,2),(106,.ifCond .eq 12,3),(118,.iload 5,2),(120,.ireturn,1),(91,.aload_n 2,1),(92,.iinc 5 (-1),3),(95,.iload 5,2),(97,.getstatic 87,3),(100,.iload_n 0,1),(101,.ineg,1),(102,.baload,1),(103,.bastore,1),(28,.iload_n 0,1),(29,.bipush 100,2),(31,.idiv,1),(32,.istore_n 3,1),(33,.iload_n 3,1),(34,.bipush 100,2),(36,.imul,1),(37,.iload_n 0,1),(38,.isub,1),(39,.istore 4,2),(41,.iload_n 3,1),(42,.istore_n 0,1),(43,.aload_n 2,1),(44,.iinc 5 (-1),3),(47,.iload 5,2),(49,.getstatic 83,3),(52,.iload 4,2),(54,.baload,1),(55,.bastore,1),(56,.aload_n 2,1),(57,.iinc 5 (-1),3),(60,.iload 5,2),(62,.getstatic 87,3),(65,.iload 4,2),(67,.baload,1),(68,.bastore,1),(69,.goto (-47),3)]
theorem D35 : zq jdk_33_method_12_code l35 := zd (by decide +kernel)
theorem ef_35 (m:MethodId) (x0:Int32) (x1:Int32) (x2:Addr) : entryFrame m #[.int x0,.int x1,.ref x2] 7 = mkF m 0 #[.val (.int x0),.val (.int x1),.val (.ref x2),.unset,.unset,.unset,.unset] [] := by first | (simp [entryFrame,mkF,argsToLocals,Value.category]; done) | rfl
theorem r35_1 (l:Launch) (Z:State) (a0:Array Value) (hw:zH Z a0) (ws:List Jvm.Cond) (a3:Addr) (cs:List Int32) (kd:ClassId) (vd:List Value) (h0:Heap) (n0:Nat) (Z0:n0 ≤ h0.size) (DT:own_DT Z) (B:Arv Z h0 a3 kd .byte (I (own_k false * 96)) vd (.int 0)) (hvd:vd.length = own_k false * 96) (htk:vd.take (own_k false * cs.length) = own_enc false cs) (g_a3:n0 ≤ a3) (hq:cs.length + 3 ≤ 96) (O:Old Z n0 h0) (v_ w_:Int32) (hv:zV0 v_ w_) :
   zM l Z h0 ws y_1 jdk_33_method_12_code 7 (some .int) (zr 0 0 0 0) #[.int v_,(.int (I (cs.length + 1))),.ref a3] (QG Z a3 kd false (cs ++ [w_]) h0 n0) := by
 refine zE pn_34 rfl fun p e s m below meth c s₁ Bd hx hby hml hown hZ X0 e0 => ?_
 obtain ⟨⟨d1_,D1_,S1,A1,z1,t1⟩,⟨d2_,D2_,S2,A2,z2,t2⟩⟩ := id DT
 have hvd9 : vd.length = 96 := hvd
 have htk9 : vd.take cs.length = own_by cs := by rw [← Nat.one_mul cs.length]; exact htk
 obtain ⟨cl_,Ar_,q_,S_,N_,H_,G_⟩ := id B
 have Sz_ : cl_.slots.size = 96 := S_
 have e_ : (0:Nat) = 0 := rfl
 have D := D35 Bd.bytes
 have N0 := Fr.nil n0
 obtain ⟨T5,X5,e5,st5⟩ := getS2 X0 hx hZ hown (host:="") (Or.inl (zW hw 188 rfl)) Via.refl e0 (S1.ext O.2) (g:=(mkF m 78 #[vi (-v_),vi (I (cs.length + 1)),vr a3,.unset,.unset,vi ((I (cs.length + 1)) + (-1 : Int32)),vi 0] [(.int ((I (cs.length + 1)) + (-1 : Int32))),.ref a3])) rfl (D 17 rfl)
 have hp_7 : ((I (cs.length + 1)) + (-1 : Int32)) = I (cs.length) := own_pred _
 have x_7 : (((I (cs.length + 1)) + (-1 : Int32))).toNatClampNeg = cs.length := by rw [hp_7]; exact own_cl _ (by omega)
 have hin_7 : ¬ (((I (cs.length + 1)) + (-1 : Int32)) < 0 ∨ cl_.slots.size ≤ (((I (cs.length + 1)) + (-1 : Int32))).toNatClampNeg) := by rw [x_7,Sz_,hp_7]; exact fun q => q.elim (own_nn _ (by omega)) (by omega)
 obtain ⟨T7,h7,X7,e7,W7,st7⟩ := stB X5 hx hZ e5 Ar_ (j:=((I (cs.length + 1)) + (-1 : Int32))) hin_7 (g:=(mkF m 84 #[vi (-v_),vi (I (cs.length + 1)),vr a3,.unset,.unset,vi ((I (cs.length + 1)) + (-1 : Int32)),vi 0] [.int w_,(.int ((I (cs.length + 1)) + (-1 : Int32))),.ref a3])) rfl rfl (D 21 rfl)
 have N7 := Fr.snoc X7 N0 g_a3
 have K7 : Keep h0 h7 [a3] := (Keep.refl h0 [a3]).wr W7 (Or.inl (List.mem_of_getElem? (i:=0) rfl))
 have O7 := O.keep K7 (allS g_a3 all0)
 have V7 := Arv.set Ar_ q_ S_ N_ H_ G_ (fits_nar_byte _) W7 (cs.length) x_7 (by omega)
 obtain ⟨cl7_,Ar7_,q7_,S7_,N7_,H7_,G7_⟩ := id V7
 have Sz7_ : cl7_.slots.size = 96 := S7_
 refine zL Bd X7 (ef_35 m v_ (I (cs.length + 1)) a3) (some (.int ((I (cs.length + 1)) + (-1 : Int32)))) nofun (by decide) (by decide) (fun fs hr => ?_) ?_
 · refine iN X0.here hx rfl (D 0 rfl) rfl (iS X0.here hx rfl (D 1 rfl) rfl (l':=#[vi v_,vi (I (cs.length + 1)),vr a3,.unset,.unset,vi (I (cs.length + 1)),.unset]) rfl (iN X0.here hx rfl (D 2 rfl) rfl (fY X0.here hx rfl (pc0 := 4) (pc':=11) rfl (D 3 rfl) rfl ((if0 _ _).trans (flt (by apply zC0 hv <;> decide)).2.1) (by decide) (by decide) ?_)))
   refine iC X0.here hx rfl (D 4 rfl) (iS X0.here hx rfl (D 5 rfl) rfl (l':=#[vi v_,vi (I (cs.length + 1)),vr a3,.unset,.unset,vi (I (cs.length + 1)),vi 0]) rfl (iL X0.here hx rfl (D 6 rfl) rfl (fN X0.here hx rfl (D 7 rfl) rfl ((if0 _ _).trans (teq (rfl:(0:Int32) = 0)).2) ?_)))
   refine iN X0.here hx rfl (D 8 rfl) rfl (XS.ineg X0.here hx rfl (D 9 rfl) rfl (sN X0.here hx rfl (D 10 rfl) rfl (l':=#[vi (-v_),vi (I (cs.length + 1)),vr a3,.unset,.unset,vi (I (cs.length + 1)),vi 0]) rfl (iN X0.here hx rfl (D 11 rfl) rfl ?_)))
   refine bP X0.here hx rfl (D 12 rfl) (cY X0.here hx rfl (pc0 := 25) (pc':=72) rfl (D 13 rfl) rfl (tlt (by apply zC0 hv <;> decide)).2.2.1 (by decide) (by decide) (aN X0.here hx rfl (D 14 rfl) rfl rfl (iI X0.here hx rfl (D 15 rfl) rfl (l':=#[vi (-v_),vi (I (cs.length + 1)),vr a3,.unset,.unset,vi ((I (cs.length + 1)) + (-1 : Int32)),vi 0]) rfl ?_)))
   refine iL X0.here hx rfl (D 16 rfl) rfl (st5 _ (iN X5.here hx rfl (D 18 rfl) rfl (XS.ineg X5.here hx rfl (D 19 rfl) rfl ?_)))
   refine X5.baloadBytes hx (j:=(-(-v_))) (v:=(.int w_)) (by rw [e5]; exact (A1.ext O.2).1) (State.isArrayOf_alike hZ.alike (A1.ext O.2).2.1) (A1.ext O.2).2.2 (by rw [z1]; apply zC0 hv <;> decide) (by rcases hv with ⟨rfl,rfl⟩ | ⟨rfl,rfl⟩ | ⟨rfl,rfl⟩ <;> exact t1 _ (by decide)) (g:=(mkF m 83 #[vi (-v_),vi (I (cs.length + 1)),vr a3,.unset,.unset,vi ((I (cs.length + 1)) + (-1 : Int32)),vi 0] [(.int (-(-v_))),.ref d1_,(.int ((I (cs.length + 1)) + (-1 : Int32))),.ref a3])) rfl rfl (D 20 rfl) _ (st7 _ (iN X7.here hx rfl (D 22 rfl) rfl (bP X7.here hx rfl (D 23 rfl) ?_)))
   refine cY X7.here hx rfl (pc0 := 88) (pc':=104) rfl (D 24 rfl) rfl (flt (by apply zC0 hv <;> decide)).2.1 (by decide) (by decide) (iL X7.here hx rfl (D 25 rfl) rfl (fY X7.here hx rfl (pc0 := 106) (pc':=118) rfl (D 26 rfl) rfl ((if0 _ _).trans (teq (rfl:(0:Int32) = 0)).1) (by decide) (by decide) (iL X7.here hx rfl (D 27 rfl) rfl ?_)))
   exact retI X7 hx Bd.returns (D 28 rfl) hr
 · show QG Z a3 kd false (cs ++ [w_]) h0 n0 _ T7.heap _
   rw [e7]
   refine ⟨⟨_,rfl⟩,N7,K7,_,V7,by rw [List.length_set]; exact hvd,?_⟩
   rw [List.length_append]
   show List.take (1 * (cs.length + 1)) _ = own_by _
   rw [Nat.one_mul]
   exact own_st1 vd cs cs.length w_ htk9 (by omega)
theorem r35_11 (l:Launch) (Z:State) (a0:Array Value) (hw:zH Z a0) (ws:List Jvm.Cond) (a3:Addr) (cs:List Int32) (kd:ClassId) (vd:List Value) (h0:Heap) (n0:Nat) (Z0:n0 ≤ h0.size) (DT:own_DT Z) (B:Arv Z h0 a3 kd .byte (I (own_k false * 96)) vd (.int 0)) (hvd:vd.length = own_k false * 96) (htk:vd.take (own_k false * cs.length) = own_enc false cs) (g_a3:n0 ≤ a3) (hq:cs.length + 3 ≤ 96) (O:Old Z n0 h0) (v_ w_:Int32) (hv:zV1 v_ w_) :
   zM l Z h0 ws y_1 jdk_33_method_12_code 7 (some .int) (zr 0 0 0 0) #[.int v_,(.int (I (cs.length + 1 + 1))),.ref a3] (QG Z a3 kd false (cs ++ [49,w_]) h0 n0) := by
 refine zE pn_34 rfl fun p e s m below meth c s₁ Bd hx hby hml hown hZ X0 e0 => ?_
 obtain ⟨⟨d1_,D1_,S1,A1,z1,t1⟩,⟨d2_,D2_,S2,A2,z2,t2⟩⟩ := id DT
 have hvd9 : vd.length = 96 := hvd
 have htk9 : vd.take cs.length = own_by cs := by rw [← Nat.one_mul cs.length]; exact htk
 obtain ⟨cl_,Ar_,q_,S_,N_,H_,G_⟩ := id B
 have Sz_ : cl_.slots.size = 96 := S_
 have e_ : (0:Nat) = 0 := rfl
 have D := D35 Bd.bytes
 have N0 := Fr.nil n0
 obtain ⟨T5,X5,e5,st5⟩ := getS2 X0 hx hZ hown (host:="") (Or.inl (zW hw 188 rfl)) Via.refl e0 (S1.ext O.2) (g:=(mkF m 78 #[vi (-v_),vi (I (cs.length + 1 + 1)),vr a3,.unset,.unset,vi ((I (cs.length + 1 + 1)) + (-1 : Int32)),vi 0] [(.int ((I (cs.length + 1 + 1)) + (-1 : Int32))),.ref a3])) rfl (D 17 rfl)
 have hp_7 : ((I (cs.length + 1 + 1)) + (-1 : Int32)) = I (cs.length + 1) := own_pred _
 have x_7 : (((I (cs.length + 1 + 1)) + (-1 : Int32))).toNatClampNeg = cs.length + 1 := by rw [hp_7]; exact own_cl _ (by omega)
 have hin_7 : ¬ (((I (cs.length + 1 + 1)) + (-1 : Int32)) < 0 ∨ cl_.slots.size ≤ (((I (cs.length + 1 + 1)) + (-1 : Int32))).toNatClampNeg) := by rw [x_7,Sz_,hp_7]; exact fun q => q.elim (own_nn _ (by omega)) (by omega)
 obtain ⟨T7,h7,X7,e7,W7,st7⟩ := stB X5 hx hZ e5 Ar_ (j:=((I (cs.length + 1 + 1)) + (-1 : Int32))) hin_7 (g:=(mkF m 84 #[vi (-v_),vi (I (cs.length + 1 + 1)),vr a3,.unset,.unset,vi ((I (cs.length + 1 + 1)) + (-1 : Int32)),vi 0] [.int w_,(.int ((I (cs.length + 1 + 1)) + (-1 : Int32))),.ref a3])) rfl rfl (D 21 rfl)
 have N7 := Fr.snoc X7 N0 g_a3
 have K7 : Keep h0 h7 [a3] := (Keep.refl h0 [a3]).wr W7 (Or.inl (List.mem_of_getElem? (i:=0) rfl))
 have O7 := O.keep K7 (allS g_a3 all0)
 have V7 := Arv.set Ar_ q_ S_ N_ H_ G_ (fits_nar_byte _) W7 (cs.length + 1) x_7 (by omega)
 obtain ⟨cl7_,Ar7_,q7_,S7_,N7_,H7_,G7_⟩ := id V7
 have Sz7_ : cl7_.slots.size = 96 := S7_
 obtain ⟨T9,X9,e9,st9⟩ := getS2 X7 hx hZ hown (host:="") (Or.inl (zW hw 345 rfl)) Via.refl e7 (S2.ext O7.2) (g:=(mkF m 97 #[vi (-v_),vi (I (cs.length + 1 + 1)),vr a3,.unset,.unset,vi (((I (cs.length + 1 + 1)) + (-1 : Int32)) + (-1 : Int32)),vi 0] [(.int (((I (cs.length + 1 + 1)) + (-1 : Int32)) + (-1 : Int32))),.ref a3])) rfl (D 32 rfl)
 have hp_11 : (((I (cs.length + 1 + 1)) + (-1 : Int32)) + (-1 : Int32)) = I (cs.length) := by rw [hp_7]; exact own_pred _
 have x_11 : ((((I (cs.length + 1 + 1)) + (-1 : Int32)) + (-1 : Int32))).toNatClampNeg = cs.length := by rw [hp_11]; exact own_cl _ (by omega)
 have hin_11 : ¬ ((((I (cs.length + 1 + 1)) + (-1 : Int32)) + (-1 : Int32)) < 0 ∨ cl7_.slots.size ≤ ((((I (cs.length + 1 + 1)) + (-1 : Int32)) + (-1 : Int32))).toNatClampNeg) := by rw [x_11,Sz7_,hp_11]; exact fun q => q.elim (own_nn _ (by omega)) (by omega)
 obtain ⟨T11,h11,X11,e11,W11,st11⟩ := stB X9 hx hZ e9 Ar7_ (j:=(((I (cs.length + 1 + 1)) + (-1 : Int32)) + (-1 : Int32))) hin_11 (g:=(mkF m 103 #[vi (-v_),vi (I (cs.length + 1 + 1)),vr a3,.unset,.unset,vi (((I (cs.length + 1 + 1)) + (-1 : Int32)) + (-1 : Int32)),vi 0] [.int 49,(.int (((I (cs.length + 1 + 1)) + (-1 : Int32)) + (-1 : Int32))),.ref a3])) rfl rfl (D 36 rfl)
 have N11 := Fr.snoc X11 N7 g_a3
 have K11 : Keep h0 h11 [a3] := K7.wr W11 (Or.inl (List.mem_of_getElem? (i:=0) rfl))
 have O11 := O.keep K11 (allS g_a3 all0)
 have V11 := Arv.set Ar7_ q7_ S7_ N7_ H7_ G7_ (fits_nar_byte _) W11 (cs.length) x_11 (by rw [List.length_set]; omega)
 obtain ⟨cl11_,Ar11_,q11_,S11_,N11_,H11_,G11_⟩ := id V11
 have Sz11_ : cl11_.slots.size = 96 := S11_
 refine zL Bd X11 (ef_35 m v_ (I (cs.length + 1 + 1)) a3) (some (.int (((I (cs.length + 1 + 1)) + (-1 : Int32)) + (-1 : Int32)))) nofun (by decide) (by decide) (fun fs hr => ?_) ?_
 · refine iN X0.here hx rfl (D 0 rfl) rfl (iS X0.here hx rfl (D 1 rfl) rfl (l':=#[vi v_,vi (I (cs.length + 1 + 1)),vr a3,.unset,.unset,vi (I (cs.length + 1 + 1)),.unset]) rfl (iN X0.here hx rfl (D 2 rfl) rfl (fY X0.here hx rfl (pc0 := 4) (pc':=11) rfl (D 3 rfl) rfl ((if0 _ _).trans (flt (by apply zC1 hv <;> decide)).2.1) (by decide) (by decide) ?_)))
   refine iC X0.here hx rfl (D 4 rfl) (iS X0.here hx rfl (D 5 rfl) rfl (l':=#[vi v_,vi (I (cs.length + 1 + 1)),vr a3,.unset,.unset,vi (I (cs.length + 1 + 1)),vi 0]) rfl (iL X0.here hx rfl (D 6 rfl) rfl (fN X0.here hx rfl (D 7 rfl) rfl ((if0 _ _).trans (teq (rfl:(0:Int32) = 0)).2) ?_)))
   refine iN X0.here hx rfl (D 8 rfl) rfl (XS.ineg X0.here hx rfl (D 9 rfl) rfl (sN X0.here hx rfl (D 10 rfl) rfl (l':=#[vi (-v_),vi (I (cs.length + 1 + 1)),vr a3,.unset,.unset,vi (I (cs.length + 1 + 1)),vi 0]) rfl (iN X0.here hx rfl (D 11 rfl) rfl ?_)))
   refine bP X0.here hx rfl (D 12 rfl) (cY X0.here hx rfl (pc0 := 25) (pc':=72) rfl (D 13 rfl) rfl (tlt (by apply zC1 hv <;> decide)).2.2.1 (by decide) (by decide) (aN X0.here hx rfl (D 14 rfl) rfl rfl (iI X0.here hx rfl (D 15 rfl) rfl (l':=#[vi (-v_),vi (I (cs.length + 1 + 1)),vr a3,.unset,.unset,vi ((I (cs.length + 1 + 1)) + (-1 : Int32)),vi 0]) rfl ?_)))
   refine iL X0.here hx rfl (D 16 rfl) rfl (st5 _ (iN X5.here hx rfl (D 18 rfl) rfl (XS.ineg X5.here hx rfl (D 19 rfl) rfl ?_)))
   refine X5.baloadBytes hx (j:=(-(-v_))) (v:=(.int w_)) (by rw [e5]; exact (A1.ext O.2).1) (State.isArrayOf_alike hZ.alike (A1.ext O.2).2.1) (A1.ext O.2).2.2 (by rw [z1]; apply zC1 hv <;> decide) (by rcases hv with ⟨rfl,rfl⟩ | ⟨rfl,rfl⟩ <;> exact t1 _ (by decide)) (g:=(mkF m 83 #[vi (-v_),vi (I (cs.length + 1 + 1)),vr a3,.unset,.unset,vi ((I (cs.length + 1 + 1)) + (-1 : Int32)),vi 0] [(.int (-(-v_))),.ref d1_,(.int ((I (cs.length + 1 + 1)) + (-1 : Int32))),.ref a3])) rfl rfl (D 20 rfl) _ (st7 _ (iN X7.here hx rfl (D 22 rfl) rfl (bP X7.here hx rfl (D 23 rfl) ?_)))
   refine cN X7.here hx rfl (D 24 rfl) rfl (tlt (by apply zC1 hv <;> decide)).2.1 (aN X7.here hx rfl (D 29 rfl) rfl rfl (iI X7.here hx rfl (D 30 rfl) rfl (l':=#[vi (-v_),vi (I (cs.length + 1 + 1)),vr a3,.unset,.unset,vi (((I (cs.length + 1 + 1)) + (-1 : Int32)) + (-1 : Int32)),vi 0]) rfl (iL X7.here hx rfl (D 31 rfl) rfl ?_)))
   refine st9 _ (iN X9.here hx rfl (D 33 rfl) rfl (XS.ineg X9.here hx rfl (D 34 rfl) rfl (X9.baloadBytes hx (j:=(-(-v_))) (v:=(.int 49)) (by rw [e9]; exact (A2.ext O7.2).1) (State.isArrayOf_alike hZ.alike (A2.ext O7.2).2.1) (A2.ext O7.2).2.2 (by rw [z2]; apply zC1 hv <;> decide) (by rcases hv with ⟨rfl,rfl⟩ | ⟨rfl,rfl⟩ <;> exact t2 _ (by decide)) (g:=(mkF m 102 #[vi (-v_),vi (I (cs.length + 1 + 1)),vr a3,.unset,.unset,vi (((I (cs.length + 1 + 1)) + (-1 : Int32)) + (-1 : Int32)),vi 0] [(.int (-(-v_))),.ref d2_,(.int (((I (cs.length + 1 + 1)) + (-1 : Int32)) + (-1 : Int32))),.ref a3])) rfl rfl (D 35 rfl) _ ?_)))
   refine st11 _ (iL X11.here hx rfl (D 25 rfl) rfl (fY X11.here hx rfl (pc0 := 106) (pc':=118) rfl (D 26 rfl) rfl ((if0 _ _).trans (teq (rfl:(0:Int32) = 0)).1) (by decide) (by decide) (iL X11.here hx rfl (D 27 rfl) rfl ?_)))
   exact retI X11 hx Bd.returns (D 28 rfl) hr
 · show QG Z a3 kd false (cs ++ [49,w_]) h0 n0 _ T11.heap _
   rw [e11]
   refine ⟨⟨_,rfl⟩,N11,K11,_,V11,by rw [List.length_set,List.length_set]; exact hvd,?_⟩
   rw [List.length_append]
   show List.take (1 * (cs.length + 2)) _ = own_by _
   rw [Nat.one_mul]
   exact own_st2 vd cs cs.length 49 w_ htk9 (by omega)
theorem r35_100 (l:Launch) (Z:State) (a0:Array Value) (hw:zH Z a0) (ws:List Jvm.Cond) (a3:Addr) (cs:List Int32) (kd:ClassId) (vd:List Value) (h0:Heap) (n0:Nat) (Z0:n0 ≤ h0.size) (DT:own_DT Z) (B:Arv Z h0 a3 kd .byte (I (own_k false * 96)) vd (.int 0)) (hvd:vd.length = own_k false * 96) (htk:vd.take (own_k false * cs.length) = own_enc false cs) (g_a3:n0 ≤ a3) (hq:cs.length + 3 ≤ 96) (O:Old Z n0 h0) (v_ w_:Int32) (hv:zV2 v_ w_) :
   zM l Z h0 ws y_1 jdk_33_method_12_code 7 (some .int) (zr 0 0 0 0) #[.int v_,(.int (I (cs.length + 1 + 1 + 1))),.ref a3] (QG Z a3 kd false (cs ++ [49,48,w_]) h0 n0) := by
 refine zE pn_34 rfl fun p e s m below meth c s₁ Bd hx hby hml hown hZ X0 e0 => ?_
 obtain ⟨⟨d1_,D1_,S1,A1,z1,t1⟩,⟨d2_,D2_,S2,A2,z2,t2⟩⟩ := id DT
 have hvd9 : vd.length = 96 := hvd
 have htk9 : vd.take cs.length = own_by cs := by rw [← Nat.one_mul cs.length]; exact htk
 obtain ⟨cl_,Ar_,q_,S_,N_,H_,G_⟩ := id B
 have Sz_ : cl_.slots.size = 96 := S_
 have e_ : (0:Nat) = 0 := rfl
 have D := D35 Bd.bytes
 have N0 := Fr.nil n0
 obtain ⟨T5,X5,e5,st5⟩ := getS2 X0 hx hZ hown (host:="") (Or.inl (zW hw 188 rfl)) Via.refl e0 (S1.ext O.2) (g:=(mkF m 49 #[vi ((-v_) / 100),vi (I (cs.length + 1 + 1 + 1)),vr a3,vi ((-v_) / 100),vi ((((-v_) / 100) * 100) - (-v_)),vi ((I (cs.length + 1 + 1 + 1)) + (-1 : Int32)),vi 0] [(.int ((I (cs.length + 1 + 1 + 1)) + (-1 : Int32))),.ref a3])) rfl (D 52 rfl)
 have hp_7 : ((I (cs.length + 1 + 1 + 1)) + (-1 : Int32)) = I (cs.length + 1 + 1) := own_pred _
 have x_7 : (((I (cs.length + 1 + 1 + 1)) + (-1 : Int32))).toNatClampNeg = cs.length + 1 + 1 := by rw [hp_7]; exact own_cl _ (by omega)
 have hin_7 : ¬ (((I (cs.length + 1 + 1 + 1)) + (-1 : Int32)) < 0 ∨ cl_.slots.size ≤ (((I (cs.length + 1 + 1 + 1)) + (-1 : Int32))).toNatClampNeg) := by rw [x_7,Sz_,hp_7]; exact fun q => q.elim (own_nn _ (by omega)) (by omega)
 obtain ⟨T7,h7,X7,e7,W7,st7⟩ := stB X5 hx hZ e5 Ar_ (j:=((I (cs.length + 1 + 1 + 1)) + (-1 : Int32))) hin_7 (g:=(mkF m 55 #[vi ((-v_) / 100),vi (I (cs.length + 1 + 1 + 1)),vr a3,vi ((-v_) / 100),vi ((((-v_) / 100) * 100) - (-v_)),vi ((I (cs.length + 1 + 1 + 1)) + (-1 : Int32)),vi 0] [.int w_,(.int ((I (cs.length + 1 + 1 + 1)) + (-1 : Int32))),.ref a3])) rfl rfl (D 55 rfl)
 have N7 := Fr.snoc X7 N0 g_a3
 have K7 : Keep h0 h7 [a3] := (Keep.refl h0 [a3]).wr W7 (Or.inl (List.mem_of_getElem? (i:=0) rfl))
 have O7 := O.keep K7 (allS g_a3 all0)
 have V7 := Arv.set Ar_ q_ S_ N_ H_ G_ (fits_nar_byte _) W7 (cs.length + 1 + 1) x_7 (by omega)
 obtain ⟨cl7_,Ar7_,q7_,S7_,N7_,H7_,G7_⟩ := id V7
 have Sz7_ : cl7_.slots.size = 96 := S7_
 obtain ⟨T9,X9,e9,st9⟩ := getS2 X7 hx hZ hown (host:="") (Or.inl (zW hw 345 rfl)) Via.refl e7 (S2.ext O7.2) (g:=(mkF m 62 #[vi ((-v_) / 100),vi (I (cs.length + 1 + 1 + 1)),vr a3,vi ((-v_) / 100),vi ((((-v_) / 100) * 100) - (-v_)),vi (((I (cs.length + 1 + 1 + 1)) + (-1 : Int32)) + (-1 : Int32)),vi 0] [(.int (((I (cs.length + 1 + 1 + 1)) + (-1 : Int32)) + (-1 : Int32))),.ref a3])) rfl (D 59 rfl)
 have hp_11 : (((I (cs.length + 1 + 1 + 1)) + (-1 : Int32)) + (-1 : Int32)) = I (cs.length + 1) := by rw [hp_7]; exact own_pred _
 have x_11 : ((((I (cs.length + 1 + 1 + 1)) + (-1 : Int32)) + (-1 : Int32))).toNatClampNeg = cs.length + 1 := by rw [hp_11]; exact own_cl _ (by omega)
 have hin_11 : ¬ ((((I (cs.length + 1 + 1 + 1)) + (-1 : Int32)) + (-1 : Int32)) < 0 ∨ cl7_.slots.size ≤ ((((I (cs.length + 1 + 1 + 1)) + (-1 : Int32)) + (-1 : Int32))).toNatClampNeg) := by rw [x_11,Sz7_,hp_11]; exact fun q => q.elim (own_nn _ (by omega)) (by omega)
 obtain ⟨T11,h11,X11,e11,W11,st11⟩ := stB X9 hx hZ e9 Ar7_ (j:=(((I (cs.length + 1 + 1 + 1)) + (-1 : Int32)) + (-1 : Int32))) hin_11 (g:=(mkF m 68 #[vi ((-v_) / 100),vi (I (cs.length + 1 + 1 + 1)),vr a3,vi ((-v_) / 100),vi ((((-v_) / 100) * 100) - (-v_)),vi (((I (cs.length + 1 + 1 + 1)) + (-1 : Int32)) + (-1 : Int32)),vi 0] [.int 48,(.int (((I (cs.length + 1 + 1 + 1)) + (-1 : Int32)) + (-1 : Int32))),.ref a3])) rfl rfl (D 62 rfl)
 have N11 := Fr.snoc X11 N7 g_a3
 have K11 : Keep h0 h11 [a3] := K7.wr W11 (Or.inl (List.mem_of_getElem? (i:=0) rfl))
 have O11 := O.keep K11 (allS g_a3 all0)
 have V11 := Arv.set Ar7_ q7_ S7_ N7_ H7_ G7_ (fits_nar_byte _) W11 (cs.length + 1) x_11 (by rw [List.length_set]; omega)
 obtain ⟨cl11_,Ar11_,q11_,S11_,N11_,H11_,G11_⟩ := id V11
 have Sz11_ : cl11_.slots.size = 96 := S11_
 obtain ⟨T12,X12,e12,st12⟩ := getS2 X11 hx hZ hown (host:="") (Or.inl (zW hw 188 rfl)) Via.refl e11 (S1.ext O11.2) (g:=(mkF m 78 #[vi ((-v_) / 100),vi (I (cs.length + 1 + 1 + 1)),vr a3,vi ((-v_) / 100),vi ((((-v_) / 100) * 100) - (-v_)),vi ((((I (cs.length + 1 + 1 + 1)) + (-1 : Int32)) + (-1 : Int32)) + (-1 : Int32)),vi 0] [(.int ((((I (cs.length + 1 + 1 + 1)) + (-1 : Int32)) + (-1 : Int32)) + (-1 : Int32))),.ref a3])) rfl (D 17 rfl)
 have hp_14 : ((((I (cs.length + 1 + 1 + 1)) + (-1 : Int32)) + (-1 : Int32)) + (-1 : Int32)) = I (cs.length) := by rw [hp_11]; exact own_pred _
 have x_14 : (((((I (cs.length + 1 + 1 + 1)) + (-1 : Int32)) + (-1 : Int32)) + (-1 : Int32))).toNatClampNeg = cs.length := by rw [hp_14]; exact own_cl _ (by omega)
 have hin_14 : ¬ (((((I (cs.length + 1 + 1 + 1)) + (-1 : Int32)) + (-1 : Int32)) + (-1 : Int32)) < 0 ∨ cl11_.slots.size ≤ (((((I (cs.length + 1 + 1 + 1)) + (-1 : Int32)) + (-1 : Int32)) + (-1 : Int32))).toNatClampNeg) := by rw [x_14,Sz11_,hp_14]; exact fun q => q.elim (own_nn _ (by omega)) (by omega)
 obtain ⟨T14,h14,X14,e14,W14,st14⟩ := stB X12 hx hZ e12 Ar11_ (j:=((((I (cs.length + 1 + 1 + 1)) + (-1 : Int32)) + (-1 : Int32)) + (-1 : Int32))) hin_14 (g:=(mkF m 84 #[vi ((-v_) / 100),vi (I (cs.length + 1 + 1 + 1)),vr a3,vi ((-v_) / 100),vi ((((-v_) / 100) * 100) - (-v_)),vi ((((I (cs.length + 1 + 1 + 1)) + (-1 : Int32)) + (-1 : Int32)) + (-1 : Int32)),vi 0] [.int 49,(.int ((((I (cs.length + 1 + 1 + 1)) + (-1 : Int32)) + (-1 : Int32)) + (-1 : Int32))),.ref a3])) rfl rfl (D 21 rfl)
 have N14 := Fr.snoc X14 N11 g_a3
 have K14 : Keep h0 h14 [a3] := K11.wr W14 (Or.inl (List.mem_of_getElem? (i:=0) rfl))
 have O14 := O.keep K14 (allS g_a3 all0)
 have V14 := Arv.set Ar11_ q11_ S11_ N11_ H11_ G11_ (fits_nar_byte _) W14 (cs.length) x_14 (by rw [List.length_set,List.length_set]; omega)
 obtain ⟨cl14_,Ar14_,q14_,S14_,N14_,H14_,G14_⟩ := id V14
 have Sz14_ : cl14_.slots.size = 96 := S14_
 refine zL Bd X14 (ef_35 m v_ (I (cs.length + 1 + 1 + 1)) a3) (some (.int ((((I (cs.length + 1 + 1 + 1)) + (-1 : Int32)) + (-1 : Int32)) + (-1 : Int32)))) nofun (by decide) (by decide) (fun fs hr => ?_) ?_
 · refine iN X0.here hx rfl (D 0 rfl) rfl (iS X0.here hx rfl (D 1 rfl) rfl (l':=#[vi v_,vi (I (cs.length + 1 + 1 + 1)),vr a3,.unset,.unset,vi (I (cs.length + 1 + 1 + 1)),.unset]) rfl (iN X0.here hx rfl (D 2 rfl) rfl (fY X0.here hx rfl (pc0 := 4) (pc':=11) rfl (D 3 rfl) rfl ((if0 _ _).trans (flt (by apply zC2 hv <;> decide)).2.1) (by decide) (by decide) ?_)))
   refine iC X0.here hx rfl (D 4 rfl) (iS X0.here hx rfl (D 5 rfl) rfl (l':=#[vi v_,vi (I (cs.length + 1 + 1 + 1)),vr a3,.unset,.unset,vi (I (cs.length + 1 + 1 + 1)),vi 0]) rfl (iL X0.here hx rfl (D 6 rfl) rfl (fN X0.here hx rfl (D 7 rfl) rfl ((if0 _ _).trans (teq (rfl:(0:Int32) = 0)).2) ?_)))
   refine iN X0.here hx rfl (D 8 rfl) rfl (XS.ineg X0.here hx rfl (D 9 rfl) rfl (sN X0.here hx rfl (D 10 rfl) rfl (l':=#[vi (-v_),vi (I (cs.length + 1 + 1 + 1)),vr a3,.unset,.unset,vi (I (cs.length + 1 + 1 + 1)),vi 0]) rfl (iN X0.here hx rfl (D 11 rfl) rfl ?_)))
   refine bP X0.here hx rfl (D 12 rfl) (cN X0.here hx rfl (D 13 rfl) rfl (flt (by apply zC2 hv <;> decide)).2.2.1 (iN X0.here hx rfl (D 37 rfl) rfl (bP X0.here hx rfl (D 38 rfl) ?_)))
   refine XS.idiv X0.here hx rfl (D 39 rfl) rfl (by decide) (sN X0.here hx rfl (D 40 rfl) rfl (l':=#[vi (-v_),vi (I (cs.length + 1 + 1 + 1)),vr a3,vi ((-v_) / 100),.unset,vi (I (cs.length + 1 + 1 + 1)),vi 0]) rfl (iN X0.here hx rfl (D 41 rfl) rfl (bP X0.here hx rfl (D 42 rfl) ?_)))
   refine XS.imul X0.here hx rfl (D 43 rfl) rfl (iN X0.here hx rfl (D 44 rfl) rfl (iB X0.here hx rfl (D 45 rfl) rfl (iS X0.here hx rfl (D 46 rfl) rfl (l':=#[vi (-v_),vi (I (cs.length + 1 + 1 + 1)),vr a3,vi ((-v_) / 100),vi ((((-v_) / 100) * 100) - (-v_)),vi (I (cs.length + 1 + 1 + 1)),vi 0]) rfl ?_)))
   refine iN X0.here hx rfl (D 47 rfl) rfl (sN X0.here hx rfl (D 48 rfl) rfl (l':=#[vi ((-v_) / 100),vi (I (cs.length + 1 + 1 + 1)),vr a3,vi ((-v_) / 100),vi ((((-v_) / 100) * 100) - (-v_)),vi (I (cs.length + 1 + 1 + 1)),vi 0]) rfl (aN X0.here hx rfl (D 49 rfl) rfl rfl (iI X0.here hx rfl (D 50 rfl) rfl (l':=#[vi ((-v_) / 100),vi (I (cs.length + 1 + 1 + 1)),vr a3,vi ((-v_) / 100),vi ((((-v_) / 100) * 100) - (-v_)),vi ((I (cs.length + 1 + 1 + 1)) + (-1 : Int32)),vi 0]) rfl ?_)))
   refine iL X0.here hx rfl (D 51 rfl) rfl (st5 _ (iL X5.here hx rfl (D 53 rfl) rfl (X5.baloadBytes hx (j:=((((-v_) / 100) * 100) - (-v_))) (v:=(.int w_)) (by rw [e5]; exact (A1.ext O.2).1) (State.isArrayOf_alike hZ.alike (A1.ext O.2).2.1) (A1.ext O.2).2.2 (by rw [z1]; apply zC2 hv <;> decide) (by rcases hv with ⟨rfl,rfl⟩ | ⟨rfl,rfl⟩ <;> exact t1 _ (by decide)) (g:=(mkF m 54 #[vi ((-v_) / 100),vi (I (cs.length + 1 + 1 + 1)),vr a3,vi ((-v_) / 100),vi ((((-v_) / 100) * 100) - (-v_)),vi ((I (cs.length + 1 + 1 + 1)) + (-1 : Int32)),vi 0] [(.int ((((-v_) / 100) * 100) - (-v_))),.ref d1_,(.int ((I (cs.length + 1 + 1 + 1)) + (-1 : Int32))),.ref a3])) rfl rfl (D 54 rfl) _ ?_)))
   refine st7 _ (aN X7.here hx rfl (D 56 rfl) rfl rfl (iI X7.here hx rfl (D 57 rfl) rfl (l':=#[vi ((-v_) / 100),vi (I (cs.length + 1 + 1 + 1)),vr a3,vi ((-v_) / 100),vi ((((-v_) / 100) * 100) - (-v_)),vi (((I (cs.length + 1 + 1 + 1)) + (-1 : Int32)) + (-1 : Int32)),vi 0]) rfl (iL X7.here hx rfl (D 58 rfl) rfl ?_)))
   refine st9 _ (iL X9.here hx rfl (D 60 rfl) rfl (X9.baloadBytes hx (j:=((((-v_) / 100) * 100) - (-v_))) (v:=(.int 48)) (by rw [e9]; exact (A2.ext O7.2).1) (State.isArrayOf_alike hZ.alike (A2.ext O7.2).2.1) (A2.ext O7.2).2.2 (by rw [z2]; apply zC2 hv <;> decide) (by rcases hv with ⟨rfl,rfl⟩ | ⟨rfl,rfl⟩ <;> exact t2 _ (by decide)) (g:=(mkF m 67 #[vi ((-v_) / 100),vi (I (cs.length + 1 + 1 + 1)),vr a3,vi ((-v_) / 100),vi ((((-v_) / 100) * 100) - (-v_)),vi (((I (cs.length + 1 + 1 + 1)) + (-1 : Int32)) + (-1 : Int32)),vi 0] [(.int ((((-v_) / 100) * 100) - (-v_))),.ref d2_,(.int (((I (cs.length + 1 + 1 + 1)) + (-1 : Int32)) + (-1 : Int32))),.ref a3])) rfl rfl (D 61 rfl) _ (st11 _ ?_)))
   refine gT X11.here hx rfl (pc0 := 69) (pc':=22) rfl (D 63 rfl) (by decide) (by decide) (iN X11.here hx rfl (D 11 rfl) rfl (bP X11.here hx rfl (D 12 rfl) (cY X11.here hx rfl (pc0 := 25) (pc':=72) rfl (D 13 rfl) rfl (tlt (by apply zC2 hv <;> decide)).2.2.1 (by decide) (by decide) ?_)))
   refine aN X11.here hx rfl (D 14 rfl) rfl rfl (iI X11.here hx rfl (D 15 rfl) rfl (l':=#[vi ((-v_) / 100),vi (I (cs.length + 1 + 1 + 1)),vr a3,vi ((-v_) / 100),vi ((((-v_) / 100) * 100) - (-v_)),vi ((((I (cs.length + 1 + 1 + 1)) + (-1 : Int32)) + (-1 : Int32)) + (-1 : Int32)),vi 0]) rfl (iL X11.here hx rfl (D 16 rfl) rfl (st12 _ ?_)))
   refine iN X12.here hx rfl (D 18 rfl) rfl (XS.ineg X12.here hx rfl (D 19 rfl) rfl (X12.baloadBytes hx (j:=(-((-v_) / 100))) (v:=(.int 49)) (by rw [e12]; exact (A1.ext O11.2).1) (State.isArrayOf_alike hZ.alike (A1.ext O11.2).2.1) (A1.ext O11.2).2.2 (by rw [z1]; apply zC2 hv <;> decide) (by rcases hv with ⟨rfl,rfl⟩ | ⟨rfl,rfl⟩ <;> exact t1 _ (by decide)) (g:=(mkF m 83 #[vi ((-v_) / 100),vi (I (cs.length + 1 + 1 + 1)),vr a3,vi ((-v_) / 100),vi ((((-v_) / 100) * 100) - (-v_)),vi ((((I (cs.length + 1 + 1 + 1)) + (-1 : Int32)) + (-1 : Int32)) + (-1 : Int32)),vi 0] [(.int (-((-v_) / 100))),.ref d1_,(.int ((((I (cs.length + 1 + 1 + 1)) + (-1 : Int32)) + (-1 : Int32)) + (-1 : Int32))),.ref a3])) rfl rfl (D 20 rfl) _ (st14 _ ?_)))
   refine iN X14.here hx rfl (D 22 rfl) rfl (bP X14.here hx rfl (D 23 rfl) (cY X14.here hx rfl (pc0 := 88) (pc':=104) rfl (D 24 rfl) rfl (flt (by apply zC2 hv <;> decide)).2.1 (by decide) (by decide) (iL X14.here hx rfl (D 25 rfl) rfl ?_)))
   refine fY X14.here hx rfl (pc0 := 106) (pc':=118) rfl (D 26 rfl) rfl ((if0 _ _).trans (teq (rfl:(0:Int32) = 0)).1) (by decide) (by decide) (iL X14.here hx rfl (D 27 rfl) rfl ?_)
   exact retI X14 hx Bd.returns (D 28 rfl) hr
 · show QG Z a3 kd false (cs ++ [49,48,w_]) h0 n0 _ T14.heap _
   rw [e14]
   refine ⟨⟨_,rfl⟩,N14,K14,_,V14,by rw [List.length_set,List.length_set,List.length_set]; exact hvd,?_⟩
   rw [List.length_append]
   show List.take (1 * (cs.length + 3)) _ = own_by _
   rw [Nat.one_mul]
   exact own_st3 vd cs cs.length 49 48 w_ htk9 (by omega)
theorem r35 (l:Launch) (Z:State) (a0:Array Value) (hw:zH Z a0) (ws:List Jvm.Cond) (p1:Int32) (a3:Addr) (cs:List Int32) (kd:ClassId) (vd:List Value) (h0:Heap) (n0:Nat) (Z0:n0 ≤ h0.size) (DT:own_DT Z) (B:Arv Z h0 a3 kd .byte (I (own_k false * 96)) vd (.int 0)) (hvd:vd.length = own_k false * 96) (htk:vd.take (own_k false * cs.length) = own_enc false cs) (g_a3:n0 ≤ a3) (hq:cs.length + 3 ≤ 96) (O:Old Z n0 h0) (hp:own_cnt p1) :
   zM l Z h0 ws y_1 jdk_33_method_12_code 7 (some .int) (zr 0 0 0 0) #[.int p1,(.int (I (cs.length + (own_dg p1).length))),.ref a3] (QG Z a3 kd false (cs ++ own_dg p1) h0 n0) := by
 rcases hp with rfl | rfl | rfl | rfl | rfl | rfl | rfl
 · exact r35_1 l Z a0 hw ws a3 cs kd vd h0 n0 Z0 DT B hvd htk g_a3 hq O 1 49 (Or.inl ⟨rfl,rfl⟩)
 · exact r35_1 l Z a0 hw ws a3 cs kd vd h0 n0 Z0 DT B hvd htk g_a3 hq O 2 50 (Or.inr (Or.inl ⟨rfl,rfl⟩))
 · exact r35_1 l Z a0 hw ws a3 cs kd vd h0 n0 Z0 DT B hvd htk g_a3 hq O 3 51 (Or.inr (Or.inr ⟨rfl,rfl⟩))
 · exact r35_11 l Z a0 hw ws a3 cs kd vd h0 n0 Z0 DT B hvd htk g_a3 hq O 11 49 (Or.inl ⟨rfl,rfl⟩)
 · exact r35_11 l Z a0 hw ws a3 cs kd vd h0 n0 Z0 DT B hvd htk g_a3 hq O 12 50 (Or.inr ⟨rfl,rfl⟩)
 · exact r35_100 l Z a0 hw ws a3 cs kd vd h0 n0 Z0 DT B hvd htk g_a3 hq O 100 48 (Or.inl ⟨rfl,rfl⟩)
 · exact r35_100 l Z a0 hw ws a3 cs kd vd h0 n0 Z0 DT B hvd htk g_a3 hq O 101 49 (Or.inr ⟨rfl,rfl⟩)
def l72 : zl := [(0,.iload_n 1,1),(1,.istore 5,2),(3,.iload_n 0,1),(4,.ifCond .ge 7,3),(11,.iconst 0,1),(12,.istore 6,2),(14,.iload 6,2),(16,.ifCond .ne 6,3),(19,.iload_n 0,1),(20,.ineg,1),(21,.istore_n 0,1),(22,.iload_n 0,1),(23,.bipush (-100),2),(25,.if_icmp .gt 51,3),(76,.aload_n 2,1),(77,.iinc 5 (-1),3),(80,.iload 5,2),(82,.getstatic 403,3),(85,.iload_n 0,1),(86,.ineg,1),(87,.baload,1),(88,.invokestatic 111,3),(91,.iload_n 0,1),(92,.bipush (-9),2),(94,.if_icmp .ge 18,3),(112,.iload 6,2),(114,.ifCond .eq 14,3),(128,.iload 5,2),(130,.ireturn,1),(97,.aload_n 2,1),(98,.iinc 5 (-1),3),(101,.iload 5,2),(103,.getstatic 407,3),(106,.iload_n 0,1),(107,.ineg,1),(108,.baload,1),(109,.invokestatic 111,3),(28,.iload_n 0,1),(29,.bipush 100,2),(31,.idiv,1),(32,.istore_n 3,1),(33,.iload_n 3,1),(34,.bipush 100,2),(36,.imul,1),(37,.iload_n 0,1),(38,.isub,1),(39,.istore 4,2),(41,.iload_n 3,1),(42,.istore_n 0,1),(43,.aload_n 2,1),(44,.iinc 5 (-1),3),(47,.iload 5,2),(49,.getstatic 403,3),(52,.iload 4,2),(54,.baload,1),(55,.invokestatic 111,3),(58,.aload_n 2,1),(59,.iinc 5 (-1),3),(62,.iload 5,2),(64,.getstatic 407,3),(67,.iload 4,2),(69,.baload,1),(70,.invokestatic 111,3),(73,.goto (-51),3)]
theorem D72 : zq jdk_52_method_89_code l72 := zd (by decide +kernel)
theorem r72_1 (l:Launch) (Z:State) (a0:Array Value) (hw:zH Z a0) (ws:List Jvm.Cond) (a3:Addr) (cs:List Int32) (kd:ClassId) (vd:List Value) (h0:Heap) (n0:Nat) (Z0:n0 ≤ h0.size) (DT:own_DT Z) (B:Arv Z h0 a3 kd .byte (I (own_k true * 96)) vd (.int 0)) (hvd:vd.length = own_k true * 96) (htk:vd.take (own_k true * cs.length) = own_enc true cs) (g_a3:n0 ≤ a3) (hq:cs.length + 3 ≤ 96) (O:Old Z n0 h0) (SA0:Sta Z Z.heap "java/lang/StringUTF16" "$assertionsDisabled" "Z" (.int 1)) (SH0:Sta Z Z.heap "java/lang/StringUTF16" "HI_BYTE_SHIFT" "I" (.int 0)) (SL0:Sta Z Z.heap "java/lang/StringUTF16" "LO_BYTE_SHIFT" "I" (.int 8)) (v_ w_:Int32) (hv:zV0 v_ w_) :
   zM l Z h0 ws y_5 jdk_52_method_89_code 7 (some .int) (zr 1 0 0 14) #[.int v_,(.int (I (cs.length + 1))),.ref a3] (QG Z a3 kd true (cs ++ [w_]) h0 n0) := by
 refine zE pn_61 rfl fun p e s m below meth c s₁ Bd hx hby hml hown hZ X0 e0 => ?_
 obtain ⟨⟨d1_,D1_,S1,A1,z1,t1⟩,⟨d2_,D2_,S2,A2,z2,t2⟩⟩ := id DT
 have D := D72 Bd.bytes
 have N0 := Fr.nil n0
 obtain ⟨T5,X5,e5,st5⟩ := getS2 X0 hx hZ hown (host:="") (Or.inl (zW hw 338 rfl)) Via.refl e0 (S1.ext O.2) (g:=(mkF m 82 #[vi (-v_),vi (I (cs.length + 1)),vr a3,.unset,.unset,vi ((I (cs.length + 1)) + (-1 : Int32)),vi 0] [(.int ((I (cs.length + 1)) + (-1 : Int32))),.ref a3])) rfl (D 17 rfl)
 have hp_7 : ((I (cs.length + 1)) + (-1 : Int32)) = I (cs.length) := own_pred _
 obtain ⟨_,T7,Lc7,X7,hQ7,st7⟩ := zS X5 hx hZ hown (zW hw 281 rfl) (zW hw 282 rfl) (zW hw 50 rfl) (zW hw 283 rfl) (by decide) (r57 l Z a0 hw [] a3 ((I (cs.length + 1)) + (-1 : Int32)) w_ kd 96 (cs.length) vd h0 n0 Z0 hp_7 (by omega) (by decide) B hvd g_a3 (SA0.ext O.2) (SH0.ext O.2) (SL0.ext O.2)) (by decide) (by decide) (W:=0) (g:=(mkF m 88 #[vi (-v_),vi (I (cs.length + 1)),vr a3,.unset,.unset,vi ((I (cs.length + 1)) + (-1 : Int32)),vi 0] [.int w_,(.int ((I (cs.length + 1)) + (-1 : Int32))),.ref a3])) rfl (by rw [hml]; rfl) (argsL:=[.ref a3,(.int ((I (cs.length + 1)) + (-1 : Int32))),.int w_]) (rest:=[]) (lenOf pd_54_45 rfl) rfl (Nat.le_of_eq rfl) (D 21 rfl) rfl e5 (by decide:0 + 0 ≤ _) (by decide:0 + 0 ≤ _)
 obtain ⟨rfl,N7q,Kq7,V7⟩ := hQ7
 have K7 : Keep h0 T7.heap [a3] := Kq7
 have O7 := O.keep K7 (allS g_a3 all0)
 have Z7 := Nat.le_trans Z0 K7.1
 obtain ⟨vs7,hvs7⟩ : ∃ x,x = own_put vd (cs.length) w_ := ⟨_,rfl⟩
 rw [← hvs7] at V7
 have hl7 : vs7.length = 2 * 96 := by rw [hvs7,own_put_len]; exact hvd
 have N7 := Fr.app N0 N7q
 refine zL Bd X7 (ef_35 m v_ (I (cs.length + 1)) a3) (some (.int ((I (cs.length + 1)) + (-1 : Int32)))) nofun (by decide) (by decide) (fun fs hr => ?_) ?_
 · refine iN X0.here hx rfl (D 0 rfl) rfl (iS X0.here hx rfl (D 1 rfl) rfl (l':=#[vi v_,vi (I (cs.length + 1)),vr a3,.unset,.unset,vi (I (cs.length + 1)),.unset]) rfl (iN X0.here hx rfl (D 2 rfl) rfl (fY X0.here hx rfl (pc0 := 4) (pc':=11) rfl (D 3 rfl) rfl ((if0 _ _).trans (flt (by apply zC0 hv <;> decide)).2.1) (by decide) (by decide) ?_)))
   refine iC X0.here hx rfl (D 4 rfl) (iS X0.here hx rfl (D 5 rfl) rfl (l':=#[vi v_,vi (I (cs.length + 1)),vr a3,.unset,.unset,vi (I (cs.length + 1)),vi 0]) rfl (iL X0.here hx rfl (D 6 rfl) rfl (fN X0.here hx rfl (D 7 rfl) rfl ((if0 _ _).trans (teq (rfl:(0:Int32) = 0)).2) ?_)))
   refine iN X0.here hx rfl (D 8 rfl) rfl (XS.ineg X0.here hx rfl (D 9 rfl) rfl (sN X0.here hx rfl (D 10 rfl) rfl (l':=#[vi (-v_),vi (I (cs.length + 1)),vr a3,.unset,.unset,vi (I (cs.length + 1)),vi 0]) rfl (iN X0.here hx rfl (D 11 rfl) rfl ?_)))
   refine bP X0.here hx rfl (D 12 rfl) (cY X0.here hx rfl (pc0 := 25) (pc':=76) rfl (D 13 rfl) rfl (tlt (by apply zC0 hv <;> decide)).2.2.1 (by decide) (by decide) (aN X0.here hx rfl (D 14 rfl) rfl rfl (iI X0.here hx rfl (D 15 rfl) rfl (l':=#[vi (-v_),vi (I (cs.length + 1)),vr a3,.unset,.unset,vi ((I (cs.length + 1)) + (-1 : Int32)),vi 0]) rfl ?_)))
   refine iL X0.here hx rfl (D 16 rfl) rfl (st5 _ (iN X5.here hx rfl (D 18 rfl) rfl (XS.ineg X5.here hx rfl (D 19 rfl) rfl ?_)))
   refine X5.baloadBytes hx (j:=(-(-v_))) (v:=(.int w_)) (by rw [e5]; exact (A1.ext O.2).1) (State.isArrayOf_alike hZ.alike (A1.ext O.2).2.1) (A1.ext O.2).2.2 (by rw [z1]; apply zC0 hv <;> decide) (by rcases hv with ⟨rfl,rfl⟩ | ⟨rfl,rfl⟩ | ⟨rfl,rfl⟩ <;> exact t1 _ (by decide)) (g:=(mkF m 87 #[vi (-v_),vi (I (cs.length + 1)),vr a3,.unset,.unset,vi ((I (cs.length + 1)) + (-1 : Int32)),vi 0] [(.int (-(-v_))),.ref d1_,(.int ((I (cs.length + 1)) + (-1 : Int32))),.ref a3])) rfl rfl (D 20 rfl) _ (st7 _ (iN X7.here hx rfl (D 22 rfl) rfl (bP X7.here hx rfl (D 23 rfl) ?_)))
   refine cY X7.here hx rfl (pc0 := 94) (pc':=112) rfl (D 24 rfl) rfl (flt (by apply zC0 hv <;> decide)).2.1 (by decide) (by decide) (iL X7.here hx rfl (D 25 rfl) rfl (fY X7.here hx rfl (pc0 := 114) (pc':=128) rfl (D 26 rfl) rfl ((if0 _ _).trans (teq (rfl:(0:Int32) = 0)).1) (by decide) (by decide) (iL X7.here hx rfl (D 27 rfl) rfl ?_)))
   exact retI X7 hx Bd.returns (D 28 rfl) hr
 · show QG Z a3 kd true (cs ++ [w_]) h0 n0 _ T7.heap _
   refine ⟨⟨_,rfl⟩,N7,K7,_,V7,hl7,?_⟩
   rw [List.length_append]
   show List.take (2 * (cs.length + 1)) _ = StrChars.Road.wideBytes _
   rw [hvs7]
   exact own_put_take vd cs cs.length w_ htk (by rw [hvd]; show _ < 2 * 96; omega)
theorem r72_11 (l:Launch) (Z:State) (a0:Array Value) (hw:zH Z a0) (ws:List Jvm.Cond) (a3:Addr) (cs:List Int32) (kd:ClassId) (vd:List Value) (h0:Heap) (n0:Nat) (Z0:n0 ≤ h0.size) (DT:own_DT Z) (B:Arv Z h0 a3 kd .byte (I (own_k true * 96)) vd (.int 0)) (hvd:vd.length = own_k true * 96) (htk:vd.take (own_k true * cs.length) = own_enc true cs) (g_a3:n0 ≤ a3) (hq:cs.length + 3 ≤ 96) (O:Old Z n0 h0) (SA0:Sta Z Z.heap "java/lang/StringUTF16" "$assertionsDisabled" "Z" (.int 1)) (SH0:Sta Z Z.heap "java/lang/StringUTF16" "HI_BYTE_SHIFT" "I" (.int 0)) (SL0:Sta Z Z.heap "java/lang/StringUTF16" "LO_BYTE_SHIFT" "I" (.int 8)) (v_ w_:Int32) (hv:zV1 v_ w_) :
   zM l Z h0 ws y_5 jdk_52_method_89_code 7 (some .int) (zr 1 0 0 14) #[.int v_,(.int (I (cs.length + 1 + 1))),.ref a3] (QG Z a3 kd true (cs ++ [49,w_]) h0 n0) := by
 refine zE pn_61 rfl fun p e s m below meth c s₁ Bd hx hby hml hown hZ X0 e0 => ?_
 obtain ⟨⟨d1_,D1_,S1,A1,z1,t1⟩,⟨d2_,D2_,S2,A2,z2,t2⟩⟩ := id DT
 have D := D72 Bd.bytes
 have N0 := Fr.nil n0
 obtain ⟨T5,X5,e5,st5⟩ := getS2 X0 hx hZ hown (host:="") (Or.inl (zW hw 338 rfl)) Via.refl e0 (S1.ext O.2) (g:=(mkF m 82 #[vi (-v_),vi (I (cs.length + 1 + 1)),vr a3,.unset,.unset,vi ((I (cs.length + 1 + 1)) + (-1 : Int32)),vi 0] [(.int ((I (cs.length + 1 + 1)) + (-1 : Int32))),.ref a3])) rfl (D 17 rfl)
 have hp_7 : ((I (cs.length + 1 + 1)) + (-1 : Int32)) = I (cs.length + 1) := own_pred _
 obtain ⟨_,T7,Lc7,X7,hQ7,st7⟩ := zS X5 hx hZ hown (zW hw 281 rfl) (zW hw 282 rfl) (zW hw 50 rfl) (zW hw 283 rfl) (by decide) (r57 l Z a0 hw [] a3 ((I (cs.length + 1 + 1)) + (-1 : Int32)) w_ kd 96 (cs.length + 1) vd h0 n0 Z0 hp_7 (by omega) (by decide) B hvd g_a3 (SA0.ext O.2) (SH0.ext O.2) (SL0.ext O.2)) (by decide) (by decide) (W:=0) (g:=(mkF m 88 #[vi (-v_),vi (I (cs.length + 1 + 1)),vr a3,.unset,.unset,vi ((I (cs.length + 1 + 1)) + (-1 : Int32)),vi 0] [.int w_,(.int ((I (cs.length + 1 + 1)) + (-1 : Int32))),.ref a3])) rfl (by rw [hml]; rfl) (argsL:=[.ref a3,(.int ((I (cs.length + 1 + 1)) + (-1 : Int32))),.int w_]) (rest:=[]) (lenOf pd_54_45 rfl) rfl (Nat.le_of_eq rfl) (D 21 rfl) rfl e5 (by decide:0 + 0 ≤ _) (by decide:0 + 0 ≤ _)
 obtain ⟨rfl,N7q,Kq7,V7⟩ := hQ7
 have K7 : Keep h0 T7.heap [a3] := Kq7
 have O7 := O.keep K7 (allS g_a3 all0)
 have Z7 := Nat.le_trans Z0 K7.1
 obtain ⟨vs7,hvs7⟩ : ∃ x,x = own_put vd (cs.length + 1) w_ := ⟨_,rfl⟩
 rw [← hvs7] at V7
 have hl7 : vs7.length = 2 * 96 := by rw [hvs7,own_put_len]; exact hvd
 have N7 := Fr.app N0 N7q
 obtain ⟨T9,X9,e9,st9⟩ := getS2 X7 hx hZ hown (host:="") (Or.inl (zW hw 343 rfl)) Via.refl rfl (S2.ext O7.2) (g:=(mkF m 103 #[vi (-v_),vi (I (cs.length + 1 + 1)),vr a3,.unset,.unset,vi (((I (cs.length + 1 + 1)) + (-1 : Int32)) + (-1 : Int32)),vi 0] [(.int (((I (cs.length + 1 + 1)) + (-1 : Int32)) + (-1 : Int32))),.ref a3])) rfl (D 32 rfl)
 have hp_11 : (((I (cs.length + 1 + 1)) + (-1 : Int32)) + (-1 : Int32)) = I (cs.length) := by rw [hp_7]; exact own_pred _
 obtain ⟨_,T11,Lc11,X11,hQ11,st11⟩ := zS X9 hx hZ hown (zW hw 281 rfl) (zW hw 282 rfl) (zW hw 50 rfl) (zW hw 283 rfl) (by decide) (r57 l Z a0 hw [] a3 (((I (cs.length + 1 + 1)) + (-1 : Int32)) + (-1 : Int32)) (49:Int32) kd 96 (cs.length) vs7 T7.heap n0 Z7 hp_11 (by omega) (by decide) V7 hl7 g_a3 (SA0.ext O7.2) (SH0.ext O7.2) (SL0.ext O7.2)) (by decide) (by decide) (W:=0) (g:=(mkF m 109 #[vi (-v_),vi (I (cs.length + 1 + 1)),vr a3,.unset,.unset,vi (((I (cs.length + 1 + 1)) + (-1 : Int32)) + (-1 : Int32)),vi 0] [.int 49,(.int (((I (cs.length + 1 + 1)) + (-1 : Int32)) + (-1 : Int32))),.ref a3])) rfl (by rw [hml]; rfl) (argsL:=[.ref a3,(.int (((I (cs.length + 1 + 1)) + (-1 : Int32)) + (-1 : Int32))),.int 49]) (rest:=[]) (lenOf pd_54_45 rfl) rfl (Nat.le_of_eq rfl) (D 36 rfl) rfl e9 (by decide:0 + 0 ≤ _) (by decide:0 + 0 ≤ _)
 obtain ⟨rfl,N11q,Kq11,V11⟩ := hQ11
 have K11 : Keep h0 T11.heap [a3] := K7.trans Kq11 (fun x hx => Or.inl hx)
 have O11 := O.keep K11 (allS g_a3 all0)
 have Z11 := Nat.le_trans Z0 K11.1
 obtain ⟨vs11,hvs11⟩ : ∃ x,x = own_put vs7 (cs.length) (49:Int32) := ⟨_,rfl⟩
 rw [← hvs11] at V11
 have hl11 : vs11.length = 2 * 96 := by rw [hvs11,own_put_len]; exact hl7
 have N11 := Fr.app N7 N11q
 refine zL Bd X11 (ef_35 m v_ (I (cs.length + 1 + 1)) a3) (some (.int (((I (cs.length + 1 + 1)) + (-1 : Int32)) + (-1 : Int32)))) nofun (by decide) (by decide) (fun fs hr => ?_) ?_
 · refine iN X0.here hx rfl (D 0 rfl) rfl (iS X0.here hx rfl (D 1 rfl) rfl (l':=#[vi v_,vi (I (cs.length + 1 + 1)),vr a3,.unset,.unset,vi (I (cs.length + 1 + 1)),.unset]) rfl (iN X0.here hx rfl (D 2 rfl) rfl (fY X0.here hx rfl (pc0 := 4) (pc':=11) rfl (D 3 rfl) rfl ((if0 _ _).trans (flt (by apply zC1 hv <;> decide)).2.1) (by decide) (by decide) ?_)))
   refine iC X0.here hx rfl (D 4 rfl) (iS X0.here hx rfl (D 5 rfl) rfl (l':=#[vi v_,vi (I (cs.length + 1 + 1)),vr a3,.unset,.unset,vi (I (cs.length + 1 + 1)),vi 0]) rfl (iL X0.here hx rfl (D 6 rfl) rfl (fN X0.here hx rfl (D 7 rfl) rfl ((if0 _ _).trans (teq (rfl:(0:Int32) = 0)).2) ?_)))
   refine iN X0.here hx rfl (D 8 rfl) rfl (XS.ineg X0.here hx rfl (D 9 rfl) rfl (sN X0.here hx rfl (D 10 rfl) rfl (l':=#[vi (-v_),vi (I (cs.length + 1 + 1)),vr a3,.unset,.unset,vi (I (cs.length + 1 + 1)),vi 0]) rfl (iN X0.here hx rfl (D 11 rfl) rfl ?_)))
   refine bP X0.here hx rfl (D 12 rfl) (cY X0.here hx rfl (pc0 := 25) (pc':=76) rfl (D 13 rfl) rfl (tlt (by apply zC1 hv <;> decide)).2.2.1 (by decide) (by decide) (aN X0.here hx rfl (D 14 rfl) rfl rfl (iI X0.here hx rfl (D 15 rfl) rfl (l':=#[vi (-v_),vi (I (cs.length + 1 + 1)),vr a3,.unset,.unset,vi ((I (cs.length + 1 + 1)) + (-1 : Int32)),vi 0]) rfl ?_)))
   refine iL X0.here hx rfl (D 16 rfl) rfl (st5 _ (iN X5.here hx rfl (D 18 rfl) rfl (XS.ineg X5.here hx rfl (D 19 rfl) rfl ?_)))
   refine X5.baloadBytes hx (j:=(-(-v_))) (v:=(.int w_)) (by rw [e5]; exact (A1.ext O.2).1) (State.isArrayOf_alike hZ.alike (A1.ext O.2).2.1) (A1.ext O.2).2.2 (by rw [z1]; apply zC1 hv <;> decide) (by rcases hv with ⟨rfl,rfl⟩ | ⟨rfl,rfl⟩ <;> exact t1 _ (by decide)) (g:=(mkF m 87 #[vi (-v_),vi (I (cs.length + 1 + 1)),vr a3,.unset,.unset,vi ((I (cs.length + 1 + 1)) + (-1 : Int32)),vi 0] [(.int (-(-v_))),.ref d1_,(.int ((I (cs.length + 1 + 1)) + (-1 : Int32))),.ref a3])) rfl rfl (D 20 rfl) _ (st7 _ (iN X7.here hx rfl (D 22 rfl) rfl (bP X7.here hx rfl (D 23 rfl) ?_)))
   refine cN X7.here hx rfl (D 24 rfl) rfl (tlt (by apply zC1 hv <;> decide)).2.1 (aN X7.here hx rfl (D 29 rfl) rfl rfl (iI X7.here hx rfl (D 30 rfl) rfl (l':=#[vi (-v_),vi (I (cs.length + 1 + 1)),vr a3,.unset,.unset,vi (((I (cs.length + 1 + 1)) + (-1 : Int32)) + (-1 : Int32)),vi 0]) rfl (iL X7.here hx rfl (D 31 rfl) rfl ?_)))
   refine st9 _ (iN X9.here hx rfl (D 33 rfl) rfl (XS.ineg X9.here hx rfl (D 34 rfl) rfl (X9.baloadBytes hx (j:=(-(-v_))) (v:=(.int 49)) (by rw [e9]; exact (A2.ext O7.2).1) (State.isArrayOf_alike hZ.alike (A2.ext O7.2).2.1) (A2.ext O7.2).2.2 (by rw [z2]; apply zC1 hv <;> decide) (by rcases hv with ⟨rfl,rfl⟩ | ⟨rfl,rfl⟩ <;> exact t2 _ (by decide)) (g:=(mkF m 108 #[vi (-v_),vi (I (cs.length + 1 + 1)),vr a3,.unset,.unset,vi (((I (cs.length + 1 + 1)) + (-1 : Int32)) + (-1 : Int32)),vi 0] [(.int (-(-v_))),.ref d2_,(.int (((I (cs.length + 1 + 1)) + (-1 : Int32)) + (-1 : Int32))),.ref a3])) rfl rfl (D 35 rfl) _ ?_)))
   refine st11 _ (iL X11.here hx rfl (D 25 rfl) rfl (fY X11.here hx rfl (pc0 := 114) (pc':=128) rfl (D 26 rfl) rfl ((if0 _ _).trans (teq (rfl:(0:Int32) = 0)).1) (by decide) (by decide) (iL X11.here hx rfl (D 27 rfl) rfl ?_)))
   exact retI X11 hx Bd.returns (D 28 rfl) hr
 · show QG Z a3 kd true (cs ++ [49,w_]) h0 n0 _ T11.heap _
   refine ⟨⟨_,rfl⟩,N11,K11,_,V11,hl11,?_⟩
   rw [List.length_append]
   show List.take (2 * (cs.length + 2)) _ = StrChars.Road.wideBytes _
   rw [hvs11]; rw [hvs7]
   exact own_pt2 vd cs cs.length 49 w_ htk (by rw [hvd]; show _ < 2 * 96; omega)
theorem r72_100 (l:Launch) (Z:State) (a0:Array Value) (hw:zH Z a0) (ws:List Jvm.Cond) (a3:Addr) (cs:List Int32) (kd:ClassId) (vd:List Value) (h0:Heap) (n0:Nat) (Z0:n0 ≤ h0.size) (DT:own_DT Z) (B:Arv Z h0 a3 kd .byte (I (own_k true * 96)) vd (.int 0)) (hvd:vd.length = own_k true * 96) (htk:vd.take (own_k true * cs.length) = own_enc true cs) (g_a3:n0 ≤ a3) (hq:cs.length + 3 ≤ 96) (O:Old Z n0 h0) (SA0:Sta Z Z.heap "java/lang/StringUTF16" "$assertionsDisabled" "Z" (.int 1)) (SH0:Sta Z Z.heap "java/lang/StringUTF16" "HI_BYTE_SHIFT" "I" (.int 0)) (SL0:Sta Z Z.heap "java/lang/StringUTF16" "LO_BYTE_SHIFT" "I" (.int 8)) (v_ w_:Int32) (hv:zV2 v_ w_) :
   zM l Z h0 ws y_5 jdk_52_method_89_code 7 (some .int) (zr 1 0 0 14) #[.int v_,(.int (I (cs.length + 1 + 1 + 1))),.ref a3] (QG Z a3 kd true (cs ++ [49,48,w_]) h0 n0) := by
 refine zE pn_61 rfl fun p e s m below meth c s₁ Bd hx hby hml hown hZ X0 e0 => ?_
 obtain ⟨⟨d1_,D1_,S1,A1,z1,t1⟩,⟨d2_,D2_,S2,A2,z2,t2⟩⟩ := id DT
 have D := D72 Bd.bytes
 have N0 := Fr.nil n0
 obtain ⟨T5,X5,e5,st5⟩ := getS2 X0 hx hZ hown (host:="") (Or.inl (zW hw 338 rfl)) Via.refl e0 (S1.ext O.2) (g:=(mkF m 49 #[vi ((-v_) / 100),vi (I (cs.length + 1 + 1 + 1)),vr a3,vi ((-v_) / 100),vi ((((-v_) / 100) * 100) - (-v_)),vi ((I (cs.length + 1 + 1 + 1)) + (-1 : Int32)),vi 0] [(.int ((I (cs.length + 1 + 1 + 1)) + (-1 : Int32))),.ref a3])) rfl (D 52 rfl)
 have hp_7 : ((I (cs.length + 1 + 1 + 1)) + (-1 : Int32)) = I (cs.length + 1 + 1) := own_pred _
 obtain ⟨_,T7,Lc7,X7,hQ7,st7⟩ := zS X5 hx hZ hown (zW hw 281 rfl) (zW hw 282 rfl) (zW hw 50 rfl) (zW hw 283 rfl) (by decide) (r57 l Z a0 hw [] a3 ((I (cs.length + 1 + 1 + 1)) + (-1 : Int32)) w_ kd 96 (cs.length + 1 + 1) vd h0 n0 Z0 hp_7 (by omega) (by decide) B hvd g_a3 (SA0.ext O.2) (SH0.ext O.2) (SL0.ext O.2)) (by decide) (by decide) (W:=0) (g:=(mkF m 55 #[vi ((-v_) / 100),vi (I (cs.length + 1 + 1 + 1)),vr a3,vi ((-v_) / 100),vi ((((-v_) / 100) * 100) - (-v_)),vi ((I (cs.length + 1 + 1 + 1)) + (-1 : Int32)),vi 0] [.int w_,(.int ((I (cs.length + 1 + 1 + 1)) + (-1 : Int32))),.ref a3])) rfl (by rw [hml]; rfl) (argsL:=[.ref a3,(.int ((I (cs.length + 1 + 1 + 1)) + (-1 : Int32))),.int w_]) (rest:=[]) (lenOf pd_54_45 rfl) rfl (Nat.le_of_eq rfl) (D 55 rfl) rfl e5 (by decide:0 + 0 ≤ _) (by decide:0 + 0 ≤ _)
 obtain ⟨rfl,N7q,Kq7,V7⟩ := hQ7
 have K7 : Keep h0 T7.heap [a3] := Kq7
 have O7 := O.keep K7 (allS g_a3 all0)
 have Z7 := Nat.le_trans Z0 K7.1
 obtain ⟨vs7,hvs7⟩ : ∃ x,x = own_put vd (cs.length + 1 + 1) w_ := ⟨_,rfl⟩
 rw [← hvs7] at V7
 have hl7 : vs7.length = 2 * 96 := by rw [hvs7,own_put_len]; exact hvd
 have N7 := Fr.app N0 N7q
 obtain ⟨T9,X9,e9,st9⟩ := getS2 X7 hx hZ hown (host:="") (Or.inl (zW hw 343 rfl)) Via.refl rfl (S2.ext O7.2) (g:=(mkF m 64 #[vi ((-v_) / 100),vi (I (cs.length + 1 + 1 + 1)),vr a3,vi ((-v_) / 100),vi ((((-v_) / 100) * 100) - (-v_)),vi (((I (cs.length + 1 + 1 + 1)) + (-1 : Int32)) + (-1 : Int32)),vi 0] [(.int (((I (cs.length + 1 + 1 + 1)) + (-1 : Int32)) + (-1 : Int32))),.ref a3])) rfl (D 59 rfl)
 have hp_11 : (((I (cs.length + 1 + 1 + 1)) + (-1 : Int32)) + (-1 : Int32)) = I (cs.length + 1) := by rw [hp_7]; exact own_pred _
 obtain ⟨_,T11,Lc11,X11,hQ11,st11⟩ := zS X9 hx hZ hown (zW hw 281 rfl) (zW hw 282 rfl) (zW hw 50 rfl) (zW hw 283 rfl) (by decide) (r57 l Z a0 hw [] a3 (((I (cs.length + 1 + 1 + 1)) + (-1 : Int32)) + (-1 : Int32)) (48:Int32) kd 96 (cs.length + 1) vs7 T7.heap n0 Z7 hp_11 (by omega) (by decide) V7 hl7 g_a3 (SA0.ext O7.2) (SH0.ext O7.2) (SL0.ext O7.2)) (by decide) (by decide) (W:=0) (g:=(mkF m 70 #[vi ((-v_) / 100),vi (I (cs.length + 1 + 1 + 1)),vr a3,vi ((-v_) / 100),vi ((((-v_) / 100) * 100) - (-v_)),vi (((I (cs.length + 1 + 1 + 1)) + (-1 : Int32)) + (-1 : Int32)),vi 0] [.int 48,(.int (((I (cs.length + 1 + 1 + 1)) + (-1 : Int32)) + (-1 : Int32))),.ref a3])) rfl (by rw [hml]; rfl) (argsL:=[.ref a3,(.int (((I (cs.length + 1 + 1 + 1)) + (-1 : Int32)) + (-1 : Int32))),.int 48]) (rest:=[]) (lenOf pd_54_45 rfl) rfl (Nat.le_of_eq rfl) (D 62 rfl) rfl e9 (by decide:0 + 0 ≤ _) (by decide:0 + 0 ≤ _)
 obtain ⟨rfl,N11q,Kq11,V11⟩ := hQ11
 have K11 : Keep h0 T11.heap [a3] := K7.trans Kq11 (fun x hx => Or.inl hx)
 have O11 := O.keep K11 (allS g_a3 all0)
 have Z11 := Nat.le_trans Z0 K11.1
 obtain ⟨vs11,hvs11⟩ : ∃ x,x = own_put vs7 (cs.length + 1) (48:Int32) := ⟨_,rfl⟩
 rw [← hvs11] at V11
 have hl11 : vs11.length = 2 * 96 := by rw [hvs11,own_put_len]; exact hl7
 have N11 := Fr.app N7 N11q
 obtain ⟨T12,X12,e12,st12⟩ := getS2 X11 hx hZ hown (host:="") (Or.inl (zW hw 338 rfl)) Via.refl rfl (S1.ext O11.2) (g:=(mkF m 82 #[vi ((-v_) / 100),vi (I (cs.length + 1 + 1 + 1)),vr a3,vi ((-v_) / 100),vi ((((-v_) / 100) * 100) - (-v_)),vi ((((I (cs.length + 1 + 1 + 1)) + (-1 : Int32)) + (-1 : Int32)) + (-1 : Int32)),vi 0] [(.int ((((I (cs.length + 1 + 1 + 1)) + (-1 : Int32)) + (-1 : Int32)) + (-1 : Int32))),.ref a3])) rfl (D 17 rfl)
 have hp_14 : ((((I (cs.length + 1 + 1 + 1)) + (-1 : Int32)) + (-1 : Int32)) + (-1 : Int32)) = I (cs.length) := by rw [hp_11]; exact own_pred _
 obtain ⟨_,T14,Lc14,X14,hQ14,st14⟩ := zS X12 hx hZ hown (zW hw 281 rfl) (zW hw 282 rfl) (zW hw 50 rfl) (zW hw 283 rfl) (by decide) (r57 l Z a0 hw [] a3 ((((I (cs.length + 1 + 1 + 1)) + (-1 : Int32)) + (-1 : Int32)) + (-1 : Int32)) (49:Int32) kd 96 (cs.length) vs11 T11.heap n0 Z11 hp_14 (by omega) (by decide) V11 hl11 g_a3 (SA0.ext O11.2) (SH0.ext O11.2) (SL0.ext O11.2)) (by decide) (by decide) (W:=0) (g:=(mkF m 88 #[vi ((-v_) / 100),vi (I (cs.length + 1 + 1 + 1)),vr a3,vi ((-v_) / 100),vi ((((-v_) / 100) * 100) - (-v_)),vi ((((I (cs.length + 1 + 1 + 1)) + (-1 : Int32)) + (-1 : Int32)) + (-1 : Int32)),vi 0] [.int 49,(.int ((((I (cs.length + 1 + 1 + 1)) + (-1 : Int32)) + (-1 : Int32)) + (-1 : Int32))),.ref a3])) rfl (by rw [hml]; rfl) (argsL:=[.ref a3,(.int ((((I (cs.length + 1 + 1 + 1)) + (-1 : Int32)) + (-1 : Int32)) + (-1 : Int32))),.int 49]) (rest:=[]) (lenOf pd_54_45 rfl) rfl (Nat.le_of_eq rfl) (D 21 rfl) rfl e12 (by decide:0 + 0 ≤ _) (by decide:0 + 0 ≤ _)
 obtain ⟨rfl,N14q,Kq14,V14⟩ := hQ14
 have K14 : Keep h0 T14.heap [a3] := K11.trans Kq14 (fun x hx => Or.inl hx)
 have O14 := O.keep K14 (allS g_a3 all0)
 have Z14 := Nat.le_trans Z0 K14.1
 obtain ⟨vs14,hvs14⟩ : ∃ x,x = own_put vs11 (cs.length) (49:Int32) := ⟨_,rfl⟩
 rw [← hvs14] at V14
 have hl14 : vs14.length = 2 * 96 := by rw [hvs14,own_put_len]; exact hl11
 have N14 := Fr.app N11 N14q
 refine zL Bd X14 (ef_35 m v_ (I (cs.length + 1 + 1 + 1)) a3) (some (.int ((((I (cs.length + 1 + 1 + 1)) + (-1 : Int32)) + (-1 : Int32)) + (-1 : Int32)))) nofun (by decide) (by decide) (fun fs hr => ?_) ?_
 · refine iN X0.here hx rfl (D 0 rfl) rfl (iS X0.here hx rfl (D 1 rfl) rfl (l':=#[vi v_,vi (I (cs.length + 1 + 1 + 1)),vr a3,.unset,.unset,vi (I (cs.length + 1 + 1 + 1)),.unset]) rfl (iN X0.here hx rfl (D 2 rfl) rfl (fY X0.here hx rfl (pc0 := 4) (pc':=11) rfl (D 3 rfl) rfl ((if0 _ _).trans (flt (by apply zC2 hv <;> decide)).2.1) (by decide) (by decide) ?_)))
   refine iC X0.here hx rfl (D 4 rfl) (iS X0.here hx rfl (D 5 rfl) rfl (l':=#[vi v_,vi (I (cs.length + 1 + 1 + 1)),vr a3,.unset,.unset,vi (I (cs.length + 1 + 1 + 1)),vi 0]) rfl (iL X0.here hx rfl (D 6 rfl) rfl (fN X0.here hx rfl (D 7 rfl) rfl ((if0 _ _).trans (teq (rfl:(0:Int32) = 0)).2) ?_)))
   refine iN X0.here hx rfl (D 8 rfl) rfl (XS.ineg X0.here hx rfl (D 9 rfl) rfl (sN X0.here hx rfl (D 10 rfl) rfl (l':=#[vi (-v_),vi (I (cs.length + 1 + 1 + 1)),vr a3,.unset,.unset,vi (I (cs.length + 1 + 1 + 1)),vi 0]) rfl (iN X0.here hx rfl (D 11 rfl) rfl ?_)))
   refine bP X0.here hx rfl (D 12 rfl) (cN X0.here hx rfl (D 13 rfl) rfl (flt (by apply zC2 hv <;> decide)).2.2.1 (iN X0.here hx rfl (D 37 rfl) rfl (bP X0.here hx rfl (D 38 rfl) ?_)))
   refine XS.idiv X0.here hx rfl (D 39 rfl) rfl (by decide) (sN X0.here hx rfl (D 40 rfl) rfl (l':=#[vi (-v_),vi (I (cs.length + 1 + 1 + 1)),vr a3,vi ((-v_) / 100),.unset,vi (I (cs.length + 1 + 1 + 1)),vi 0]) rfl (iN X0.here hx rfl (D 41 rfl) rfl (bP X0.here hx rfl (D 42 rfl) ?_)))
   refine XS.imul X0.here hx rfl (D 43 rfl) rfl (iN X0.here hx rfl (D 44 rfl) rfl (iB X0.here hx rfl (D 45 rfl) rfl (iS X0.here hx rfl (D 46 rfl) rfl (l':=#[vi (-v_),vi (I (cs.length + 1 + 1 + 1)),vr a3,vi ((-v_) / 100),vi ((((-v_) / 100) * 100) - (-v_)),vi (I (cs.length + 1 + 1 + 1)),vi 0]) rfl ?_)))
   refine iN X0.here hx rfl (D 47 rfl) rfl (sN X0.here hx rfl (D 48 rfl) rfl (l':=#[vi ((-v_) / 100),vi (I (cs.length + 1 + 1 + 1)),vr a3,vi ((-v_) / 100),vi ((((-v_) / 100) * 100) - (-v_)),vi (I (cs.length + 1 + 1 + 1)),vi 0]) rfl (aN X0.here hx rfl (D 49 rfl) rfl rfl (iI X0.here hx rfl (D 50 rfl) rfl (l':=#[vi ((-v_) / 100),vi (I (cs.length + 1 + 1 + 1)),vr a3,vi ((-v_) / 100),vi ((((-v_) / 100) * 100) - (-v_)),vi ((I (cs.length + 1 + 1 + 1)) + (-1 : Int32)),vi 0]) rfl ?_)))
   refine iL X0.here hx rfl (D 51 rfl) rfl (st5 _ (iL X5.here hx rfl (D 53 rfl) rfl (X5.baloadBytes hx (j:=((((-v_) / 100) * 100) - (-v_))) (v:=(.int w_)) (by rw [e5]; exact (A1.ext O.2).1) (State.isArrayOf_alike hZ.alike (A1.ext O.2).2.1) (A1.ext O.2).2.2 (by rw [z1]; apply zC2 hv <;> decide) (by rcases hv with ⟨rfl,rfl⟩ | ⟨rfl,rfl⟩ <;> exact t1 _ (by decide)) (g:=(mkF m 54 #[vi ((-v_) / 100),vi (I (cs.length + 1 + 1 + 1)),vr a3,vi ((-v_) / 100),vi ((((-v_) / 100) * 100) - (-v_)),vi ((I (cs.length + 1 + 1 + 1)) + (-1 : Int32)),vi 0] [(.int ((((-v_) / 100) * 100) - (-v_))),.ref d1_,(.int ((I (cs.length + 1 + 1 + 1)) + (-1 : Int32))),.ref a3])) rfl rfl (D 54 rfl) _ ?_)))
   refine st7 _ (aN X7.here hx rfl (D 56 rfl) rfl rfl (iI X7.here hx rfl (D 57 rfl) rfl (l':=#[vi ((-v_) / 100),vi (I (cs.length + 1 + 1 + 1)),vr a3,vi ((-v_) / 100),vi ((((-v_) / 100) * 100) - (-v_)),vi (((I (cs.length + 1 + 1 + 1)) + (-1 : Int32)) + (-1 : Int32)),vi 0]) rfl (iL X7.here hx rfl (D 58 rfl) rfl ?_)))
   refine st9 _ (iL X9.here hx rfl (D 60 rfl) rfl (X9.baloadBytes hx (j:=((((-v_) / 100) * 100) - (-v_))) (v:=(.int 48)) (by rw [e9]; exact (A2.ext O7.2).1) (State.isArrayOf_alike hZ.alike (A2.ext O7.2).2.1) (A2.ext O7.2).2.2 (by rw [z2]; apply zC2 hv <;> decide) (by rcases hv with ⟨rfl,rfl⟩ | ⟨rfl,rfl⟩ <;> exact t2 _ (by decide)) (g:=(mkF m 69 #[vi ((-v_) / 100),vi (I (cs.length + 1 + 1 + 1)),vr a3,vi ((-v_) / 100),vi ((((-v_) / 100) * 100) - (-v_)),vi (((I (cs.length + 1 + 1 + 1)) + (-1 : Int32)) + (-1 : Int32)),vi 0] [(.int ((((-v_) / 100) * 100) - (-v_))),.ref d2_,(.int (((I (cs.length + 1 + 1 + 1)) + (-1 : Int32)) + (-1 : Int32))),.ref a3])) rfl rfl (D 61 rfl) _ (st11 _ ?_)))
   refine gT X11.here hx rfl (pc0 := 73) (pc':=22) rfl (D 63 rfl) (by decide) (by decide) (iN X11.here hx rfl (D 11 rfl) rfl (bP X11.here hx rfl (D 12 rfl) (cY X11.here hx rfl (pc0 := 25) (pc':=76) rfl (D 13 rfl) rfl (tlt (by apply zC2 hv <;> decide)).2.2.1 (by decide) (by decide) ?_)))
   refine aN X11.here hx rfl (D 14 rfl) rfl rfl (iI X11.here hx rfl (D 15 rfl) rfl (l':=#[vi ((-v_) / 100),vi (I (cs.length + 1 + 1 + 1)),vr a3,vi ((-v_) / 100),vi ((((-v_) / 100) * 100) - (-v_)),vi ((((I (cs.length + 1 + 1 + 1)) + (-1 : Int32)) + (-1 : Int32)) + (-1 : Int32)),vi 0]) rfl (iL X11.here hx rfl (D 16 rfl) rfl (st12 _ ?_)))
   refine iN X12.here hx rfl (D 18 rfl) rfl (XS.ineg X12.here hx rfl (D 19 rfl) rfl (X12.baloadBytes hx (j:=(-((-v_) / 100))) (v:=(.int 49)) (by rw [e12]; exact (A1.ext O11.2).1) (State.isArrayOf_alike hZ.alike (A1.ext O11.2).2.1) (A1.ext O11.2).2.2 (by rw [z1]; apply zC2 hv <;> decide) (by rcases hv with ⟨rfl,rfl⟩ | ⟨rfl,rfl⟩ <;> exact t1 _ (by decide)) (g:=(mkF m 87 #[vi ((-v_) / 100),vi (I (cs.length + 1 + 1 + 1)),vr a3,vi ((-v_) / 100),vi ((((-v_) / 100) * 100) - (-v_)),vi ((((I (cs.length + 1 + 1 + 1)) + (-1 : Int32)) + (-1 : Int32)) + (-1 : Int32)),vi 0] [(.int (-((-v_) / 100))),.ref d1_,(.int ((((I (cs.length + 1 + 1 + 1)) + (-1 : Int32)) + (-1 : Int32)) + (-1 : Int32))),.ref a3])) rfl rfl (D 20 rfl) _ (st14 _ ?_)))
   refine iN X14.here hx rfl (D 22 rfl) rfl (bP X14.here hx rfl (D 23 rfl) (cY X14.here hx rfl (pc0 := 94) (pc':=112) rfl (D 24 rfl) rfl (flt (by apply zC2 hv <;> decide)).2.1 (by decide) (by decide) (iL X14.here hx rfl (D 25 rfl) rfl ?_)))
   refine fY X14.here hx rfl (pc0 := 114) (pc':=128) rfl (D 26 rfl) rfl ((if0 _ _).trans (teq (rfl:(0:Int32) = 0)).1) (by decide) (by decide) (iL X14.here hx rfl (D 27 rfl) rfl ?_)
   exact retI X14 hx Bd.returns (D 28 rfl) hr
 · show QG Z a3 kd true (cs ++ [49,48,w_]) h0 n0 _ T14.heap _
   refine ⟨⟨_,rfl⟩,N14,K14,_,V14,hl14,?_⟩
   rw [List.length_append]
   show List.take (2 * (cs.length + 3)) _ = StrChars.Road.wideBytes _
   rw [hvs14]; rw [hvs11]; rw [hvs7]
   exact own_pt3 vd cs cs.length 49 48 w_ htk (by rw [hvd]; show _ < 2 * 96; omega)
theorem r72 (l:Launch) (Z:State) (a0:Array Value) (hw:zH Z a0) (ws:List Jvm.Cond) (p1:Int32) (a3:Addr) (cs:List Int32) (kd:ClassId) (vd:List Value) (h0:Heap) (n0:Nat) (Z0:n0 ≤ h0.size) (DT:own_DT Z) (B:Arv Z h0 a3 kd .byte (I (own_k true * 96)) vd (.int 0)) (hvd:vd.length = own_k true * 96) (htk:vd.take (own_k true * cs.length) = own_enc true cs) (g_a3:n0 ≤ a3) (hq:cs.length + 3 ≤ 96) (O:Old Z n0 h0) (SA0:Sta Z Z.heap "java/lang/StringUTF16" "$assertionsDisabled" "Z" (.int 1)) (SH0:Sta Z Z.heap "java/lang/StringUTF16" "HI_BYTE_SHIFT" "I" (.int 0)) (SL0:Sta Z Z.heap "java/lang/StringUTF16" "LO_BYTE_SHIFT" "I" (.int 8)) (hp:own_cnt p1) :
   zM l Z h0 ws y_5 jdk_52_method_89_code 7 (some .int) (zr 1 0 0 14) #[.int p1,(.int (I (cs.length + (own_dg p1).length))),.ref a3] (QG Z a3 kd true (cs ++ own_dg p1) h0 n0) := by
 rcases hp with rfl | rfl | rfl | rfl | rfl | rfl | rfl
 · exact r72_1 l Z a0 hw ws a3 cs kd vd h0 n0 Z0 DT B hvd htk g_a3 hq O SA0 SH0 SL0 1 49 (Or.inl ⟨rfl,rfl⟩)
 · exact r72_1 l Z a0 hw ws a3 cs kd vd h0 n0 Z0 DT B hvd htk g_a3 hq O SA0 SH0 SL0 2 50 (Or.inr (Or.inl ⟨rfl,rfl⟩))
 · exact r72_1 l Z a0 hw ws a3 cs kd vd h0 n0 Z0 DT B hvd htk g_a3 hq O SA0 SH0 SL0 3 51 (Or.inr (Or.inr ⟨rfl,rfl⟩))
 · exact r72_11 l Z a0 hw ws a3 cs kd vd h0 n0 Z0 DT B hvd htk g_a3 hq O SA0 SH0 SL0 11 49 (Or.inl ⟨rfl,rfl⟩)
 · exact r72_11 l Z a0 hw ws a3 cs kd vd h0 n0 Z0 DT B hvd htk g_a3 hq O SA0 SH0 SL0 12 50 (Or.inr ⟨rfl,rfl⟩)
 · exact r72_100 l Z a0 hw ws a3 cs kd vd h0 n0 Z0 DT B hvd htk g_a3 hq O SA0 SH0 SL0 100 48 (Or.inl ⟨rfl,rfl⟩)
 · exact r72_100 l Z a0 hw ws a3 cs kd vd h0 n0 Z0 DT B hvd htk g_a3 hq O SA0 SH0 SL0 101 49 (Or.inr ⟨rfl,rfl⟩)
def l69 : zl := [(0,.iload_n 1,1),(1,.iload_n 2,1),(2,.aload_n 3,1),(3,.invokestatic 96,3),(6,.iload_n 0,1),(7,.iload_n 2,1),(8,.aload_n 3,1),(9,.invokestatic 393,3),(12,.istore 4,2),(14,.getstatic 44,3),(17,.ifCond .ne 17,3),(34,.iload 4,2),(36,.ireturn,1)]
theorem D69 : zq jdk_52_method_77_code l69 := zd (by decide +kernel)
theorem pd_69_31 : parseMethodDescriptor "(II[B)I" = some ⟨[.int,.int,(.array .byte)],some .int⟩ := by decide +kernel
theorem ef_69 (m:MethodId) (x0:Int32) (x1:Int32) (x2:Int32) (x3:Addr) : entryFrame m #[.int x0,.int x1,.int x2,.ref x3] 5 = mkF m 0 #[.val (.int x0),.val (.int x1),.val (.int x2),.val (.ref x3),.unset] [] := by first | (simp [entryFrame,mkF,argsToLocals,Value.category]; done) | rfl
theorem r69 (l:Launch) (Z:State) (a0:Array Value) (hw:zH Z a0) (ws:List Jvm.Cond) (p1:Int32) (a4:Addr) (cs:List Int32) (kd:ClassId) (vd:List Value) (h0:Heap) (n0:Nat) (Z0:n0 ≤ h0.size) (DT:own_DT Z) (B:Arv Z h0 a4 kd .byte (I (own_k true * 96)) vd (.int 0)) (hvd:vd.length = own_k true * 96) (htk:vd.take (own_k true * cs.length) = own_enc true cs) (g_a4:n0 ≤ a4) (hq:cs.length + 3 ≤ 96) (O:Old Z n0 h0) (SWz:own_SW Z Z.heap) (hp:own_cnt p1) :
   zM l Z h0 ws y_45 jdk_52_method_77_code 5 (some .int) (zr 3 0 0 44) #[.int p1,(.int (I cs.length)),(.int (I (cs.length + (own_dg p1).length))),.ref a4] (QG Z a4 kd true (cs ++ own_dg p1) h0 n0) := by
 refine zE pn_61 rfl fun p e s m below meth c s₁ Bd hx hby hml hown hZ X0 e0 => ?_
 obtain ⟨cl_a4,Ar_a4,qb,S_a4,N_a4,Hb,Gb⟩ := id B
 obtain ⟨zc,fm,SC0,hz,S_F0,rf,SA0,SH0,SL0⟩ := id SWz
 have hdl : (own_dg p1).length ≤ 3 := by rcases hp with rfl | rfl | rfl | rfl | rfl | rfl | rfl <;> decide
 have es : (I (own_k true * 96)) >>> ((1:Int32) &&& 31) = I 96 := by decide
 have D := D69 Bd.bytes
 have N0 := Fr.nil n0
 obtain ⟨_,T5,Lc5,X5,hQ5,st5⟩ := zS X0 hx hZ hown (zW hw 328 rfl) (zW hw 329 rfl) (zW hw 50 rfl) (zW hw 330 rfl) (by decide) (r70 l Z a0 hw [] (I cs.length) (I (cs.length + (own_dg p1).length)) a4 cl_a4 (I (own_k true * 96)) fm h0 n0 Z0 Ar_a4 S_a4 N_a4 (S_F0.ext O.2) rf (own_nn _ (by omega)) (fun q => by have := (own_lt _ _ (by omega) (by omega)).mp q; omega) (by rw [es]; exact fun q => by have := (own_lt 96 _ (by decide) (by omega)).mp q; omega)) (by decide) (by decide) (W:=0) (g:=(mkF m 3 #[vi p1,vi (I cs.length),vi (I (cs.length + (own_dg p1).length)),vr a4,.unset] [.ref a4,(.int (I (cs.length + (own_dg p1).length))),(.int (I cs.length))])) rfl (by rw [hml]; rfl) (argsL:=[(.int (I cs.length)),(.int (I (cs.length + (own_dg p1).length))),.ref a4]) (rest:=[]) (lenOf pd_64_49 rfl) rfl (Nat.le_of_eq rfl) (D 3 rfl) rfl e0 (by decide:0 + 0 ≤ _) (by decide:0 + 0 ≤ _)
 obtain ⟨rfl,N5q,e5⟩ := hQ5
 have N5 := Fr.app N0 N5q
 obtain ⟨_,T6,Lc6,X6,hQ6,st6⟩ := zS X5 hx hZ hown (zW hw 335 rfl) (zW hw 336 rfl) (zW hw 50 rfl) (zW hw 337 rfl) (by decide) (r72 l Z a0 hw [] p1 a4 cs kd vd h0 n0 Z0 DT B hvd htk g_a4 hq O SA0 SH0 SL0 hp) (by decide) (by decide) (W:=0) (g:=(mkF m 9 #[vi p1,vi (I cs.length),vi (I (cs.length + (own_dg p1).length)),vr a4,.unset] [.ref a4,(.int (I (cs.length + (own_dg p1).length))),.int p1])) rfl (by rw [hml]; rfl) (argsL:=[.int p1,(.int (I (cs.length + (own_dg p1).length))),.ref a4]) (rest:=[]) (lenOf pd_69_31 rfl) rfl (Nat.le_of_eq rfl) (D 7 rfl) rfl e5 (by decide:0 + 0 ≤ _) (by decide:0 + 0 ≤ _)
 obtain ⟨⟨r6,rfl⟩,N6q,K6,vs6,V6,hv6,ht6⟩ := hQ6
 have O6 := O.keep K6 (allS g_a4 all0)
 have N6 := Fr.app N5 N6q
 obtain ⟨T8,X8,e8,st8⟩ := getS2 X6 hx hZ hown (host:="") (Or.inl (zW hw 284 rfl)) Via.refl rfl (SA0.ext O6.2) (g:=(mkF m 14 #[vi p1,vi (I cs.length),vi (I (cs.length + (own_dg p1).length)),vr a4,vi r6] [])) rfl (D 9 rfl)
 refine zL Bd X8 (ef_69 m p1 (I cs.length) (I (cs.length + (own_dg p1).length)) a4) (some (.int r6)) nofun (by decide) (by decide) (fun fs hr => ?_) ?_
 · refine iN X0.here hx rfl (D 0 rfl) rfl (iN X0.here hx rfl (D 1 rfl) rfl (aN X0.here hx rfl (D 2 rfl) rfl rfl (st5 _ ?_)))
   refine iN X5.here hx rfl (D 4 rfl) rfl (iN X5.here hx rfl (D 5 rfl) rfl (aN X5.here hx rfl (D 6 rfl) rfl rfl (st6 _ ?_)))
   refine iS X6.here hx rfl (D 8 rfl) rfl (l':=#[vi p1,vi (I cs.length),vi (I (cs.length + (own_dg p1).length)),vr a4,vi r6]) rfl (st8 _ (fY X8.here hx rfl (pc0 := 17) (pc':=34) rfl (D 10 rfl) rfl ((if0 _ _).trans (feq (by decide:¬ ((1:Int32) = 0))).2) (by decide) (by decide) (iL X8.here hx rfl (D 11 rfl) rfl ?_)))
   exact retI X8 hx Bd.returns (D 12 rfl) hr
 · show QG Z a4 kd true (cs ++ own_dg p1) h0 n0 _ T8.heap _
   rw [e8]
   exact ⟨⟨r6,rfl⟩,N6,K6,vs6,V6,hv6,ht6⟩
theorem r35p (l:Launch) (Z:State) (a0:Array Value) (hw:zH Z a0) (ws:List Jvm.Cond) (p1:Int32) (p2:Int32) (a3:Addr) (cs:List Int32) (kd:ClassId) (vd:List Value) (h0:Heap) (n0:Nat) (Z0:n0 ≤ h0.size) (DT:own_DT Z) (B:Arv Z h0 a3 kd .byte (I (own_k false * 96)) vd (.int 0)) (hvd:vd.length = own_k false * 96) (htk:vd.take (own_k false * cs.length) = own_enc false cs) (g_a3:n0 ≤ a3) (hq:cs.length + 3 ≤ 96) (O:Old Z n0 h0) (hp:own_cnt p1) (h2:p2 = I (cs.length + (own_dg p1).length)) :
   zM l Z h0 ws y_1 jdk_33_method_12_code 7 (some .int) (zr 0 0 0 0) #[.int p1,.int p2,.ref a3] (QG Z a3 kd false (cs ++ own_dg p1) h0 n0) := by
 subst h2
 exact r35 l Z a0 hw ws p1 a3 cs kd vd h0 n0 Z0 DT B hvd htk g_a3 hq O hp
theorem r69p (l:Launch) (Z:State) (a0:Array Value) (hw:zH Z a0) (ws:List Jvm.Cond) (p1:Int32) (p3:Int32) (a4:Addr) (cs:List Int32) (kd:ClassId) (vd:List Value) (h0:Heap) (n0:Nat) (Z0:n0 ≤ h0.size) (DT:own_DT Z) (B:Arv Z h0 a4 kd .byte (I (own_k true * 96)) vd (.int 0)) (hvd:vd.length = own_k true * 96) (htk:vd.take (own_k true * cs.length) = own_enc true cs) (g_a4:n0 ≤ a4) (hq:cs.length + 3 ≤ 96) (O:Old Z n0 h0) (SWz:own_SW Z Z.heap) (hp:own_cnt p1) (h3:p3 = I (cs.length + (own_dg p1).length)) :
   zM l Z h0 ws y_45 jdk_52_method_77_code 5 (some .int) (zr 3 0 0 44) #[.int p1,(.int (I cs.length)),.int p3,.ref a4] (QG Z a4 kd true (cs ++ own_dg p1) h0 n0) := by
 subst h3
 exact r69 l Z a0 hw ws p1 a4 cs kd vd h0 n0 Z0 DT B hvd htk g_a4 hq O SWz hp
def l33 : zl := [(0,.aload_n 0,1),(1,.getfield 79,3),(4,.istore_n 2,1),(5,.iload_n 2,1),(6,.iload_n 1,1),(7,.invokestatic 245,3),(10,.iadd,1),(11,.istore_n 3,1),(12,.aload_n 0,1),(13,.iload_n 3,1),(14,.invokevirtual 100,3),(17,.aload_n 0,1),(18,.invokevirtual 83,3),(21,.ifCond .eq 16,3),(24,.iload_n 1,1),(25,.iload_n 3,1),(26,.aload_n 0,1),(27,.getfield 15,3),(30,.invokestatic 248,3),(33,.pop,1),(34,.goto 14,3),(48,.aload_n 0,1),(49,.iload_n 3,1),(50,.putfield 79,3),(53,.aload_n 0,1),(54,.areturn,1),(37,.iload_n 1,1),(38,.iload_n 2,1),(39,.iload_n 3,1),(40,.aload_n 0,1),(41,.getfield 15,3),(44,.invokestatic 251,3),(47,.pop,1)]
theorem D33 : zq jdk_68_method_32_code l33 := zd (by decide +kernel)
theorem ef_33 (m:MethodId) (x0:Addr) (x1:Int32) : entryFrame m #[.ref x0,.int x1] 4 = mkF m 0 #[.val (.ref x0),.val (.int x1),.unset,.unset] [] := by first | (simp [entryFrame,mkF,argsToLocals,Value.category]; done) | rfl
theorem r33l (l:Launch) (Z:State) (a0:Array Value) (hw:zH Z a0) (ws:List Jvm.Cond) (a1:Addr) (p2:Int32) (t0:Addr) (cs:List Int32) (h0:Heap) (n0:Nat) (Z0:n0 ≤ h0.size) (SB:own_SB Z h0 a1 false cs t0) (g_a1:n0 ≤ a1) (g_t0:n0 ≤ t0) (O:Old Z n0 h0) (SWz:own_SW Z Z.heap) (DT:own_DT Z) (hp:own_cnt p2) (hq:cs.length + 3 ≤ 96) :
   zM l Z h0 ws y_18 jdk_68_method_32_code 4 (some (.object "java/lang/AbstractStringBuilder")) (zr 4 0 0 61) #[.ref a1,.int p2] (QA Z a1 t0 false (cs ++ own_dg p2) h0 n0) := by
 refine zE pn_26 rfl fun p e s m below meth c s₁ Bd hx hby hml hown hZ X0 e0 => ?_
 obtain ⟨E_a1,F_coder_a1,F_count_a1,F_value_a1,F_m,kd,vd,B,hvd,hcs,htk⟩ := id SB
 have SWh := SWz.ext O.2
 obtain ⟨zc,fm,SC,hz,S_F,rf,SA,SH,SL⟩ := id SWh
 have hn2 : a1 ≠ t0 := Exa.neArv E_a1 B (zW hw 59 rfl)
 have hdl : (own_dg p2).length ≤ 3 := by rcases hp with rfl | rfl | rfl | rfl | rfl | rfl | rfl <;> decide
 have esum : (I cs.length) + (I (own_dg p2).length) = I (cs.length + (own_dg p2).length) := (Int32.ofNat_add _ _).symm
 have D := D33 Bd.bytes
 have N0 := Fr.nil n0
 obtain ⟨T4,X4,e4,st4⟩ := getF X0 hx hZ hown (host:="") (Or.inl (zW hw 128 rfl)) Via.refl e0 F_count_a1 (g:=(mkF m 1 #[vr a1,vi p2,.unset,.unset] [.ref a1])) rfl rfl (D 1 rfl)
 obtain ⟨_,T5,Lc5,X5,hQ5,st5⟩ := zS X4 hx hZ hown (zW hw 181 rfl) (zW hw 182 rfl) (zW hw 183 rfl) (zW hw 184 rfl) (by decide) (r34 l Z a0 hw [] p2 h0 n0 Z0 hp) (by decide) (by decide) (W:=1) (g:=(mkF m 7 #[vr a1,vi p2,vi (I cs.length),.unset] [.int p2,(.int (I cs.length))])) rfl (by rw [hml]; rfl) (argsL:=[.int p2]) (rest:=[(.int (I cs.length))]) (lenOf pd_55_30 rfl) rfl (Nat.le_of_eq rfl) (D 5 rfl) rfl e4 (by decide:0 + 0 ≤ _) (by decide:0 + 0 ≤ _)
 obtain ⟨rfl,N5q,e5⟩ := hQ5
 have N5 := Fr.app N0 N5q
 obtain ⟨cq6,q6,q6'⟩ := (E_a1).cell
 obtain ⟨_,_,⟨T6,L6,k6,n6⟩,-,X6,⟨Lc6,hQ6,l6,y6,z6⟩,st6⟩ := X5.privateBack hx (y:=y_14) hown (zT hZ hw 130 rfl) (zT hZ hw 131 rfl) (mvT hZ (own_selP (zW hw 133 rfl) (zW hw 132 rfl) (zW hw 131 rfl) (by decide))) (Cond.privateMethod_at (mvP hZ (zW hw 132 rfl) (args:=#[]))) (zT hZ hw 134 rfl) (by decide) (backOf (W:=0) (r24 l Z a0 hw [] a1 ((I cs.length) + (I (own_dg p2).length)) t0 false cs (cs.length + (own_dg p2).length) h0 n0 Z0 esum SB (by omega)) hZ (zW hw 134 rfl) (zW hw 68 rfl) (by decide) (by decide)) (g:=(mkF m 14 #[vr a1,vi p2,vi (I cs.length),vi ((I cs.length) + (I (own_dg p2).length))] [(.int ((I cs.length) + (I (own_dg p2).length))),.ref a1])) rfl (by rw [hml]; rfl) (Steps.refl _) (a:=a1) (by rw [e5]; exact q6) q6' (argsL:=[(.int ((I cs.length) + (I (own_dg p2).length)))]) (rest:=[]) (lenOf pd_12_11 rfl) rfl (Nat.le_of_eq rfl) (D 10 rfl) (fun _ _ => ⟨rfl,e5,(by decide:0 + 0 ≤ _),(by decide:0 + 0 ≤ _)⟩)
 dsimp only [Pt.U,Pt.locs,Pt.cells,Pt.slots] at X6 l6 y6 z6 st6 hQ6
 subst l6 y6 z6
 obtain ⟨rfl,N6q,e6⟩ := hQ6
 have N6 := Fr.app N5 N6q
 obtain ⟨cq7,kq7,q7a,q7b,q7c⟩ := isOf hZ e6 ((E_a1))
 obtain ⟨_,T7,Lc7,X7,hQ7,st7⟩ := zU X6 hx hZ hown (zW hw 141 rfl) (zW hw 142 rfl) (zW hw 144 rfl) (zW hw 143 rfl) (by decide) (backOf (W:=0) (r26 l Z a0 hw [] a1 zc false h0 n0 Z0 SC F_coder_a1 hz) hZ (zW hw 145 rfl) (zW hw 68 rfl) (by decide) (by decide)) q7a q7c (g:=(mkF m 18 #[vr a1,vi p2,vi (I cs.length),vi ((I cs.length) + (I (own_dg p2).length))] [.ref a1])) rfl (by rw [hml]; rfl) (argsL:=[]) (rest:=[]) (lenOf pd_15_14 rfl) rfl (Nat.le_of_eq rfl) (D 12 rfl) rfl e6 (by decide:0 + 0 ≤ _) (by decide:0 + 0 ≤ _)
 obtain ⟨rfl,N7q,e7⟩ := hQ7
 have N7 := Fr.app N6 N7q
 obtain ⟨T9,X9,e9,st9⟩ := getF X7 hx hZ hown (host:="") (Or.inl (zW hw 72 rfl)) Via.refl e7 (((F_value_a1))) (g:=(mkF m 27 #[vr a1,vi p2,vi (I cs.length),vi ((I cs.length) + (I (own_dg p2).length))] [.ref a1,(.int ((I cs.length) + (I (own_dg p2).length))),.int p2])) rfl rfl (D 17 rfl)
 obtain ⟨_,T10,Lc10,X10,hQ10,st10⟩ := zS X9 hx hZ hown (zW hw 185 rfl) (zW hw 186 rfl) (zW hw 183 rfl) (zW hw 187 rfl) (by decide) (r35p l Z a0 hw [] p2 ((I cs.length) + (I (own_dg p2).length)) t0 cs kd vd h0 n0 Z0 DT B hvd htk g_t0 hq O hp esum) (by decide) (by decide) (W:=0) (g:=(mkF m 30 #[vr a1,vi p2,vi (I cs.length),vi ((I cs.length) + (I (own_dg p2).length))] [.ref t0,(.int ((I cs.length) + (I (own_dg p2).length))),.int p2])) rfl (by rw [hml]; rfl) (argsL:=[.int p2,(.int ((I cs.length) + (I (own_dg p2).length))),.ref t0]) (rest:=[]) (lenOf pd_69_31 rfl) rfl (Nat.le_of_eq rfl) (D 18 rfl) rfl e9 (by decide:0 + 0 ≤ _) (by decide:0 + 0 ≤ _)
 obtain ⟨⟨r10,rfl⟩,N10q,K10,vs10,V10,hv10,ht10⟩ := hQ10
 have N10 := Fr.app N7 N10q
 obtain ⟨T11,h11,X11,e11,W11,st11⟩ := putF X10 hx hZ hown (host:="") (Or.inl (zW hw 128 rfl)) Via.refl rfl ((((F_count_a1))).keep K10 (ninS hn2 nin0)) ((((E_a1))).keep K10) (Or.inl (zW hw 129 rfl)) (zW hw 59 rfl) (ty:=.int) (by decide) rfl rfl (g:=(mkF m 50 #[vr a1,vi p2,vi (I cs.length),vi ((I cs.length) + (I (own_dg p2).length))] [(.int ((I cs.length) + (I (own_dg p2).length))),.ref a1])) rfl rfl (D 23 rfl)
 have Fw11 := ((((F_count_a1))).keep K10 (ninS hn2 nin0)).same W11
 have K11 : Keep h0 h11 [a1,t0] := ((Keep.refl h0 [a1,t0]).trans K10 (allS (Or.inl (List.mem_of_getElem? (i:=1) rfl)) all0)).wr W11 (Or.inl (List.mem_of_getElem? (i:=0) rfl))
 have N11 := Fr.snoc X11 N10 g_a1
 refine zL Bd X11 (ef_33 m a1 p2) (some (.ref a1)) nofun (by decide) (by decide) (fun fs hr => ?_) ?_
 · refine aN X0.here hx rfl (D 0 rfl) rfl rfl (st4 _ (sN X4.here hx rfl (D 2 rfl) rfl (l':=#[vr a1,vi p2,vi (I cs.length),.unset]) rfl (iN X4.here hx rfl (D 3 rfl) rfl ?_)))
   refine iN X4.here hx rfl (D 4 rfl) rfl (st5 _ (iA X5.here hx rfl (D 6 rfl) rfl (sN X5.here hx rfl (D 7 rfl) rfl (l':=#[vr a1,vi p2,vi (I cs.length),vi ((I cs.length) + (I (own_dg p2).length))]) rfl ?_)))
   refine aN X5.here hx rfl (D 8 rfl) rfl rfl (iN X5.here hx rfl (D 9 rfl) rfl (st6.trans (aN X6.here hx rfl (D 11 rfl) rfl rfl ?_)))
   refine st7.trans (fN X7.here hx rfl (D 13 rfl) rfl ((if0 _ _).trans (feq (by decide:¬ ((own_nl false) = 0))).1) (iN X7.here hx rfl (D 14 rfl) rfl (iN X7.here hx rfl (D 15 rfl) rfl ?_)))
   refine aN X7.here hx rfl (D 16 rfl) rfl rfl (st9 _ (st10 _ (XS.pop X10.here hx rfl (D 19 rfl) rfl rfl ?_)))
   refine gT X10.here hx rfl (pc0 := 34) (pc':=48) rfl (D 20 rfl) (by decide) (by decide) (aN X10.here hx rfl (D 21 rfl) rfl rfl (iN X10.here hx rfl (D 22 rfl) rfl (st11 _ ?_)))
   refine aN X11.here hx rfl (D 24 rfl) rfl rfl ?_
   jvm_step X11.here [X11.here.top,hx,(D 25 rfl),X11.method',Bd.returns,Value.isRef,FieldType.isReference]
   first | (intro acts; rw [hr _ acts rfl rfl rfl]) | rw [hr _ _ rfl rfl rfl]
   exact Steps.refl _
 · show QA Z a1 t0 false (cs ++ own_dg p2) h0 n0 _ T11.heap _
   rw [e11]
   refine ⟨rfl,N11,K11,t0,⟨(E_a1.keep K10).wr W11,(F_coder_a1.keep K10 (ninS hn2 nin0)).other W11 (Or.inr (slot_ne (Or.inl (zW hw 75 rfl)) (Or.inl (zW hw 129 rfl)) (by decide) (t:=.byte) (t':=.int) (by decide) (by decide))),?_,(F_value_a1.keep K10 (ninS hn2 nin0)).other W11 (Or.inr (slot_ne (Or.inl (zW hw 73 rfl)) (Or.inl (zW hw 129 rfl)) (by decide) (t:=(.array .byte)) (t':=.int) (by decide) (by decide))),(F_m.keep K10 (ninS hn2 nin0)).other W11 (Or.inr (slot_ne (Or.inl (zW hw 341 rfl)) (Or.inl (zW hw 129 rfl)) (by decide) (t:=.boolean) (t':=.int) (by decide) (by decide))),kd,_,V10.other W11 hn2.symm,hv10,?_,ht10⟩,Or.inl rfl⟩
   · rw [List.length_append,Int32.ofNat_add]; exact Fw11
   · rw [List.length_append]; omega
theorem pd_33_51 : parseMethodDescriptor "(III[B)I" = some ⟨[.int,.int,.int,(.array .byte)],some .int⟩ := by decide +kernel
theorem r33w (l:Launch) (Z:State) (a0:Array Value) (hw:zH Z a0) (ws:List Jvm.Cond) (a1:Addr) (p2:Int32) (t0:Addr) (cs:List Int32) (h0:Heap) (n0:Nat) (Z0:n0 ≤ h0.size) (SB:own_SB Z h0 a1 true cs t0) (g_a1:n0 ≤ a1) (g_t0:n0 ≤ t0) (O:Old Z n0 h0) (SWz:own_SW Z Z.heap) (DT:own_DT Z) (hp:own_cnt p2) (hq:cs.length + 3 ≤ 96) :
   zM l Z h0 ws y_18 jdk_68_method_32_code 4 (some (.object "java/lang/AbstractStringBuilder")) (zr 4 0 0 61) #[.ref a1,.int p2] (QA Z a1 t0 true (cs ++ own_dg p2) h0 n0) := by
 refine zE pn_26 rfl fun p e s m below meth c s₁ Bd hx hby hml hown hZ X0 e0 => ?_
 obtain ⟨E_a1,F_coder_a1,F_count_a1,F_value_a1,F_m,kd,vd,B,hvd,hcs,htk⟩ := id SB
 have SWh := SWz.ext O.2
 obtain ⟨zc,fm,SC,hz,S_F,rf,SA,SH,SL⟩ := id SWh
 have hn2 : a1 ≠ t0 := Exa.neArv E_a1 B (zW hw 59 rfl)
 have hdl : (own_dg p2).length ≤ 3 := by rcases hp with rfl | rfl | rfl | rfl | rfl | rfl | rfl <;> decide
 have esum : (I cs.length) + (I (own_dg p2).length) = I (cs.length + (own_dg p2).length) := (Int32.ofNat_add _ _).symm
 have D := D33 Bd.bytes
 have N0 := Fr.nil n0
 obtain ⟨T4,X4,e4,st4⟩ := getF X0 hx hZ hown (host:="") (Or.inl (zW hw 128 rfl)) Via.refl e0 F_count_a1 (g:=(mkF m 1 #[vr a1,vi p2,.unset,.unset] [.ref a1])) rfl rfl (D 1 rfl)
 obtain ⟨_,T5,Lc5,X5,hQ5,st5⟩ := zS X4 hx hZ hown (zW hw 181 rfl) (zW hw 182 rfl) (zW hw 183 rfl) (zW hw 184 rfl) (by decide) (r34 l Z a0 hw [] p2 h0 n0 Z0 hp) (by decide) (by decide) (W:=1) (g:=(mkF m 7 #[vr a1,vi p2,vi (I cs.length),.unset] [.int p2,(.int (I cs.length))])) rfl (by rw [hml]; rfl) (argsL:=[.int p2]) (rest:=[(.int (I cs.length))]) (lenOf pd_55_30 rfl) rfl (Nat.le_of_eq rfl) (D 5 rfl) rfl e4 (by decide:0 + 0 ≤ _) (by decide:0 + 0 ≤ _)
 obtain ⟨rfl,N5q,e5⟩ := hQ5
 have N5 := Fr.app N0 N5q
 obtain ⟨cq6,q6,q6'⟩ := (E_a1).cell
 obtain ⟨_,_,⟨T6,L6,k6,n6⟩,-,X6,⟨Lc6,hQ6,l6,y6,z6⟩,st6⟩ := X5.privateBack hx (y:=y_14) hown (zT hZ hw 130 rfl) (zT hZ hw 131 rfl) (mvT hZ (own_selP (zW hw 133 rfl) (zW hw 132 rfl) (zW hw 131 rfl) (by decide))) (Cond.privateMethod_at (mvP hZ (zW hw 132 rfl) (args:=#[]))) (zT hZ hw 134 rfl) (by decide) (backOf (W:=0) (r24 l Z a0 hw [] a1 ((I cs.length) + (I (own_dg p2).length)) t0 true cs (cs.length + (own_dg p2).length) h0 n0 Z0 esum SB (by omega)) hZ (zW hw 134 rfl) (zW hw 68 rfl) (by decide) (by decide)) (g:=(mkF m 14 #[vr a1,vi p2,vi (I cs.length),vi ((I cs.length) + (I (own_dg p2).length))] [(.int ((I cs.length) + (I (own_dg p2).length))),.ref a1])) rfl (by rw [hml]; rfl) (Steps.refl _) (a:=a1) (by rw [e5]; exact q6) q6' (argsL:=[(.int ((I cs.length) + (I (own_dg p2).length)))]) (rest:=[]) (lenOf pd_12_11 rfl) rfl (Nat.le_of_eq rfl) (D 10 rfl) (fun _ _ => ⟨rfl,e5,(by decide:0 + 0 ≤ _),(by decide:0 + 0 ≤ _)⟩)
 dsimp only [Pt.U,Pt.locs,Pt.cells,Pt.slots] at X6 l6 y6 z6 st6 hQ6
 subst l6 y6 z6
 obtain ⟨rfl,N6q,e6⟩ := hQ6
 have N6 := Fr.app N5 N6q
 obtain ⟨cq7,kq7,q7a,q7b,q7c⟩ := isOf hZ e6 ((E_a1))
 obtain ⟨_,T7,Lc7,X7,hQ7,st7⟩ := zU X6 hx hZ hown (zW hw 141 rfl) (zW hw 142 rfl) (zW hw 144 rfl) (zW hw 143 rfl) (by decide) (backOf (W:=0) (r26 l Z a0 hw [] a1 zc true h0 n0 Z0 SC F_coder_a1 hz) hZ (zW hw 145 rfl) (zW hw 68 rfl) (by decide) (by decide)) q7a q7c (g:=(mkF m 18 #[vr a1,vi p2,vi (I cs.length),vi ((I cs.length) + (I (own_dg p2).length))] [.ref a1])) rfl (by rw [hml]; rfl) (argsL:=[]) (rest:=[]) (lenOf pd_15_14 rfl) rfl (Nat.le_of_eq rfl) (D 12 rfl) rfl e6 (by decide:0 + 0 ≤ _) (by decide:0 + 0 ≤ _)
 obtain ⟨rfl,N7q,e7⟩ := hQ7
 have N7 := Fr.app N6 N7q
 obtain ⟨T9,X9,e9,st9⟩ := getF X7 hx hZ hown (host:="") (Or.inl (zW hw 72 rfl)) Via.refl e7 (((F_value_a1))) (g:=(mkF m 41 #[vr a1,vi p2,vi (I cs.length),vi ((I cs.length) + (I (own_dg p2).length))] [.ref a1,(.int ((I cs.length) + (I (own_dg p2).length))),(.int (I cs.length)),.int p2])) rfl rfl (D 30 rfl)
 obtain ⟨_,T10,Lc10,X10,hQ10,st10⟩ := zS X9 hx hZ hown (zW hw 325 rfl) (zW hw 326 rfl) (zW hw 50 rfl) (zW hw 327 rfl) (by decide) (r69p l Z a0 hw [] p2 ((I cs.length) + (I (own_dg p2).length)) t0 cs kd vd h0 n0 Z0 DT B hvd htk g_t0 hq O SWz hp esum) (by decide) (by decide) (W:=0) (g:=(mkF m 44 #[vr a1,vi p2,vi (I cs.length),vi ((I cs.length) + (I (own_dg p2).length))] [.ref t0,(.int ((I cs.length) + (I (own_dg p2).length))),(.int (I cs.length)),.int p2])) rfl (by rw [hml]; rfl) (argsL:=[.int p2,(.int (I cs.length)),(.int ((I cs.length) + (I (own_dg p2).length))),.ref t0]) (rest:=[]) (lenOf pd_33_51 rfl) rfl (Nat.le_of_eq rfl) (D 31 rfl) rfl e9 (by decide:0 + 0 ≤ _) (by decide:0 + 0 ≤ _)
 obtain ⟨⟨r10,rfl⟩,N10q,K10,vs10,V10,hv10,ht10⟩ := hQ10
 have N10 := Fr.app N7 N10q
 obtain ⟨T11,h11,X11,e11,W11,st11⟩ := putF X10 hx hZ hown (host:="") (Or.inl (zW hw 128 rfl)) Via.refl rfl ((((F_count_a1))).keep K10 (ninS hn2 nin0)) ((((E_a1))).keep K10) (Or.inl (zW hw 129 rfl)) (zW hw 59 rfl) (ty:=.int) (by decide) rfl rfl (g:=(mkF m 50 #[vr a1,vi p2,vi (I cs.length),vi ((I cs.length) + (I (own_dg p2).length))] [(.int ((I cs.length) + (I (own_dg p2).length))),.ref a1])) rfl rfl (D 23 rfl)
 have Fw11 := ((((F_count_a1))).keep K10 (ninS hn2 nin0)).same W11
 have K11 : Keep h0 h11 [a1,t0] := ((Keep.refl h0 [a1,t0]).trans K10 (allS (Or.inl (List.mem_of_getElem? (i:=1) rfl)) all0)).wr W11 (Or.inl (List.mem_of_getElem? (i:=0) rfl))
 have N11 := Fr.snoc X11 N10 g_a1
 refine zL Bd X11 (ef_33 m a1 p2) (some (.ref a1)) nofun (by decide) (by decide) (fun fs hr => ?_) ?_
 · refine aN X0.here hx rfl (D 0 rfl) rfl rfl (st4 _ (sN X4.here hx rfl (D 2 rfl) rfl (l':=#[vr a1,vi p2,vi (I cs.length),.unset]) rfl (iN X4.here hx rfl (D 3 rfl) rfl ?_)))
   refine iN X4.here hx rfl (D 4 rfl) rfl (st5 _ (iA X5.here hx rfl (D 6 rfl) rfl (sN X5.here hx rfl (D 7 rfl) rfl (l':=#[vr a1,vi p2,vi (I cs.length),vi ((I cs.length) + (I (own_dg p2).length))]) rfl ?_)))
   refine aN X5.here hx rfl (D 8 rfl) rfl rfl (iN X5.here hx rfl (D 9 rfl) rfl (st6.trans (aN X6.here hx rfl (D 11 rfl) rfl rfl ?_)))
   refine st7.trans (fY X7.here hx rfl (pc0 := 21) (pc':=37) rfl (D 13 rfl) rfl ((if0 _ _).trans (teq (by decide:(own_nl true) = 0)).1) (by decide) (by decide) (iN X7.here hx rfl (D 26 rfl) rfl (iN X7.here hx rfl (D 27 rfl) rfl ?_)))
   refine iN X7.here hx rfl (D 28 rfl) rfl (aN X7.here hx rfl (D 29 rfl) rfl rfl (st9 _ (st10 _ ?_)))
   refine XS.pop X10.here hx rfl (D 32 rfl) rfl rfl (aN X10.here hx rfl (D 21 rfl) rfl rfl (iN X10.here hx rfl (D 22 rfl) rfl (st11 _ ?_)))
   refine aN X11.here hx rfl (D 24 rfl) rfl rfl ?_
   jvm_step X11.here [X11.here.top,hx,(D 25 rfl),X11.method',Bd.returns,Value.isRef,FieldType.isReference]
   first | (intro acts; rw [hr _ acts rfl rfl rfl]) | rw [hr _ _ rfl rfl rfl]
   exact Steps.refl _
 · show QA Z a1 t0 true (cs ++ own_dg p2) h0 n0 _ T11.heap _
   rw [e11]
   refine ⟨rfl,N11,K11,t0,⟨(E_a1.keep K10).wr W11,(F_coder_a1.keep K10 (ninS hn2 nin0)).other W11 (Or.inr (slot_ne (Or.inl (zW hw 75 rfl)) (Or.inl (zW hw 129 rfl)) (by decide) (t:=.byte) (t':=.int) (by decide) (by decide))),?_,(F_value_a1.keep K10 (ninS hn2 nin0)).other W11 (Or.inr (slot_ne (Or.inl (zW hw 73 rfl)) (Or.inl (zW hw 129 rfl)) (by decide) (t:=(.array .byte)) (t':=.int) (by decide) (by decide))),(F_m.keep K10 (ninS hn2 nin0)).other W11 (Or.inr (slot_ne (Or.inl (zW hw 341 rfl)) (Or.inl (zW hw 129 rfl)) (by decide) (t:=.boolean) (t':=.int) (by decide) (by decide))),kd,_,V10.other W11 hn2.symm,hv10,?_,ht10⟩,Or.inl rfl⟩
   · rw [List.length_append,Int32.ofNat_add]; exact Fw11
   · rw [List.length_append]; omega
theorem r33 (l:Launch) (Z:State) (a0:Array Value) (hw:zH Z a0) (ws:List Jvm.Cond) (a1:Addr) (p2:Int32) (t0:Addr) (w:Bool) (cs:List Int32) (h0:Heap) (n0:Nat) (Z0:n0 ≤ h0.size) (SB:own_SB Z h0 a1 w cs t0) (g_a1:n0 ≤ a1) (g_t0:n0 ≤ t0) (O:Old Z n0 h0) (SWz:own_SW Z Z.heap) (DT:own_DT Z) (hp:own_cnt p2) (hq:cs.length + 3 ≤ 96) :
   zM l Z h0 ws y_18 jdk_68_method_32_code 4 (some (.object "java/lang/AbstractStringBuilder")) (zr 4 0 0 61) #[.ref a1,.int p2] (QA Z a1 t0 w (cs ++ own_dg p2) h0 n0) := by
 cases w
 · exact r33l l Z a0 hw ws a1 p2 t0 cs h0 n0 Z0 SB g_a1 g_t0 O SWz DT hp hq
 · exact r33w l Z a0 hw ws a1 p2 t0 cs h0 n0 Z0 SB g_a1 g_t0 O SWz DT hp hq
def l32 : zl := [(0,.aload_n 0,1),(1,.iload_n 1,1),(2,.invokespecial 53,3),(5,.pop,1),(6,.aload_n 0,1),(7,.areturn,1)]
theorem D32 : zq jdk_67_method_15_code l32 := zd (by decide +kernel)
theorem pd_32_29 : parseMethodDescriptor "(I)Ljava/lang/AbstractStringBuilder;" = some ⟨[.int],some (.object "java/lang/AbstractStringBuilder")⟩ := by decide +kernel
theorem r32 (l:Launch) (Z:State) (a0:Array Value) (hw:zH Z a0) (ws:List Jvm.Cond) (a1:Addr) (p2:Int32) (t0:Addr) (w:Bool) (cs:List Int32) (h0:Heap) (n0:Nat) (Z0:n0 ≤ h0.size) (SB:own_SB Z h0 a1 w cs t0) (g_a1:n0 ≤ a1) (g_t0:n0 ≤ t0) (O:Old Z n0 h0) (SWz:own_SW Z Z.heap) (DT:own_DT Z) (hp:own_cnt p2) (hq:cs.length + 3 ≤ 96) :
   zM l Z h0 ws y_40 jdk_67_method_15_code 2 (some (.object "java/lang/StringBuilder")) (zr 5 0 0 76) #[.ref a1,.int p2] (QA Z a1 t0 w (cs ++ own_dg p2) h0 n0) := by
 refine zE pn_45 rfl fun p e s m below meth c s₁ Bd hx hby hml hown hZ X0 e0 => ?_
 have E_a1 := SB.1
 have D := D32 Bd.bytes
 have N0 := Fr.nil n0
 obtain ⟨_,_,⟨T3,L3,k3,n3⟩,-,X3,⟨Lc3,hQ3,l3,y3,z3⟩,st3⟩ := superBack X0 hx hZ (y:=y_18) hown (zW hw 177 rfl) (own_same (y:=y_18) (own_nf (notFace_of_selects (zW hw 133 rfl)) (zW hw 131 rfl) rfl) (zW hw 178 rfl) (by decide)) (zW hw 178 rfl) (zW hw 113 rfl) (by decide) (backOf (W:=0) (r33 l Z a0 hw [] a1 p2 t0 w cs h0 n0 Z0 SB g_a1 g_t0 O SWz DT hp hq) hZ (zW hw 180 rfl) (zW hw 68 rfl) (by decide) (by decide)) e0 (Ins.self E_a1) (g:=(mkF m 2 #[vr a1,vi p2] [.int p2,.ref a1])) rfl (by rw [hml]; rfl) (zW hw 180 rfl) (argsL:=[.int p2]) (rest:=[]) (lenOf pd_32_29 rfl) rfl (Nat.le_of_eq rfl) (D 2 rfl) (fun _ _ => ⟨rfl,e0,(by decide:0 + 0 ≤ _),(by decide:0 + 0 ≤ _)⟩)
 dsimp only [Pt.U,Pt.locs,Pt.cells,Pt.slots] at X3 l3 y3 z3 st3 hQ3
 subst l3 y3 z3
 obtain ⟨rfl,N3q,Qq⟩ := hQ3
 have N3 := Fr.app N0 N3q
 refine zL Bd X3 (ef_58 m a1 p2) (some (.ref a1)) nofun (by decide) (by decide) (fun fs hr => ?_) ?_
 · refine aN X0.here hx rfl (D 0 rfl) rfl rfl (iN X0.here hx rfl (D 1 rfl) rfl (st3.trans (XS.pop X3.here hx rfl (D 3 rfl) rfl rfl ?_)))
   refine aN X3.here hx rfl (D 4 rfl) rfl rfl ?_
   jvm_step X3.here [X3.here.top,hx,(D 5 rfl),X3.method',Bd.returns,Value.isRef,FieldType.isReference]
   first | (intro acts; rw [hr _ acts rfl rfl rfl]) | rw [hr _ _ rfl rfl rfl]
   exact Steps.refl _
 · show QA Z a1 t0 w (cs ++ own_dg p2) h0 n0 _ T3.heap _
   exact ⟨rfl,N3,Qq⟩
abbrev own_R25 : Room := (zr 6 1 400 89)
def own_H (Z:State) (h:Heap) (b:Addr) (w:Bool) (n:Nat) (t:Addr) : Prop := Exa Z h b "java/lang/StringBuilder" ∧ Fld Z h b "java/lang/AbstractStringBuilder" "coder" "B" (.int (own_cd w)) ∧ Fld Z h b "java/lang/AbstractStringBuilder" "count" "I" (.int (I n)) ∧ Fld Z h b "java/lang/AbstractStringBuilder" "value" "[B" (.ref t) ∧ Fld Z h b "java/lang/AbstractStringBuilder" "maybeLatin1" "Z" (.int 0)
theorem own_H.keep {Z:State} {h h':Heap} {b t:Addr} {w:Bool} {n:Nat} {L:List Addr} (H:own_H Z h b w n t) (K:Keep h h' L) (q:b ∉ L) : own_H Z h' b w n t := by
 obtain ⟨E,F1,F2,F3,F4⟩ := H
 exact ⟨E.keep K,F1.keep K q,F2.keep K q,F3.keep K q,F4.keep K q⟩
theorem own_H.sb {Z:State} {h:Heap} {b t:Addr} {w:Bool} {cs:List Int32} {k:ClassId} {vs:List Value} (H:own_H Z h b w cs.length t) (V:Arv Z h t k .byte (I (own_k w * 96)) vs (.int 0)) (hv:vs.length = own_k w * 96) (hc:cs.length ≤ 96) (ht:vs.take (own_k w * cs.length) = own_enc w cs) : own_SB Z h b w cs t := by
 obtain ⟨E,F1,F2,F3,F4⟩ := H
 exact ⟨E,F1,F2,F3,F4,k,vs,V,hv,hc,ht⟩
def l25 : zl := [(0,.aload_n 0,1),(1,.invokevirtual 83,3),(4,.ifCond .eq 141,3),(7,.aload_n 1,1),(8,.invokevirtual 400,3),(11,.ifCond .eq 25,3),(36,.aload_n 0,1),(37,.getfield 15,3),(40,.astore 4,2),(42,.iload_n 2,1),(43,.istore 5,2),(45,.aload_n 0,1),(46,.getfield 79,3),(49,.istore 6,2),(51,.iload 5,2),(53,.iload_n 3,1),(54,.if_icmp .ge 88,3),(57,.aload_n 1,1),(58,.iload 5,2),(60,.invokevirtual 404,3),(63,.istore 7,2),(65,.iload 7,2),(67,.invokestatic 191,3),(70,.ifCond .eq 17,3),(73,.aload 4,2),(75,.iload 6,2),(77,.iinc 6 1,3),(80,.iload 7,2),(82,.i2b,1),(83,.bastore,1),(84,.goto 52,3),(136,.iinc 5 1,3),(139,.goto (-88),3),(142,.goto 52,3),(87,.aload_n 0,1),(88,.iload 6,2),(90,.putfield 79,3),(93,.aload_n 0,1),(94,.invokevirtual 195,3),(97,.aload_n 1,1),(98,.invokevirtual 401,3),(101,.iload 5,2),(103,.iconst 1,1),(104,.ishl,1),(105,.aload_n 0,1),(106,.getfield 15,3),(109,.iload 6,2),(111,.iconst 1,1),(112,.ishl,1),(113,.iload_n 3,1),(114,.iload 5,2),(116,.isub,1),(117,.iconst 1,1),(118,.ishl,1),(119,.invokestatic 309,3),(122,.aload_n 0,1),(123,.dup,1),(124,.getfield 79,3),(127,.iload_n 3,1),(128,.iload 5,2),(130,.isub,1),(131,.iadd,1),(132,.putfield 79,3),(194,.aload_n 0,1),(195,.dup,1),(196,.getfield 79,3),(199,.iload_n 3,1),(200,.iload_n 2,1),(201,.isub,1),(202,.iadd,1),(203,.putfield 79,3),(14,.aload_n 1,1),(15,.invokevirtual 401,3),(18,.iload_n 2,1),(19,.aload_n 0,1),(20,.getfield 15,3),(23,.aload_n 0,1),(24,.getfield 79,3),(27,.iload_n 3,1),(28,.iload_n 2,1),(29,.isub,1),(30,.invokestatic 309,3),(33,.goto 161,3),(135,.return_,1),(206,.return_,1)]
theorem D25 : zq jdk_68_method_75_code l25 := zd (by decide +kernel)
theorem os25_40_ap0 {z0:Value} {z1:Value} {z2:Value} {s3:Slot} {s4:Slot} {s5:Slot} {s6:Slot} {s7:Slot} {v:Addr} (h:One s4) : storeLocals #[.val z0,.val z1,.val z2,s3,s4,s5,s6,s7] 4 (.ref v) = some #[.val z0,.val z1,.val z2,s3,vr v,s5,s6,s7] := by
 rcases h with rfl | ⟨w,rfl,hw⟩
 · rfl
 · cases w <;> first | rfl | (simp [Value.category] at hw)
theorem os25_43_ap0 {z0:Value} {z1:Value} {z2:Value} {s3:Slot} {z4:Value} {s5:Slot} {s6:Slot} {s7:Slot} {v:Int32} (h:One s5) : storeLocals #[.val z0,.val z1,.val z2,s3,.val z4,s5,s6,s7] 5 (.int v) = some #[.val z0,.val z1,.val z2,s3,.val z4,vi v,s6,s7] := by
 rcases h with rfl | ⟨w,rfl,hw⟩
 · rfl
 · cases w <;> first | rfl | (simp [Value.category] at hw)
theorem os25_49_ap0 {z0:Value} {z1:Value} {z2:Value} {s3:Slot} {z4:Value} {z5:Value} {s6:Slot} {s7:Slot} {v:Int32} (h:One s6) : storeLocals #[.val z0,.val z1,.val z2,s3,.val z4,.val z5,s6,s7] 6 (.int v) = some #[.val z0,.val z1,.val z2,s3,.val z4,.val z5,vi v,s7] := by
 rcases h with rfl | ⟨w,rfl,hw⟩
 · rfl
 · cases w <;> first | rfl | (simp [Value.category] at hw)
theorem ap0 {h0:Heap} (o0:Addr) (o1:Addr) (i2:Int32) (s3:Slot) (s4:Slot) (s5:Slot) (s6:Slot) (s7:Slot) (w7:Addr) (zc:Int32) (n0:Nat)
   (X0:Stand p l e own_R25 s m args below meth c T0 locs cells slots) (hx:p.tables.exec = Jvm.exec) (hZ:Z.Warmed39 s.vm) (hw:zH Z a0) (hby:c.code = jdk_68_method_75_code) (hml:c.maxLocals = 8) (hown:s.vm.findClass "java/lang/AbstractStringBuilder" = some m.cls) (e0:T0.heap = h0) (H:own_H Z h0 o0 false 0 w7) (E1:Exa Z h0 o1 "java/lang/String") (SC:Sta Z h0 "java/lang/String" "COMPACT_STRINGS" "Z" (.int zc)) (hz:¬ zc = 0) (FC1:Fld Z h0 o1 "java/lang/String" "coder" "B" (.int (own_cd true))) (Z0:n0 ≤ h0.size) (N0:Fr n0 locs) (hcl:cells ≤ own_R25.cells) (hsl:slots ≤ own_R25.slots) (hs4:One s4) (hs5:One s5) (hs6:One s6) (hk0:¬ ((own_nl false) = 0)) (hk1:(own_nl true) = 0) :
   ∃ (T':State) (locs':List Loc),Stand p l e own_R25 s m args below meth c T' locs' cells slots ∧ Fr n0 locs' ∧ T'.heap = h0 ∧
     ∀ target,Steps p.tables e below (T'.setTop (mkF m 51 #[vr o0,vr o1,vi i2,s3,vr w7,vi i2,vi 0,s7] [])) target → Steps p.tables e below (T0.setTop (mkF m 0 #[vr o0,vr o1,vi i2,s3,s4,s5,s6,s7] [])) target := by
 have D := D25 hby
 obtain ⟨cq5,kq5,q5a,q5b,q5c⟩ := isOf hZ e0 H.1
 obtain ⟨_,T5,Lc5,X5,hQ5,st5⟩ := zU X0 hx hZ hown (zW hw 141 rfl) (zW hw 142 rfl) (zW hw 144 rfl) (zW hw 143 rfl) (by decide) (backOf (W:=0) (r26 l Z a0 hw [] o0 zc false h0 n0 Z0 SC H.2.1 hz) hZ (zW hw 145 rfl) (zW hw 68 rfl) (by decide) (by decide)) q5a q5c (g:=(mkF m 1 #[vr o0,vr o1,vi i2,s3,s4,s5,s6,s7] [.ref o0])) rfl (by rw [hml]; rfl) (argsL:=[]) (rest:=[]) (lenOf pd_15_14 rfl) rfl (Nat.le_of_eq rfl) (D 1 rfl) rfl e0 hcl hsl
 obtain ⟨rfl,N5q,e5⟩ := hQ5
 have N5 := Fr.app N0 N5q
 obtain ⟨cq6,kq6,q6a,q6b,q6c⟩ := isOf hZ e5 E1
 obtain ⟨_,T6,Lc6,X6,hQ6,st6⟩ := zU X5 hx hZ hown (zW hw 146 rfl) (zW hw 85 rfl) (zW hw 87 rfl) (zW hw 86 rfl) (by decide) (backOf (W:=0) (r16 l Z a0 hw [] o1 zc true h0 n0 Z0 SC FC1 hz) hZ (zW hw 88 rfl) (zW hw 7 rfl) (by decide) (by decide)) q6a q6c (g:=(mkF m 8 #[vr o0,vr o1,vi i2,s3,s4,s5,s6,s7] [.ref o1])) rfl (by rw [hml]; rfl) (argsL:=[]) (rest:=[]) (lenOf pd_15_14 rfl) rfl (Nat.le_of_eq rfl) (D 4 rfl) rfl e5 hcl hsl
 obtain ⟨rfl,N6q,e6⟩ := hQ6
 have N6 := Fr.app N5 N6q
 obtain ⟨T8,X8,e8,st8⟩ := getF X6 hx hZ hown (host:="") (Or.inl (zW hw 72 rfl)) Via.refl e6 ((H.2.2.2.1)) (g:=(mkF m 37 #[vr o0,vr o1,vi i2,s3,s4,s5,s6,s7] [.ref o0])) rfl rfl (D 7 rfl)
 obtain ⟨T10,X10,e10,st10⟩ := getF X8 hx hZ hown (host:="") (Or.inl (zW hw 128 rfl)) Via.refl e8 ((H.2.2.1)) (g:=(mkF m 46 #[vr o0,vr o1,vi i2,s3,vr w7,vi i2,s6,s7] [.ref o0])) rfl rfl (D 12 rfl)
 refine ⟨T10,_,X10,N6,e10,fun target kt => ?_⟩
 refine aN X0.here hx rfl (D 0 rfl) rfl rfl (st5.trans (fN X5.here hx rfl (D 2 rfl) rfl ((if0 _ _).trans (feq (hk0:¬ ((own_nl false) = 0))).1) (aN X5.here hx rfl (D 3 rfl) rfl rfl ?_)))
 refine st6.trans (fY X6.here hx rfl (pc0 := 11) (pc':=36) rfl (D 5 rfl) rfl ((if0 _ _).trans (teq (hk1:(own_nl true) = 0)).1) (by decide) (by decide) (aN X6.here hx rfl (D 6 rfl) rfl rfl (st8 _ ?_)))
 refine XS.astore X8.here hx rfl (D 8 rfl) rfl rfl (l':=#[vr o0,vr o1,vi i2,s3,vr w7,s5,s6,s7]) (os25_40_ap0 hs4) (iN X8.here hx rfl (D 9 rfl) rfl (iS X8.here hx rfl (D 10 rfl) rfl (l':=#[vr o0,vr o1,vi i2,s3,vr w7,vi i2,s6,s7]) (os25_43_ap0 hs5) (aN X8.here hx rfl (D 11 rfl) rfl rfl ?_)))
 refine st10 _ (iS X10.here hx rfl (D 13 rfl) rfl (l':=#[vr o0,vr o1,vi i2,s3,vr w7,vi i2,vi 0,s7]) (os25_49_ap0 hs6) ?_)
 exact kt
theorem pd_25_13 : parseMethodDescriptor "(I)C" = some ⟨[.int],some .char⟩ := by decide +kernel
theorem os25_63_apt {s0:Slot} {z1:Value} {s2:Slot} {z3:Value} {z4:Value} {z5:Value} {z6:Value} {s7:Slot} {v:Int32} (h:One s7) : storeLocals #[s0,.val z1,s2,.val z3,.val z4,.val z5,.val z6,s7] 7 (.int v) = some #[s0,.val z1,s2,.val z3,.val z4,.val z5,.val z6,vi v] := by
 rcases h with rfl | ⟨w,rfl,hw⟩
 · rfl
 · cases w <;> first | rfl | (simp [Value.category] at hw)
theorem apt {h0:Heap} (s0:Slot) (o1:Addr) (s2:Slot) (i3:Int32) (o4:Addr) (i5:Int32) (i6:Int32) (s7:Slot) (w:Bool) (cs:List Int32) (i:Nat) (kd:ClassId) (vd:List Value) (n0:Nat)
   (X0:Stand p l e own_R25 s m args below meth c T0 locs cells slots) (hx:p.tables.exec = Jvm.exec) (hZ:Z.Warmed39 s.vm) (hw:zH Z a0) (hby:c.code = jdk_68_method_75_code) (hml:c.maxLocals = 8) (hown:s.vm.findClass "java/lang/AbstractStringBuilder" = some m.cls) (e0:T0.heap = h0) (TX:own_Str Z h0 o1 w cs) (SWh:own_SW Z h0) (hC:own_C cs) (hwd:own_wd cs = w) (hl:cs.length ≤ 200) (hi:i < cs.length) (hi9:i < 96) (h5:i5 = I i) (h6:i6 = I i) (hlo:¬ (255:Int32) < cs.getD i 0) (V:Arv Z h0 o4 kd .byte (I 96) vd (.int 0)) (hvd:vd.length = 96) (Z0:n0 ≤ h0.size) (N0:Fr n0 locs) (hcl:cells ≤ own_R25.cells) (hsl:slots ≤ own_R25.slots) (hs7:One s7) (g_o4:n0 ≤ o4) (hc54:i5 < i3) (hk0:¬ ((1:Int32) = 0)) :
   ∃ (T':State) (locs':List Loc),Stand p l e own_R25 s m args below meth c T' locs' cells slots ∧ Fr n0 locs' ∧ Keep h0 T'.heap [o4] ∧ Arv Z T'.heap o4 kd .byte (I 96) (vd.set i (.int (StrChars.lo8 (cs.getD i 0)))) (.int 0) ∧
     ∀ target,Steps p.tables e below (T'.setTop (mkF m 51 #[s0,vr o1,s2,vi i3,vr o4,vi (i5 + 1),vi (i6 + 1),vi (cs.getD i 0)] [])) target → Steps p.tables e below (T0.setTop (mkF m 51 #[s0,vr o1,s2,vi i3,vr o4,vi i5,vi i6,s7] [])) target := by
 have D := D25 hby
 obtain ⟨cl_o4,Ar_o4,q4,S4,M4,H4,G4⟩ := V
 have x6 : (i6).toNatClampNeg = i := by rw [h6]; exact own_cl i (by omega)
 have hin83 : ¬ (i6 < 0 ∨ cl_o4.slots.size ≤ (i6).toNatClampNeg) := fun q => q.elim (by rw [h6]; exact own_nn i (by omega)) (by rw [x6,S4,own_cl 96 (by decide)]; omega)
 obtain ⟨cq5,kq5,q5a,q5b,q5c⟩ := isOf hZ e0 TX.1
 obtain ⟨_,T5,Lc5,X5,hQ5,st5⟩ := zU X0 hx hZ hown (zW hw 300 rfl) (zW hw 80 rfl) (zW hw 82 rfl) (zW hw 81 rfl) (by decide) (own_ch (W:=0) hZ hw TX SWh hC hwd hl (i:=i) hi h5 n0 Z0 (by decide) (by decide)) q5a q5c (g:=(mkF m 60 #[s0,vr o1,s2,vi i3,vr o4,vi i5,vi i6,s7] [.int i5,.ref o1])) rfl (by rw [hml]; rfl) (argsL:=[.int i5]) (rest:=[]) (lenOf pd_25_13 rfl) rfl (Nat.le_of_eq rfl) (D 19 rfl) rfl e0 hcl hsl
 obtain ⟨rfl,N5q,e5⟩ := hQ5
 have N5 := Fr.app N0 N5q
 obtain ⟨_,T6,Lc6,X6,hQ6,st6⟩ := zS X5 hx hZ hown (zW hw 169 rfl) (zW hw 170 rfl) (zW hw 91 rfl) (zW hw 171 rfl) (by decide) (r31l l Z a0 hw [] (cs.getD i 0)  h0 n0 Z0 hlo) (by decide) (by decide) (W:=0) (g:=(mkF m 67 #[s0,vr o1,s2,vi i3,vr o4,vi i5,vi i6,vi (cs.getD i 0)] [(.int (cs.getD i 0))])) rfl (by rw [hml]; rfl) (argsL:=[(.int (cs.getD i 0))]) (rest:=[]) (lenOf pd_30_18 rfl) rfl (Nat.le_of_eq rfl) (D 22 rfl) rfl e5 hcl hsl
 obtain ⟨rfl,N6q,e6⟩ := hQ6
 have N6 := Fr.app N5 N6q
 obtain ⟨T7,h7,X7,e7,W7,st7⟩ := stB X6 hx hZ e6 Ar_o4 (j:=i6) hin83 (g:=(mkF m 83 #[s0,vr o1,s2,vi i3,vr o4,vi i5,vi (i6 + 1),vi (cs.getD i 0)] [(.int ((cs.getD i 0).toInt8.toInt32)),.int i6,.ref o4])) rfl rfl (D 29 rfl)
 have N7 := Fr.snoc X7 N6 g_o4
 have K7 : Keep h0 h7 [o4] := (Keep.refl h0 [o4]).wr W7 (Or.inl (List.mem_of_getElem? (i:=0) rfl))
 have V7 := Arv.set Ar_o4 q4 S4 M4 H4 G4 (fits_nar_byte _) W7 i x6 (by omega)
 have hlo8 : ∀ u : Int32,(StrChars.lo8 u).toInt8.toInt32 = StrChars.lo8 u := own_lo8i
 refine ⟨T7,_,X7,N7,by rw [e7]; exact K7,by rw [e7]; rw [← own_lo8i]; exact V7,fun target kt => ?_⟩
 refine iL X0.here hx rfl (D 14 rfl) rfl (iN X0.here hx rfl (D 15 rfl) rfl (cN X0.here hx rfl (D 16 rfl) rfl (tlt hc54).2.1 (aN X0.here hx rfl (D 17 rfl) rfl rfl ?_)))
 refine iL X0.here hx rfl (D 18 rfl) rfl (st5.trans (iS X5.here hx rfl (D 20 rfl) rfl (l':=#[s0,vr o1,s2,vi i3,vr o4,vi i5,vi i6,vi (cs.getD i 0)]) (os25_63_apt hs7) (iL X5.here hx rfl (D 21 rfl) rfl ?_)))
 refine st6 _ (fN X6.here hx rfl (D 23 rfl) rfl ((if0 _ _).trans (feq (hk0:¬ ((1:Int32) = 0))).1) (aL X6.here hx rfl (D 24 rfl) rfl rfl (iL X6.here hx rfl (D 25 rfl) rfl ?_)))
 refine iI X6.here hx rfl (D 26 rfl) rfl (l':=#[s0,vr o1,s2,vi i3,vr o4,vi i5,vi (i6 + 1),vi (cs.getD i 0)]) rfl (iL X6.here hx rfl (D 27 rfl) rfl (XS.i2b X6.here hx rfl (D 28 rfl) rfl (st7 _ ?_)))
 refine gT X7.here hx rfl (pc0 := 84) (pc':=136) rfl (D 30 rfl) (by decide) (by decide) (iI X7.here hx rfl (D 31 rfl) rfl (l':=#[s0,vr o1,s2,vi i3,vr o4,vi (i5 + 1),vi (i6 + 1),vi (cs.getD i 0)]) rfl (gT X7.here hx rfl (pc0 := 139) (pc':=51) rfl (D 32 rfl) (by decide) (by decide) ?_))
 exact kt
theorem apx {h0:Heap} (s0:Slot) (s1:Slot) (s2:Slot) (i3:Int32) (s4:Slot) (i5:Int32) (s6:Slot) (s7:Slot)
   (X0:Stand p l e own_R25 s m args below meth c T0 locs cells slots) (hx:p.tables.exec = Jvm.exec) (hZ:Z.Warmed39 s.vm) (hw:zH Z a0) (hby:c.code = jdk_68_method_75_code) (hml:c.maxLocals = 8) (hown:s.vm.findClass "java/lang/AbstractStringBuilder" = some m.cls) (e0:T0.heap = h0) (hc54:¬ (i5 < i3)) :
   ∃ (T':State),Stand p l e own_R25 s m args below meth c T' locs cells slots ∧ T'.heap = h0 ∧
     ∀ target,Steps p.tables e below (T'.setTop (mkF m 194 #[s0,s1,s2,vi i3,s4,vi i5,s6,s7] [])) target → Steps p.tables e below (T0.setTop (mkF m 51 #[s0,s1,s2,vi i3,s4,vi i5,s6,s7] [])) target := by
 have D := D25 hby
 refine ⟨T0,X0,e0,fun target kt => ?_⟩
 refine iL X0.here hx rfl (D 14 rfl) rfl (iN X0.here hx rfl (D 15 rfl) rfl (cY X0.here hx rfl (pc0 := 54) (pc':=142) rfl (D 16 rfl) rfl (flt hc54).2.1 (by decide) (by decide) (gT X0.here hx rfl (pc0 := 142) (pc':=194) rfl (D 33 rfl) (by decide) (by decide) ?_)))
 exact kt
theorem os25_63_apw1 {z0:Value} {z1:Value} {s2:Slot} {z3:Value} {s4:Slot} {z5:Value} {z6:Value} {s7:Slot} {v:Int32} (h:One s7) : storeLocals #[.val z0,.val z1,s2,.val z3,s4,.val z5,.val z6,s7] 7 (.int v) = some #[.val z0,.val z1,s2,.val z3,s4,.val z5,.val z6,vi v] := by
 rcases h with rfl | ⟨w,rfl,hw⟩
 · rfl
 · cases w <;> first | rfl | (simp [Value.category] at hw)
theorem apw1 {h0:Heap} (o0:Addr) (o1:Addr) (s2:Slot) (i3:Int32) (s4:Slot) (i5:Int32) (i6:Int32) (s7:Slot) (w:Bool) (cs:List Int32) (i:Nat) (t0:Addr) (n0:Nat)
   (X0:Stand p l e own_R25 s m args below meth c T0 locs cells slots) (hx:p.tables.exec = Jvm.exec) (hZ:Z.Warmed39 s.vm) (hw:zH Z a0) (hby:c.code = jdk_68_method_75_code) (hml:c.maxLocals = 8) (hown:s.vm.findClass "java/lang/AbstractStringBuilder" = some m.cls) (e0:T0.heap = h0) (TX:own_Str Z h0 o1 w cs) (SWh:own_SW Z h0) (hC:own_C cs) (hwd:own_wd cs = w) (hl:cs.length ≤ 200) (hi:i < cs.length) (h5:i5 = I i) (hhi:(255:Int32) < cs.getD i 0) (h6:i6 = I i) (H:own_H Z h0 o0 false 0 t0) (Z0:n0 ≤ h0.size) (N0:Fr n0 locs) (hcl:cells ≤ own_R25.cells) (hsl:slots ≤ own_R25.slots) (hs7:One s7) (g_o0:n0 ≤ o0) (hc54:i5 < i3) (hk0:(0:Int32) = 0) :
   ∃ (T':State) (locs':List Loc),Stand p l e own_R25 s m args below meth c T' locs' cells slots ∧ Fr n0 locs' ∧ Keep h0 T'.heap [o0] ∧ own_H Z T'.heap o0 false i t0 ∧
     ∀ target,Steps p.tables e below (T'.setTop (mkF m 93 #[vr o0,vr o1,s2,vi i3,s4,vi i5,vi i6,vi (cs.getD i 0)] [])) target → Steps p.tables e below (T0.setTop (mkF m 51 #[vr o0,vr o1,s2,vi i3,s4,vi i5,vi i6,s7] [])) target := by
 have D := D25 hby
 obtain ⟨cq5,kq5,q5a,q5b,q5c⟩ := isOf hZ e0 TX.1
 obtain ⟨_,T5,Lc5,X5,hQ5,st5⟩ := zU X0 hx hZ hown (zW hw 300 rfl) (zW hw 80 rfl) (zW hw 82 rfl) (zW hw 81 rfl) (by decide) (own_ch (W:=0) hZ hw TX SWh hC hwd hl (i:=i) hi h5 n0 Z0 (by decide) (by decide)) q5a q5c (g:=(mkF m 60 #[vr o0,vr o1,s2,vi i3,s4,vi i5,vi i6,s7] [.int i5,.ref o1])) rfl (by rw [hml]; rfl) (argsL:=[.int i5]) (rest:=[]) (lenOf pd_25_13 rfl) rfl (Nat.le_of_eq rfl) (D 19 rfl) rfl e0 hcl hsl
 obtain ⟨rfl,N5q,e5⟩ := hQ5
 have N5 := Fr.app N0 N5q
 obtain ⟨_,T6,Lc6,X6,hQ6,st6⟩ := zS X5 hx hZ hown (zW hw 169 rfl) (zW hw 170 rfl) (zW hw 91 rfl) (zW hw 171 rfl) (by decide) (r31w l Z a0 hw [] (cs.getD i 0)  h0 n0 Z0 hhi) (by decide) (by decide) (W:=0) (g:=(mkF m 67 #[vr o0,vr o1,s2,vi i3,s4,vi i5,vi i6,vi (cs.getD i 0)] [(.int (cs.getD i 0))])) rfl (by rw [hml]; rfl) (argsL:=[(.int (cs.getD i 0))]) (rest:=[]) (lenOf pd_30_18 rfl) rfl (Nat.le_of_eq rfl) (D 22 rfl) rfl e5 hcl hsl
 obtain ⟨rfl,N6q,e6⟩ := hQ6
 have N6 := Fr.app N5 N6q
 obtain ⟨T7,h7,X7,e7,W7,st7⟩ := putF X6 hx hZ hown (host:="") (Or.inl (zW hw 128 rfl)) Via.refl e6 ((H.2.2.1)) ((H.1)) (Or.inl (zW hw 129 rfl)) (zW hw 59 rfl) (ty:=.int) (by decide) rfl rfl (g:=(mkF m 90 #[vr o0,vr o1,s2,vi i3,s4,vi i5,vi i6,vi (cs.getD i 0)] [.int i6,.ref o0])) rfl rfl (D 36 rfl)
 have Fw7 := ((H.2.2.1)).same W7
 have K7 : Keep h0 h7 [o0] := (Keep.refl h0 [o0]).wr W7 (Or.inl (List.mem_of_getElem? (i:=0) rfl))
 have N7 := Fr.snoc X7 N6 g_o0
 refine ⟨T7,_,X7,N7,by rw [e7]; exact K7,by rw [e7]; exact ⟨H.1.wr W7,H.2.1.other W7 (Or.inr (slot_ne (Or.inl (zW hw 75 rfl)) (Or.inl (zW hw 129 rfl)) (by decide) (t:=.byte) (t':=.int) (by decide) (by decide))),by rw [← h6]; exact Fw7,H.2.2.2.1.other W7 (Or.inr (slot_ne (Or.inl (zW hw 73 rfl)) (Or.inl (zW hw 129 rfl)) (by decide) (t:=(.array .byte)) (t':=.int) (by decide) (by decide))),H.2.2.2.2.other W7 (Or.inr (slot_ne (Or.inl (zW hw 341 rfl)) (Or.inl (zW hw 129 rfl)) (by decide) (t:=.boolean) (t':=.int) (by decide) (by decide)))⟩,fun target kt => ?_⟩
 refine iL X0.here hx rfl (D 14 rfl) rfl (iN X0.here hx rfl (D 15 rfl) rfl (cN X0.here hx rfl (D 16 rfl) rfl (tlt hc54).2.1 (aN X0.here hx rfl (D 17 rfl) rfl rfl ?_)))
 refine iL X0.here hx rfl (D 18 rfl) rfl (st5.trans (iS X5.here hx rfl (D 20 rfl) rfl (l':=#[vr o0,vr o1,s2,vi i3,s4,vi i5,vi i6,vi (cs.getD i 0)]) (os25_63_apw1 hs7) (iL X5.here hx rfl (D 21 rfl) rfl ?_)))
 refine st6 _ (fY X6.here hx rfl (pc0 := 70) (pc':=87) rfl (D 23 rfl) rfl ((if0 _ _).trans (teq (hk0:(0:Int32) = 0)).1) (by decide) (by decide) (aN X6.here hx rfl (D 34 rfl) rfl rfl (iL X6.here hx rfl (D 35 rfl) rfl ?_)))
 refine st7 _ ?_
 exact kt
theorem own_wcopy (cs:List Int32) (vs:List Value) (k E:Nat) (hk:k ≤ E) (hE:E ≤ cs.length) (h:vs.take (2 * k) = StrChars.Road.wideBytes (cs.take k)) : vs.take (2 * k) ++ ((StrChars.Road.wideBytes cs).drop (2 * k)).take (2 * (E - k)) = StrChars.Road.wideBytes (cs.take E) := by
 have e1 : ∀ n,(StrChars.Road.wideBytes cs).take (2 * n) = StrChars.Road.wideBytes (cs.take n) := fun n => by
   by_cases hn : n ≤ cs.length
   · have := own_wb_app (cs.take n) (cs.drop n)
     rw [List.take_append_drop] at this
     rw [this,List.take_append_of_le_length (by rw [own_wb_len,List.length_take]; omega)]
     exact List.take_of_length_le (by rw [own_wb_len,List.length_take]; omega)
   · rw [List.take_of_length_le (by rw [own_wb_len]; omega),List.take_of_length_le (by omega)]
 rw [h,← e1,← e1,List.take_drop]
 rw [show 2 * k + 2 * (E - k) = 2 * E by omega]
 conv => rhs; rw [← List.take_append_drop (2 * k) ((StrChars.Road.wideBytes cs).take (2 * E))]
 rw [List.take_take,Nat.min_eq_left (by omega)]
theorem pd_25_23 : parseMethodDescriptor "()[B" = some ⟨[],some (.array .byte)⟩ := by decide +kernel
theorem apw2 {h0:Heap} (o0:Addr) (o1:Addr) (s2:Slot) (i3:Int32) (s4:Slot) (i5:Int32) (i6:Int32) (s7:Slot) (cs:List Int32) (k E:Nat) (t0:Addr) (n0:Nat)
   (X0:Stand p l e own_R25 s m args below meth c T0 locs cells slots) (hx:p.tables.exec = Jvm.exec) (hZ:Z.Warmed39 s.vm) (hw:zH Z a0) (hby:c.code = jdk_68_method_75_code) (hml:c.maxLocals = 8) (hown:s.vm.findClass "java/lang/AbstractStringBuilder" = some m.cls) (e0:T0.heap = h0) (SB:own_SB Z h0 o0 false (cs.take k) t0) (hx2:∀ c ∈ cs.take k,¬ c < 0 ∧ ¬ (255:Int32) < c) (TX:own_Str Z h0 o1 true cs) (hlc:cs.length ≤ 200) (hk:k ≤ E) (hE:E ≤ cs.length) (hE9:E ≤ 96) (h3:i3 = I E) (h5:i5 = I k) (h6:i6 = I k) (g_o0:n0 ≤ o0) (O:Old Z n0 h0) (SWz:own_SW Z Z.heap) (hc0:cells = 0) (hs0:slots = 0) (Z0:n0 ≤ h0.size) (N0:Fr n0 locs) (hcl:cells ≤ own_R25.cells) (hsl:slots ≤ own_R25.slots) :
   ∃ (T':State) (locs':List Loc) (t':Addr) (k':ClassId) (vs:List Value),Stand p l e own_R25 s m args below meth c T' locs' (cells + 1) (slots + 400) ∧ Fr n0 locs' ∧ Keep h0 T'.heap [o0] ∧ h0.size ≤ t' ∧ own_H Z T'.heap o0 true k t' ∧ Arv Z T'.heap t' k' .byte (I (own_k true * 96)) vs (.int 0) ∧ vs.length = own_k true * 96 ∧ vs.take (own_k true * E) = StrChars.Road.wideBytes (cs.take E) ∧
     ∀ target,Steps p.tables e below (T'.setTop (mkF m 122 #[vr o0,vr o1,s2,vi i3,s4,vi i5,vi i6,s7] [])) target → Steps p.tables e below (T0.setTop (mkF m 93 #[vr o0,vr o1,s2,vi i3,s4,vi i5,vi i6,s7] [])) target := by
 have D := D25 hby
 subst hc0 hs0
 have E_o0 := SB.1
 obtain ⟨E_o1,FC1,ta,ka,FV1,VA⟩ := id TX
 have hkl : (cs.take k).length = k := by rw [List.length_take]; omega
 have hn1 : o1 ≠ o0 := Exa.ne E_o1 E_o0 (by decide)
 have hn2 : ta ≠ o0 := fun q => Exa.neArv E_o0 VA (zW hw 59 rfl) q.symm
 have e5_ : i5 <<< ((1:Int32) &&& 31) = I (2 * k) := by rw [h5]; exact (own_ix k (by omega)).1
 have e6_ : i6 <<< ((1:Int32) &&& 31) = I (2 * k) := by rw [h6]; exact (own_ix k (by omega)).1
 have ed_ : ((i3 - i5) <<< ((1:Int32) &&& 31)) = I (2 * (E - k)) := by rw [h3,h5,own_sub k E hk]; exact (own_ix (E - k) (by omega)).1
 have x5 : (i5 <<< ((1:Int32) &&& 31)).toNatClampNeg = 2 * k := by rw [e5_]; exact own_cl _ (by omega)
 have x6 : (i6 <<< ((1:Int32) &&& 31)).toNatClampNeg = 2 * k := by rw [e6_]; exact own_cl _ (by omega)
 have xd : ((i3 - i5) <<< ((1:Int32) &&& 31)).toNatClampNeg = 2 * (E - k) := by rw [ed_]; exact own_cl _ (by omega)
 obtain ⟨cq5,q5,q5'⟩ := E_o0.cell
 obtain ⟨_,_,⟨T5,L5,k5,n5⟩,-,X5,⟨Lc5,hQ5,l5,y5,z5⟩,st5⟩ := X0.privateBack hx (y:=y_38) hown (zT hZ hw 301 rfl) (zT hZ hw 302 rfl) (mvT hZ (own_selP (zW hw 304 rfl) (zW hw 303 rfl) (zW hw 302 rfl) (by decide))) (Cond.privateMethod_at (mvP hZ (zW hw 303 rfl) (args:=#[]))) (zT hZ hw 305 rfl) (by decide) (backOf (W:=0) (r62l l Z a0 hw [] o0 t0 (cs.take k) h0 n0 Z0 SB hx2 g_o0 O SWz) hZ (zW hw 305 rfl) (zW hw 68 rfl) (by decide) (by decide)) (g:=(mkF m 94 #[vr o0,vr o1,s2,vi i3,s4,vi i5,vi i6,s7] [.ref o0])) rfl (by rw [hml]; rfl) (Steps.refl _) (a:=o0) (by rw [e0]; exact q5) q5' (argsL:=[]) (rest:=[]) (lenOf pd_39_3 rfl) rfl (Nat.le_of_eq rfl) (D 38 rfl) (fun _ _ => ⟨rfl,e0,(by decide:0 + 1 ≤ own_R25.cells),(by decide:0 + 400 ≤ own_R25.slots)⟩)
 dsimp only [Pt.U,Pt.locs,Pt.cells,Pt.slots] at X5 l5 y5 z5 st5 hQ5
 subst l5 y5 z5
 obtain ⟨rfl,N5q,K5,SB5⟩ := hQ5
 obtain ⟨E5b,Fc5,Fn5,Fv5,Fm5,kd5,vd5,B5,hvd5,hcs5,htk5⟩ := id SB5
 rw [hkl] at Fn5 htk5
 have VA5 := VA.keep K5 (ninS hn2 nin0)
 have O5 := O.keep K5 (allS g_o0 all0)
 have Z5 := Nat.le_trans Z0 K5.1
 have N5 := Fr.app N0 N5q
 obtain ⟨cq6,kq6,q6a,q6b,q6c⟩ := isOf hZ rfl (E_o1.keep K5)
 obtain ⟨_,T6,Lc6,X6,hQ6,st6⟩ := zU X5 hx hZ hown (zW hw 147 rfl) (zW hw 148 rfl) (zW hw 150 rfl) (zW hw 149 rfl) (by decide) (backOf (W:=0) (r27 l Z a0 hw [] o1 ta T5.heap n0 Z5 (FV1.keep K5 (ninS hn1 nin0))) hZ (zW hw 151 rfl) (zW hw 7 rfl) (by decide) (by decide)) q6a q6c (g:=(mkF m 98 #[vr o0,vr o1,s2,vi i3,s4,vi i5,vi i6,s7] [.ref o1])) rfl (by rw [hml]; rfl) (argsL:=[]) (rest:=[]) (lenOf pd_25_23 rfl) rfl (Nat.le_of_eq rfl) (D 40 rfl) rfl rfl (by decide:1 + 0 ≤ own_R25.cells) (by decide:400 + 0 ≤ own_R25.slots)
 obtain ⟨rfl,N6q,e6⟩ := hQ6
 have N6 := Fr.app N5 N6q
 obtain ⟨T8,X8,e8,st8⟩ := getF X6 hx hZ hown (host:="") (Or.inl (zW hw 72 rfl)) Via.refl e6 Fv5 (g:=(mkF m 106 #[vr o0,vr o1,s2,vi i3,s4,vi i5,vi i6,s7] [.ref o0,(.int (i5 <<< ((1:Int32) &&& 31))),.ref ta])) rfl rfl (D 45 rfl)
 obtain ⟨T9,h9,L9,X9,e9,N9,K9,V9,st9⟩ := cpA X8 hx hZ hown (zW hw 152 rfl) (zW hw 155 rfl) (zW hw 153 rfl) (zW hw 154 rfl) e8 VA5 B5 (Or.inl ⟨rfl,rfl⟩) (by rw [e5_]; exact own_nn _ (by omega)) (by rw [e6_]; exact own_nn _ (by omega)) (by rw [ed_]; exact own_nn _ (by omega)) (by rw [x5,xd,own_cl _ (by show 2 * cs.length < _; omega)]; show 2 * k + 2 * (E - k) ≤ 2 * cs.length; omega) (by rw [x6,xd,own_cl _ (by decide)]; show 2 * k + 2 * (E - k) ≤ 2 * 96; omega) rfl (by rw [x6,xd,hvd5]; show 2 * k + 2 * (E - k) ≤ 2 * 96; omega) N6 Z0 (g:=(mkF m 119 #[vr o0,vr o1,s2,vi i3,s4,vi i5,vi i6,s7] [(.int ((i3 - i5) <<< ((1:Int32) &&& 31))),(.int (i6 <<< ((1:Int32) &&& 31))),.ref h0.size,(.int (i5 <<< ((1:Int32) &&& 31))),.ref ta])) rfl (by rw [hml]; rfl) (rest:=[]) rfl (D 54 rfl) (by decide) (W:=0) (Nat.le_of_eq rfl) (by decide)
 rw [x5,x6,xd,own_rngm _ _ _ _ (by show 2 * k + 2 * (E - k) ≤ (StrChars.Road.wideBytes cs).length; rw [own_wb_len]; omega)] at V9
 have hn3 : o0 ≠ h0.size := Nat.ne_of_lt E_o0.lt
 refine ⟨T9,L9,h0.size,kd5,_,X9,N9,by rw [e9]; exact K5.trans K9 (allS (Or.inr (Nat.le_refl _)) all0),Nat.le_refl _,by rw [e9]; exact own_H.keep ⟨E5b,Fc5,Fn5,Fv5,Fm5⟩ K9 (ninS hn3 nin0),by rw [e9]; exact V9,?_,?_,fun target kt => ?_⟩
 · have hq : ((List.drop (2 * k) (own_enc true cs)).take (2 * (E - k))).length = 2 * (E - k) := by
     show (((StrChars.Road.wideBytes cs).drop (2 * k)).take (2 * (E - k))).length = _
     rw [List.length_take,List.length_drop,own_wb_len]; omega
   have hv5' : vd5.length = 2 * 96 := hvd5
   rw [List.length_append,List.length_append,hq,List.length_take,List.length_drop,hv5']
   show min (2 * k) (2 * 96) + 2 * (E - k) + (2 * 96 - (2 * k + 2 * (E - k))) = 2 * 96
   omega
 · have hw9 := own_wcopy cs vd5 k E hk hE htk5
   have hq : (vd5.take (2 * k) ++ ((StrChars.Road.wideBytes cs).drop (2 * k)).take (2 * (E - k))).length = 2 * E := by
     rw [hw9,own_wb_len,List.length_take]; omega
   show List.take (2 * E) (vd5.take (2 * k) ++ ((StrChars.Road.wideBytes cs).drop (2 * k)).take (2 * (E - k)) ++ _) = _
   rw [List.take_append_of_le_length (by omega),List.take_of_length_le (by omega),hw9]
 refine aN X0.here hx rfl (D 37 rfl) rfl rfl (st5.trans (aN X5.here hx rfl (D 39 rfl) rfl rfl (st6.trans ?_)))
 refine iL X6.here hx rfl (D 41 rfl) rfl (iC X6.here hx rfl (D 42 rfl) (XS.ishl X6.here hx rfl (D 43 rfl) rfl (aN X6.here hx rfl (D 44 rfl) rfl rfl ?_)))
 refine st8 _ (iL X8.here hx rfl (D 46 rfl) rfl (iC X8.here hx rfl (D 47 rfl) (XS.ishl X8.here hx rfl (D 48 rfl) rfl ?_)))
 refine iN X8.here hx rfl (D 49 rfl) rfl (iL X8.here hx rfl (D 50 rfl) rfl (iB X8.here hx rfl (D 51 rfl) rfl (iC X8.here hx rfl (D 52 rfl) ?_)))
 refine XS.ishl X8.here hx rfl (D 53 rfl) rfl (st9 _ ?_)
 exact kt
theorem apw3 {h0:Heap} (o0:Addr) (s1:Slot) (s2:Slot) (i3:Int32) (s4:Slot) (i5:Int32) (s6:Slot) (s7:Slot) (w:Bool) (n k E:Nat) (t0:Addr) (n0:Nat)
   (X0:Stand p l e own_R25 s m args below meth c T0 locs cells slots) (hx:p.tables.exec = Jvm.exec) (hZ:Z.Warmed39 s.vm) (hw:zH Z a0) (hby:c.code = jdk_68_method_75_code) (hml:c.maxLocals = 8) (hown:s.vm.findClass "java/lang/AbstractStringBuilder" = some m.cls) (e0:T0.heap = h0) (H:own_H Z h0 o0 w n t0) (hk:k ≤ E) (hn:n + (E - k) = n + (E - k)) (h3:i3 = I E) (hx5:i5 = I k) (Z0:n0 ≤ h0.size) (N0:Fr n0 locs) (hcl:cells ≤ own_R25.cells) (hsl:slots ≤ own_R25.slots) (g_o0:n0 ≤ o0) :
   ∃ (T':State) (locs':List Loc),Stand p l e own_R25 s m args below meth c T' locs' cells slots ∧ Fr n0 locs' ∧ Keep h0 T'.heap [o0] ∧ own_H Z T'.heap o0 w (n + (E - k)) t0 ∧
     ∀ target,Steps p.tables e below (T'.setTop (mkF m 135 #[vr o0,s1,s2,vi i3,s4,vi i5,s6,s7] [])) target → Steps p.tables e below (T0.setTop (mkF m 122 #[vr o0,s1,s2,vi i3,s4,vi i5,s6,s7] [])) target := by
 have D := D25 hby
 have E_o0 := H.1
 obtain ⟨T6,X6,e6,st6⟩ := getF X0 hx hZ hown (host:="") (Or.inl (zW hw 128 rfl)) Via.refl e0 H.2.2.1 (g:=(mkF m 124 #[vr o0,s1,s2,vi i3,s4,vi i5,s6,s7] [.ref o0,.ref o0])) rfl rfl (D 57 rfl)
 obtain ⟨T7,h7,X7,e7,W7,st7⟩ := putF X6 hx hZ hown (host:="") (Or.inl (zW hw 128 rfl)) Via.refl e6 H.2.2.1 E_o0 (Or.inl (zW hw 129 rfl)) (zW hw 59 rfl) (ty:=.int) (by decide) rfl rfl (g:=(mkF m 132 #[vr o0,s1,s2,vi i3,s4,vi i5,s6,s7] [(.int ((I n) + (i3 - i5))),.ref o0])) rfl rfl (D 62 rfl)
 have Fw7 := H.2.2.1.same W7
 have K7 : Keep h0 h7 [o0] := (Keep.refl h0 [o0]).wr W7 (Or.inl (List.mem_of_getElem? (i:=0) rfl))
 have N7 := Fr.snoc X7 N0 g_o0
 have es_ : I n + (i3 - i5) = I (n + (E - k)) := by rw [h3,hx5,own_sub k E hk,Int32.ofNat_add]
 rw [es_] at Fw7
 refine ⟨T7,_,X7,N7,by rw [e7]; exact K7,by rw [e7]; exact ⟨H.1.wr W7,H.2.1.other W7 (Or.inr (slot_ne (Or.inl (zW hw 75 rfl)) (Or.inl (zW hw 129 rfl)) (by decide) (t:=.byte) (t':=.int) (by decide) (by decide))),Fw7,H.2.2.2.1.other W7 (Or.inr (slot_ne (Or.inl (zW hw 73 rfl)) (Or.inl (zW hw 129 rfl)) (by decide) (t:=(.array .byte)) (t':=.int) (by decide) (by decide))),H.2.2.2.2.other W7 (Or.inr (slot_ne (Or.inl (zW hw 341 rfl)) (Or.inl (zW hw 129 rfl)) (by decide) (t:=.boolean) (t':=.int) (by decide) (by decide)))⟩,fun target kt => ?_⟩
 refine aN X0.here hx rfl (D 55 rfl) rfl rfl (XS.dup X0.here hx rfl (D 56 rfl) rfl rfl (st6 _ (iN X6.here hx rfl (D 58 rfl) rfl ?_)))
 refine iL X6.here hx rfl (D 59 rfl) rfl (iB X6.here hx rfl (D 60 rfl) rfl (iA X6.here hx rfl (D 61 rfl) rfl (st7 _ ?_)))
 exact kt
theorem apc {h0:Heap} (o0:Addr) (s1:Slot) (i2:Int32) (i3:Int32) (s4:Slot) (s5:Slot) (s6:Slot) (s7:Slot) (w:Bool) (n k E:Nat) (t0:Addr) (n0:Nat)
   (X0:Stand p l e own_R25 s m args below meth c T0 locs cells slots) (hx:p.tables.exec = Jvm.exec) (hZ:Z.Warmed39 s.vm) (hw:zH Z a0) (hby:c.code = jdk_68_method_75_code) (hml:c.maxLocals = 8) (hown:s.vm.findClass "java/lang/AbstractStringBuilder" = some m.cls) (e0:T0.heap = h0) (H:own_H Z h0 o0 w n t0) (hk:k ≤ E) (hn:n + (E - k) = n + (E - k)) (h3:i3 = I E) (hx5:i2 = I k) (Z0:n0 ≤ h0.size) (N0:Fr n0 locs) (hcl:cells ≤ own_R25.cells) (hsl:slots ≤ own_R25.slots) (g_o0:n0 ≤ o0) :
   ∃ (T':State) (locs':List Loc),Stand p l e own_R25 s m args below meth c T' locs' cells slots ∧ Fr n0 locs' ∧ Keep h0 T'.heap [o0] ∧ own_H Z T'.heap o0 w (n + (E - k)) t0 ∧
     ∀ target,Steps p.tables e below (T'.setTop (mkF m 206 #[vr o0,s1,vi i2,vi i3,s4,s5,s6,s7] [])) target → Steps p.tables e below (T0.setTop (mkF m 194 #[vr o0,s1,vi i2,vi i3,s4,s5,s6,s7] [])) target := by
 have D := D25 hby
 have E_o0 := H.1
 obtain ⟨T6,X6,e6,st6⟩ := getF X0 hx hZ hown (host:="") (Or.inl (zW hw 128 rfl)) Via.refl e0 H.2.2.1 (g:=(mkF m 196 #[vr o0,s1,vi i2,vi i3,s4,s5,s6,s7] [.ref o0,.ref o0])) rfl rfl (D 65 rfl)
 obtain ⟨T7,h7,X7,e7,W7,st7⟩ := putF X6 hx hZ hown (host:="") (Or.inl (zW hw 128 rfl)) Via.refl e6 H.2.2.1 E_o0 (Or.inl (zW hw 129 rfl)) (zW hw 59 rfl) (ty:=.int) (by decide) rfl rfl (g:=(mkF m 203 #[vr o0,s1,vi i2,vi i3,s4,s5,s6,s7] [(.int ((I n) + (i3 - i2))),.ref o0])) rfl rfl (D 70 rfl)
 have Fw7 := H.2.2.1.same W7
 have K7 : Keep h0 h7 [o0] := (Keep.refl h0 [o0]).wr W7 (Or.inl (List.mem_of_getElem? (i:=0) rfl))
 have N7 := Fr.snoc X7 N0 g_o0
 have es_ : I n + (i3 - i2) = I (n + (E - k)) := by rw [h3,hx5,own_sub k E hk,Int32.ofNat_add]
 rw [es_] at Fw7
 refine ⟨T7,_,X7,N7,by rw [e7]; exact K7,by rw [e7]; exact ⟨H.1.wr W7,H.2.1.other W7 (Or.inr (slot_ne (Or.inl (zW hw 75 rfl)) (Or.inl (zW hw 129 rfl)) (by decide) (t:=.byte) (t':=.int) (by decide) (by decide))),Fw7,H.2.2.2.1.other W7 (Or.inr (slot_ne (Or.inl (zW hw 73 rfl)) (Or.inl (zW hw 129 rfl)) (by decide) (t:=(.array .byte)) (t':=.int) (by decide) (by decide))),H.2.2.2.2.other W7 (Or.inr (slot_ne (Or.inl (zW hw 341 rfl)) (Or.inl (zW hw 129 rfl)) (by decide) (t:=.boolean) (t':=.int) (by decide) (by decide)))⟩,fun target kt => ?_⟩
 refine aN X0.here hx rfl (D 63 rfl) rfl rfl (XS.dup X0.here hx rfl (D 64 rfl) rfl rfl (st6 _ (iN X6.here hx rfl (D 66 rfl) rfl ?_)))
 refine iN X6.here hx rfl (D 67 rfl) rfl (iB X6.here hx rfl (D 68 rfl) rfl (iA X6.here hx rfl (D 69 rfl) rfl (st7 _ ?_)))
 exact kt
theorem own_by_take (cs:List Int32) (E:Nat) : (own_by cs).take E = own_by (cs.take E) := by unfold own_by; rw [List.map_take,List.map_take]
theorem apl {h0:Heap} (o0:Addr) (o1:Addr) (i2:Int32) (i3:Int32) (s4:Slot) (s5:Slot) (s6:Slot) (s7:Slot) (w8:Addr) (cs:List Int32) (E:Nat) (zc:Int32) (kd:ClassId) (vd:List Value) (n0:Nat)
   (X0:Stand p l e own_R25 s m args below meth c T0 locs cells slots) (hx:p.tables.exec = Jvm.exec) (hZ:Z.Warmed39 s.vm) (hw:zH Z a0) (hby:c.code = jdk_68_method_75_code) (hml:c.maxLocals = 8) (hown:s.vm.findClass "java/lang/AbstractStringBuilder" = some m.cls) (e0:T0.heap = h0) (H:own_H Z h0 o0 false 0 w8) (TX:own_Str Z h0 o1 false cs) (hlc:cs.length ≤ 200) (hE:E ≤ cs.length) (hE9:E ≤ 96) (h2:i2 = 0) (h3:i3 = I E) (SC:Sta Z h0 "java/lang/String" "COMPACT_STRINGS" "Z" (.int zc)) (hz:¬ zc = 0) (V:Arv Z h0 w8 kd .byte (I 96) vd (.int 0)) (hvd:vd.length = 96) (g_t0:n0 ≤ w8) (Z0:n0 ≤ h0.size) (N0:Fr n0 locs) (hcl:cells ≤ own_R25.cells) (hsl:slots ≤ own_R25.slots) :
   ∃ (T':State) (locs':List Loc) (vs:List Value),Stand p l e own_R25 s m args below meth c T' locs' cells slots ∧ Fr n0 locs' ∧ Keep h0 T'.heap [w8] ∧ Arv Z T'.heap w8 kd .byte (I 96) vs (.int 0) ∧ vs.length = 96 ∧ vs.take E = own_by (cs.take E) ∧
     ∀ target,Steps p.tables e below (T'.setTop (mkF m 194 #[vr o0,vr o1,vi i2,vi i3,s4,s5,s6,s7] [])) target → Steps p.tables e below (T0.setTop (mkF m 0 #[vr o0,vr o1,vi i2,vi i3,s4,s5,s6,s7] [])) target := by
 have D := D25 hby
 subst h2
 have E_o0 := H.1
 obtain ⟨E_o1,FC1,ta,ka,FV1,VA0⟩ := id TX
 have VA : Arv Z h0 ta ka .byte (I cs.length) (own_by cs) (.int 0) := by rw [← Nat.one_mul cs.length]; exact VA0
 have ed_ : (i3 - 0) = I E := by rw [h3]; exact Int32.sub_zero _
 have xd : (i3 - 0).toNatClampNeg = E := by rw [ed_]; exact own_cl _ (by omega)
 have x0 : (0:Int32).toNatClampNeg = 0 := by decide
 obtain ⟨cq5,kq5,q5a,q5b,q5c⟩ := isOf hZ e0 E_o0
 obtain ⟨_,T5,Lc5,X5,hQ5,st5⟩ := zU X0 hx hZ hown (zW hw 141 rfl) (zW hw 142 rfl) (zW hw 144 rfl) (zW hw 143 rfl) (by decide) (backOf (W:=0) (r26 l Z a0 hw [] o0 zc false h0 n0 Z0 SC H.2.1 hz) hZ (zW hw 145 rfl) (zW hw 68 rfl) (by decide) (by decide)) q5a q5c (g:=(mkF m 1 #[vr o0,vr o1,vi 0,vi i3,s4,s5,s6,s7] [.ref o0])) rfl (by rw [hml]; rfl) (argsL:=[]) (rest:=[]) (lenOf pd_15_14 rfl) rfl (Nat.le_of_eq rfl) (D 1 rfl) rfl e0 hcl hsl
 obtain ⟨rfl,N5q,e5⟩ := hQ5
 have N5 := Fr.app N0 N5q
 obtain ⟨cq6,kq6,q6a,q6b,q6c⟩ := isOf hZ e5 (E_o1)
 obtain ⟨_,T6,Lc6,X6,hQ6,st6⟩ := zU X5 hx hZ hown (zW hw 146 rfl) (zW hw 85 rfl) (zW hw 87 rfl) (zW hw 86 rfl) (by decide) (backOf (W:=0) (r16 l Z a0 hw [] o1 zc false h0 n0 Z0 SC FC1 hz) hZ (zW hw 88 rfl) (zW hw 7 rfl) (by decide) (by decide)) q6a q6c (g:=(mkF m 8 #[vr o0,vr o1,vi 0,vi i3,s4,s5,s6,s7] [.ref o1])) rfl (by rw [hml]; rfl) (argsL:=[]) (rest:=[]) (lenOf pd_15_14 rfl) rfl (Nat.le_of_eq rfl) (D 4 rfl) rfl e5 hcl hsl
 obtain ⟨rfl,N6q,e6⟩ := hQ6
 have N6 := Fr.app N5 N6q
 obtain ⟨cq7,kq7,q7a,q7b,q7c⟩ := isOf hZ e6 ((E_o1))
 obtain ⟨_,T7,Lc7,X7,hQ7,st7⟩ := zU X6 hx hZ hown (zW hw 147 rfl) (zW hw 148 rfl) (zW hw 150 rfl) (zW hw 149 rfl) (by decide) (backOf (W:=0) (r27 l Z a0 hw [] o1 ta h0 n0 Z0 FV1) hZ (zW hw 151 rfl) (zW hw 7 rfl) (by decide) (by decide)) q7a q7c (g:=(mkF m 15 #[vr o0,vr o1,vi 0,vi i3,s4,s5,s6,s7] [.ref o1])) rfl (by rw [hml]; rfl) (argsL:=[]) (rest:=[]) (lenOf pd_25_23 rfl) rfl (Nat.le_of_eq rfl) (D 72 rfl) rfl e6 hcl hsl
 obtain ⟨rfl,N7q,e7⟩ := hQ7
 have N7 := Fr.app N6 N7q
 obtain ⟨T9,X9,e9,st9⟩ := getF X7 hx hZ hown (host:="") (Or.inl (zW hw 72 rfl)) Via.refl e7 (((H.2.2.2.1))) (g:=(mkF m 20 #[vr o0,vr o1,vi 0,vi i3,s4,s5,s6,s7] [.ref o0,.int 0,.ref ta])) rfl rfl (D 75 rfl)
 obtain ⟨T11,X11,e11,st11⟩ := getF X9 hx hZ hown (host:="") (Or.inl (zW hw 128 rfl)) Via.refl e9 (((H.2.2.1))) (g:=(mkF m 24 #[vr o0,vr o1,vi 0,vi i3,s4,s5,s6,s7] [.ref o0,.ref w8,.int 0,.ref ta])) rfl rfl (D 77 rfl)
 obtain ⟨T12,h12,L12,X12,e12,N12,K12,V12,st12⟩ := cpA X11 hx hZ hown (zW hw 152 rfl) (zW hw 155 rfl) (zW hw 153 rfl) (zW hw 154 rfl) e11 VA V (Or.inl ⟨rfl,rfl⟩) (by decide) (by decide) (by rw [ed_]; exact own_nn _ (by omega)) (by rw [x0,xd,own_cl _ (by omega)]; omega) (by rw [x0,xd,own_cl _ (by decide)]; omega) rfl (by rw [x0,xd,hvd]; omega) N7 g_t0 (g:=(mkF m 30 #[vr o0,vr o1,vi 0,vi i3,s4,s5,s6,s7] [(.int (i3 - 0)),.int 0,.ref w8,.int 0,.ref ta])) rfl (by rw [hml]; rfl) (rest:=[]) rfl (D 81 rfl) (by decide) (W:=0) (Nat.le_of_eq rfl) (by decide)
 rw [x0,xd,own_rngt _ _ _ (by rw [own_by_len]; exact hE),own_by_take] at V12
 have hle : (own_by (cs.take E)).length = E := by rw [own_by_len,List.length_take]; omega
 refine ⟨T12,L12,_,X12,N12,by rw [e12]; exact K12,by rw [e12]; exact V12,?_,?_,fun target kt => ?_⟩
 · rw [List.length_append,List.length_append,hle,List.length_drop,hvd,List.take_zero]; simp; omega
 · rw [List.take_zero,List.nil_append,List.take_append_of_le_length (by omega),List.take_of_length_le (by omega)]
 refine aN X0.here hx rfl (D 0 rfl) rfl rfl (st5.trans (fN X5.here hx rfl (D 2 rfl) rfl ((if0 _ _).trans (feq (by decide:¬ ((own_nl false) = 0))).1) (aN X5.here hx rfl (D 3 rfl) rfl rfl ?_)))
 refine st6.trans (fN X6.here hx rfl (D 5 rfl) rfl ((if0 _ _).trans (feq (by decide:¬ ((own_nl false) = 0))).1) (aN X6.here hx rfl (D 71 rfl) rfl rfl (st7.trans ?_)))
 refine iN X7.here hx rfl (D 73 rfl) rfl (aN X7.here hx rfl (D 74 rfl) rfl rfl (st9 _ (aN X9.here hx rfl (D 76 rfl) rfl rfl ?_)))
 refine st11 _ (iN X11.here hx rfl (D 78 rfl) rfl (iN X11.here hx rfl (D 79 rfl) rfl (iB X11.here hx rfl (D 80 rfl) rfl ?_)))
 refine st12 _ (gT X12.here hx rfl (pc0 := 33) (pc':=194) rfl (D 82 rfl) (by decide) (by decide) ?_)
 exact kt
theorem own_fld_uniq {Z:State} {h:Heap} {a:Addr} {C n d:String} {v w:Value} (F:Fld Z h a C n d v) (G:Fld Z h a C n d w) : v = w := by
 obtain ⟨c1,f1,k1,i1,ff1,a1,a2,-,-,-,-,a7⟩ := F
 obtain ⟨c2,f2,k2,i2,ff2,b1,b2,-,-,-,-,b7⟩ := G
 cases a1.symm.trans b1
 cases a2.symm.trans b2
 exact Option.some.inj (a7.symm.trans b7)
theorem own_aloop (hx:p.tables.exec = Jvm.exec) (hZ:Z.Warmed39 s.vm) (hw:zH Z a0) (hby:c.code = jdk_68_method_75_code) (hml:c.maxLocals = 8) (hown:s.vm.findClass "java/lang/AbstractStringBuilder" = some m.cls) (o0 o1 o4:Addr) (w:Bool) (cs:List Int32) (E q:Nat) (kd:ClassId) (n0:Nat) (hC:own_C cs) (hwd:own_wd cs = w) (hl:cs.length ≤ 200) (hqE:q ≤ E) (hE:E ≤ cs.length) (hE9:E ≤ 96) (hlo:∀ j,j < q → ¬ (255:Int32) < cs.getD j 0) (hn1:o1 ≠ o4) (g4:n0 ≤ o4) (SWz:own_SW Z Z.heap) (hcl:cells ≤ own_R25.cells) (hsl:slots ≤ own_R25.slots) :
   ∀ (r i:Nat) (s7:Slot) (vd:List Value) (T0:State) (locs:List Loc),i + r = q → One s7 → Stand p l e own_R25 s m args below meth c T0 locs cells slots → Fr n0 locs → n0 ≤ T0.heap.size → Old Z n0 T0.heap → own_Str Z T0.heap o1 w cs → (∀ t,Fld Z T0.heap o1 "java/lang/String" "value" "[B" (.ref t) → t ≠ o4) → Arv Z T0.heap o4 kd .byte (I 96) vd (.int 0) → vd.length = 96 → vd.take i = own_by (cs.take i) →
     ∃ (T':State) (locs':List Loc) (s7':Slot) (vs:List Value),One s7' ∧ Stand p l e own_R25 s m args below meth c T' locs' cells slots ∧ Fr n0 locs' ∧ Keep T0.heap T'.heap [o4] ∧ Arv Z T'.heap o4 kd .byte (I 96) vs (.int 0) ∧ vs.length = 96 ∧ vs.take q = own_by (cs.take q) ∧ ∀ target,Steps p.tables e below (T'.setTop (mkF m 51 #[vr o0,vr o1,vi 0,vi (I E),vr o4,vi (I q),vi (I q),s7'] [])) target → Steps p.tables e below (T0.setTop (mkF m 51 #[vr o0,vr o1,vi 0,vi (I E),vr o4,vi (I i),vi (I i),s7] [])) target := by
 intro r
 induction r with
 | zero =>
   intro i s7 vd T0 locs hik h7 X0 N0 Z0 O TX hnt V hvd hv
   obtain rfl : i = q := by omega
   exact ⟨T0,locs,s7,vd,h7,X0,N0,Keep.refl _ _,V,hvd,hv,fun t k => k⟩
 | succ r ih =>
   intro i s7 vd T0 locs hik h7 X0 N0 Z0 O TX hnt V hvd hv
   obtain ⟨T1,L1,X1,N1,K1,V1,st1⟩ := apt (vr o0) o1 (vi 0) (I E) o4 (I i) (I i) s7 w cs i kd vd n0 X0 hx hZ hw hby hml hown rfl TX (SWz.ext O.2) hC hwd hl (by omega) (by omega) rfl rfl (hlo i (by omega)) V hvd Z0 N0 hcl hsl h7 g4 ((own_lt i E (by omega) (by omega)).mpr (by omega)) (by decide)
   rw [own_succ] at st1
   have hp := own_st1 vd (cs.take i) i (cs.getD i 0) hv (by omega)
   rw [show cs.take i ++ [cs.getD i 0] = cs.take (i + 1) by rw [List.take_succ_eq_append_getElem (show i < cs.length by omega),List.getD_eq_getElem?_getD,List.getElem?_eq_getElem (show i < cs.length by omega)]; rfl] at hp
   have TX1 : own_Str Z T1.heap o1 w cs := by
     obtain ⟨E1,FC,t,k,FV,VV⟩ := TX
     have h2 := hnt t FV
     exact ⟨E1.keep K1,FC.keep K1 (ninS hn1 nin0),t,k,FV.keep K1 (ninS hn1 nin0),VV.keep K1 (ninS h2 nin0)⟩
   obtain ⟨T2,L2,s2,vs,h2,X2,N2,K2,V2,hvs,ht,st2⟩ := ih (i + 1) (vi (cs.getD i 0)) _ T1 L1 (by omega) (One.val rfl) X1 N1 (Nat.le_trans Z0 K1.1) (O.keep K1 (allS g4 all0)) TX1 (fun t' F' => by
     obtain ⟨E1,FC,t,k,FV,VV⟩ := TX
     have e := own_fld_uniq F' (FV.keep K1 (ninS hn1 nin0))
     cases e
     exact hnt _ FV) V1 (by rw [List.length_set]; exact hvd) hp
   exact ⟨T2,L2,s2,vs,h2,X2,N2,K1.trans K2 (fun x hx => Or.inl hx),V2,hvs,ht,fun t q => st1 _ (st2 _ q)⟩
theorem own_first : ∀ cs : List Int32,own_wd cs = true → ∃ k,k < cs.length ∧ (∀ j,j < k → ¬ (255:Int32) < cs.getD j 0) ∧ (255:Int32) < cs.getD k 0
 | [],h => by cases h
 | c :: cs,h => by
   by_cases hc : (255:Int32) < c
   · exact ⟨0,Nat.zero_lt_succ _,fun j hj => absurd hj (Nat.not_lt_zero j),hc⟩
   · have h' : own_wd cs = true := by
       have : (decide ((255:Int32) < c) || own_wd cs) = true := h
       rwa [decide_eq_false hc,Bool.false_or] at this
     obtain ⟨k,h1,h2,h3⟩ := own_first cs h'
     refine ⟨k + 1,Nat.succ_lt_succ h1,fun j hj => ?_,h3⟩
     cases j with
     | zero => exact hc
     | succ j => exact h2 j (Nat.lt_of_succ_lt_succ hj)
theorem own_getD_take (cs:List Int32) (E j:Nat) (h:j < E) : (cs.take E).getD j 0 = cs.getD j 0 := by
 simp only [List.getD_eq_getElem?_getD,List.getElem?_take,h,if_true]
theorem own_wd_getD {cs:List Int32} (h:own_wd cs = false) (j:Nat) (hj:j < cs.length) : ¬ (255:Int32) < cs.getD j 0 := own_wd_f h _ (own_mem cs j hj)
theorem own_C_take {cs:List Int32} (h:own_C cs) (n:Nat) : own_C (cs.take n) := fun c hc => h c (List.mem_of_mem_take hc)
theorem own_lat_take {cs:List Int32} (h:own_C cs) (k:Nat) (hk:k ≤ cs.length) (hlo:∀ j,j < k → ¬ (255:Int32) < cs.getD j 0) : ∀ c ∈ cs.take k,¬ c < 0 ∧ ¬ (255:Int32) < c := fun c hc => by
 refine ⟨(own_C_take h k c hc).1,?_⟩
 obtain ⟨j,hj,rfl⟩ := List.getElem_of_mem hc
 have hj' : j < k := by rw [List.length_take] at hj; omega
 have := hlo j hj'
 rwa [List.getD_eq_getElem?_getD,List.getElem?_eq_getElem (by omega),Option.getD_some,← List.getElem_take (h:=hj)] at this
theorem own_wd_take {cs:List Int32} (h:own_wd cs = false) (n:Nat) : own_wd (cs.take n) = false := by
 cases e : own_wd (cs.take n) with
 | false => rfl
 | true =>
   obtain ⟨c,hc,q⟩ := own_wd_t e
   exact absurd q (own_wd_f h c (List.mem_of_mem_take hc))
theorem ef_25 (m:MethodId) (x0:Addr) (x1:Addr) (x2:Int32) (x3:Int32) : entryFrame m #[.ref x0,.ref x1,.int x2,.int x3] 8 = mkF m 0 #[.val (.ref x0),.val (.ref x1),.val (.int x2),.val (.int x3),.unset,.unset,.unset,.unset] [] := by first | (simp [entryFrame,mkF,argsToLocals,Value.category]; done) | rfl
theorem r25 (l:Launch) (Z:State) (a0:Array Value) (hw:zH Z a0) (ws:List Jvm.Cond) (a1:Addr) (a2:Addr) (t0:Addr) (w:Bool) (cs:List Int32) (E:Nat) (h0:Heap) (n0:Nat) (Z0:n0 ≤ h0.size) (SB:own_SB Z h0 a1 false [] t0) (S:own_Str Z h0 a2 w cs) (hwd:own_wd cs = w) (hC:own_C cs) (hl:cs.length ≤ 200) (hE:E ≤ cs.length) (hE9:E ≤ 96) (g_a1:n0 ≤ a1) (g_t0:n0 ≤ t0) (O:Old Z n0 h0) (SWz:own_SW Z Z.heap) (hne:∀ t,Fld Z h0 a2 "java/lang/String" "value" "[B" (.ref t) → t ≠ t0) :
   zM l Z h0 ws y_52 jdk_68_method_75_code 8 none own_R25 #[.ref a1,.ref a2,.int 0,(.int (I E))] (QN Z a1 t0 (own_wd (cs.take E)) (cs.take E) h0 n0) := by
 refine zE pn_26 rfl fun p e s m below meth c s₁ Bd hx hby hml hown hZ X0 e0 => ?_
 have N0 := Fr.nil n0
 have pre0 := zP p e below s₁ (ef_25 m a1 a2 (0:Int32) (I E))
 obtain ⟨E_a1,F_c,F_n,F_v,F_m,kd,vd,B,hvd,hcs,htk⟩ := id SB
 have H0 : own_H Z h0 a1 false 0 t0 := ⟨E_a1,F_c,F_n,F_v,F_m⟩
 have SWh := SWz.ext O.2
 obtain ⟨zc,fm,SC,hz,-⟩ := id SWh
 have E_a2 := S.1
 have hn0 : a1 ≠ t0 := Exa.neArv E_a1 B (zW hw 59 rfl)
 have hn1 : a2 ≠ t0 := Exa.neArv E_a2 B (zW hw 6 rfl)
 have hn12 : a2 ≠ a1 := Exa.ne E_a2 E_a1 (by decide)
 have B' : Arv Z h0 t0 kd .byte (I 96) vd (.int 0) := B
 have hvd' : vd.length = 96 := hvd
 cases w with
 | false =>
   obtain ⟨T1,L1,vs1,X1,N1,K1,V1,hv1,ht1,st1⟩ := apl a1 a2 (0:Int32) (I E) .unset .unset .unset .unset t0 cs E zc kd vd n0 X0 hx hZ hw hby hml hown e0 H0 S hl hE hE9 rfl rfl SC hz B' hvd' g_t0 Z0 N0 (by decide) (by decide)
   have H1 := H0.keep K1 (ninS hn0 nin0)
   obtain ⟨T2,L2,X2,N2,K2,H2,st2⟩ := apc a1 (vr a2) (0:Int32) (I E) .unset .unset .unset .unset false 0 0 E t0 n0 X1 hx hZ hw hby hml hown rfl H1 (Nat.zero_le _) rfl rfl rfl (Nat.le_trans Z0 K1.1) N1 (by decide) (by decide) g_a1
   have hw0 := own_wd_take hwd E
   obtain ⟨fs,hr,hrun,hended,hW,hsame⟩ := X2.leave (v:=none) (fun _ => rfl)
   refine ⟨_,_,pre0 _ ?_,hrun,hended,_,_,rfl,?_,⟨_,rfl⟩,hW,hsame.mono (by decide) (by decide)⟩
   · refine st1 _ (st2 _ ?_)
     exact X2.returnOut hx Bd.returns (D25 hby 84 rfl) hr
   · show QN Z a1 t0 (own_wd (cs.take E)) (cs.take E) h0 n0 _ T2.heap _
     have hlen : (cs.take E).length = E := by rw [List.length_take]; omega
     rw [hw0]
     refine ⟨rfl,N2,((Keep.refl h0 [a1,t0]).trans K1 (allS (Or.inl (List.mem_of_getElem? (i:=1) rfl)) all0)).trans K2 (allS (Or.inl (List.mem_of_getElem? (i:=0) rfl)) all0),t0,own_H.sb (k:=kd) (vs:=vs1) (by rw [hlen]; rw [Nat.zero_add,Nat.sub_zero] at H2; exact H2) (V1.keep K2 (ninS hn0.symm nin0)) hv1 (by omega) (by rw [hlen]; show vs1.take (1 * E) = own_by _; rw [Nat.one_mul]; exact ht1),Or.inl rfl⟩
 | true =>
   obtain ⟨T1,L1,X1,N1,e1,st1⟩ := ap0 a1 a2 (0:Int32) (vi (I E)) .unset .unset .unset .unset t0 zc n0 X0 hx hZ hw hby hml hown e0 H0 E_a2 SC hz S.2.1 Z0 N0 (by decide) (by decide) One.u One.u One.u (by decide) (by decide)
   by_cases hwE : own_wd (cs.take E) = true
   · obtain ⟨k,hk1,hlo,hhi⟩ := own_first _ hwE
     rw [List.length_take] at hk1
     have hkE : k < E := by omega
     have hlo' : ∀ j,j < k → ¬ (255:Int32) < cs.getD j 0 := fun j hj => by rw [← own_getD_take cs E j (by omega)]; exact hlo j hj
     rw [own_getD_take cs E k hkE] at hhi
     obtain ⟨T2,L2,s7,vs2,hs7,X2,N2,K2,V2,hv2,ht2,st2⟩ := own_aloop hx hZ hw hby hml hown a1 a2 t0 true cs E k kd n0 hC hwd hl (by omega) hE hE9 hlo' hn1 g_t0 SWz (by decide) (by decide) k 0 .unset vd T1 L1 (by omega) One.u X1 N1 (by rw [e1]; exact Z0) (by rw [e1]; exact O) (by rw [e1]; exact S) (by rw [e1]; exact hne) (by rw [e1]; exact B') hvd' rfl
     rw [e1] at K2
     have Z2 := Nat.le_trans Z0 K2.1
     have O2 := O.keep K2 (allS g_t0 all0)
     have TX2 : own_Str Z T2.heap a2 true cs := by
       obtain ⟨E1,FC,t,kx,FV,VV⟩ := S
       exact ⟨E1.keep K2,FC.keep K2 (ninS hn1 nin0),t,kx,FV.keep K2 (ninS hn1 nin0),VV.keep K2 (ninS (hne t FV) nin0)⟩
     obtain ⟨T3,L3,X3,N3,K3,H3,st3⟩ := apw1 a1 a2 (vi 0) (I E) (vr t0) (I k) (I k) s7 true cs k t0 n0 X2 hx hZ hw hby hml hown rfl TX2 (SWz.ext O2.2) hC hwd hl (by omega) rfl hhi rfl (H0.keep K2 (ninS hn0 nin0)) Z2 N2 (by decide) (by decide) hs7 g_a1 ((own_lt k E (by omega) (by omega)).mpr hkE) (by decide)
     have Z3 := Nat.le_trans Z2 K3.1
     have O3 := O2.keep K3 (allS g_a1 all0)
     have TX3 : own_Str Z T3.heap a2 true cs := TX2.keep1 K3 (E_a1.keep K2) (by decide) (zW hw 59 rfl)
     have hkl : (cs.take k).length = k := by rw [List.length_take]; omega
     have SB3 : own_SB Z T3.heap a1 false (cs.take k) t0 := own_H.sb (k:=kd) (vs:=vs2) (by rw [hkl]; exact H3) (V2.keep K3 (ninS hn0.symm nin0)) hv2 (by omega) (by rw [hkl]; show vs2.take (1 * k) = own_by _; rw [Nat.one_mul]; exact ht2)
     obtain ⟨T4,L4,t4,k4,vs4,X4,N4,K4,g4,H4,V4,hv4,ht4,st4⟩ := apw2 a1 a2 (vi 0) (I E) (vr t0) (I k) (I k) (vi (cs.getD k 0)) cs k E t0 n0 X3 hx hZ hw hby hml hown rfl SB3 (own_lat_take hC k (by omega) hlo') TX3 hl (by omega) hE hE9 rfl rfl rfl g_a1 O3 SWz rfl rfl Z3 N3 (by decide) (by decide)
     have Z4 := Nat.le_trans Z3 K4.1
     obtain ⟨T5,L5,X5,N5,K5,H5,st5⟩ := apw3 a1 (vr a2) (vi 0) (I E) (vr t0) (I k) (vi (I k)) (vi (cs.getD k 0)) true k k E t4 n0 X4 hx hZ hw hby hml hown rfl H4 (by omega) rfl rfl rfl Z4 N4 (by decide) (by decide) g_a1
     have hn4 : t4 ≠ a1 := Nat.ne_of_gt (Nat.lt_of_lt_of_le H3.1.lt g4)
     obtain ⟨fs,hr,hrun,hended,hW,hsame⟩ := X5.leave (v:=none) (fun _ => rfl)
     refine ⟨_,_,pre0 _ ?_,hrun,hended,_,_,rfl,?_,⟨_,rfl⟩,hW,hsame.mono (by decide) (by decide)⟩
     · refine st1 _ (st2 _ (st3 _ (st4 _ ?_)))
       refine st5 _ ?_
       exact X5.returnOut hx Bd.returns (D25 hby 83 rfl) hr
     · show QN Z a1 t0 (own_wd (cs.take E)) (cs.take E) h0 n0 _ T5.heap _
       have hlen : (cs.take E).length = E := by rw [List.length_take]; omega
       have m0 : ∀ x ∈ [a1],x ∈ [a1,t0] ∨ h0.size ≤ x := allS (Or.inl (List.mem_of_getElem? (i:=0) rfl)) all0
       rw [hwE]
       refine ⟨rfl,N5,(((((Keep.refl h0 [a1,t0]).trans K2 (allS (Or.inl (List.mem_of_getElem? (i:=1) rfl)) all0)).trans K3 m0).trans K4 m0).trans K5 m0),t4,own_H.sb (k:=k4) (vs:=vs4) (by rw [hlen]; rw [show k + (E - k) = E by omega] at H5; exact H5) (V4.keep K5 (ninS hn4 nin0)) hv4 (by omega) (by rw [hlen]; exact ht4),Or.inr (Nat.le_trans (Nat.le_trans K2.1 K3.1) g4)⟩
   · replace hwE : own_wd (cs.take E) = false := Bool.eq_false_iff.mpr hwE
     have hlo' : ∀ j,j < E → ¬ (255:Int32) < cs.getD j 0 := fun j hj => by rw [← own_getD_take cs E j hj]; exact own_wd_getD hwE j (by rw [List.length_take]; omega)
     obtain ⟨T2,L2,s7,vs2,hs7,X2,N2,K2,V2,hv2,ht2,st2⟩ := own_aloop hx hZ hw hby hml hown a1 a2 t0 true cs E E kd n0 hC hwd hl (by omega) hE hE9 hlo' hn1 g_t0 SWz (by decide) (by decide) E 0 .unset vd T1 L1 (by omega) One.u X1 N1 (by rw [e1]; exact Z0) (by rw [e1]; exact O) (by rw [e1]; exact S) (by rw [e1]; exact hne) (by rw [e1]; exact B') hvd' rfl
     rw [e1] at K2
     obtain ⟨T3,X3,e3,st3⟩ := apx (vr a1) (vr a2) (vi 0) (I E) (vr t0) (I E) (vi (I E)) s7 X2 hx hZ hw hby hml hown rfl Int32.lt_irrefl
     obtain ⟨T4,L4,X4,N4,K4,H4,st4⟩ := apc a1 (vr a2) (0:Int32) (I E) (vr t0) (vi (I E)) (vi (I E)) s7 false 0 0 E t0 n0 X3 hx hZ hw hby hml hown e3 (H0.keep K2 (ninS hn0 nin0)) (Nat.zero_le _) rfl rfl rfl (Nat.le_trans Z0 K2.1) N2 (by decide) (by decide) g_a1
     obtain ⟨fs,hr,hrun,hended,hW,hsame⟩ := X4.leave (v:=none) (fun _ => rfl)
     refine ⟨_,_,pre0 _ ?_,hrun,hended,_,_,rfl,?_,⟨_,rfl⟩,hW,hsame.mono (by decide) (by decide)⟩
     · refine st1 _ (st2 _ (st3 _ (st4 _ ?_)))
       exact X4.returnOut hx Bd.returns (D25 hby 84 rfl) hr
     · show QN Z a1 t0 (own_wd (cs.take E)) (cs.take E) h0 n0 _ T4.heap _
       have hlen : (cs.take E).length = E := by rw [List.length_take]; omega
       rw [hwE]
       refine ⟨rfl,N4,((Keep.refl h0 [a1,t0]).trans K2 (allS (Or.inl (List.mem_of_getElem? (i:=1) rfl)) all0)).trans K4 (allS (Or.inl (List.mem_of_getElem? (i:=0) rfl)) all0),t0,own_H.sb (k:=kd) (vs:=vs2) (by rw [hlen]; rw [Nat.zero_add,Nat.sub_zero] at H4; exact H4) (V2.keep K4 (ninS hn0.symm nin0)) hv2 (by omega) (by rw [hlen]; show vs2.take (1 * E) = own_by _; rw [Nat.one_mul]; exact ht2),Or.inl rfl⟩
def l22 : zl := [(0,.aload_n 1,1),(1,.ifnonnull 6,3),(7,.iload_n 2,1),(8,.iload_n 3,1),(9,.aload_n 1,1),(10,.invokeinterface 47 1,5),(15,.getstatic 183,3),(18,.invokestatic 161,3),(21,.pop,1),(22,.iload_n 3,1),(23,.iload_n 2,1),(24,.isub,1),(25,.istore 4,2),(27,.aload_n 0,1),(28,.aload_n 0,1),(29,.getfield 79,3),(32,.iload 4,2),(34,.iadd,1),(35,.invokevirtual 100,3),(38,.aload_n 1,1),(39,.instanceof 1,3),(42,.ifCond .eq 16,3),(45,.aload_n 0,1),(46,.aload_n 1,1),(47,.checkcast 1,3),(50,.iload_n 2,1),(51,.iload_n 3,1),(52,.invokevirtual 232,3),(55,.goto 10,3),(65,.aload_n 0,1),(66,.areturn,1)]
theorem D22 : zq jdk_68_method_27_code l22 := zd (by decide +kernel)
theorem pd_22_22 : parseMethodDescriptor "(Ljava/lang/String;II)V" = some ⟨[(.object "java/lang/String"),.int,.int],none⟩ := by decide +kernel
theorem ef_22 (m:MethodId) (x0:Addr) (x1:Addr) (x2:Int32) (x3:Int32) : entryFrame m #[.ref x0,.ref x1,.int x2,.int x3] 5 = mkF m 0 #[.val (.ref x0),.val (.ref x1),.val (.int x2),.val (.int x3),.unset] [] := by first | (simp [entryFrame,mkF,argsToLocals,Value.category]; done) | rfl
def own_IF (Z:State) : Prop := ∃ fm : Value,Sta Z Z.heap "jdk/internal/util/Preconditions" "IOOBE_FORMATTER" "Ljava/util/function/BiFunction;" fm ∧ fm.isRef = true
theorem r22r (l:Launch) (Z:State) (a0:Array Value) (hw:zH Z a0) (ws:List Jvm.Cond) (a1:Addr) (w6:Addr) (a2:Addr) (t0:Addr) (w:Bool) (cs:List Int32) (E:Nat) (h0:Heap) (n0:Nat) (Z0:n0 ≤ h0.size) (SB:own_SB Z h0 a1 false [] t0) (S:own_Str Z h0 a2 w cs) (hwd:own_wd cs = w) (hC:own_C cs) (hl:cs.length ≤ 200) (hE:E ≤ cs.length) (hE9:E ≤ 96) (g_a1:n0 ≤ a1) (g_t0:n0 ≤ t0) (O:Old Z n0 h0) (SWz:own_SW Z Z.heap) (hne:∀ t,Fld Z h0 a2 "java/lang/String" "value" "[B" (.ref t) → t ≠ t0) (S_I:Sta Z h0 "jdk/internal/util/Preconditions" "IOOBE_FORMATTER" "Ljava/util/function/BiFunction;" (.ref w6)) :
   zM l Z h0 ws y_19 jdk_68_method_27_code 5 (some (.object "java/lang/AbstractStringBuilder")) (zr 7 1 400 108) #[.ref a1,.ref a2,.int 0,(.int (I E))] (QA Z a1 t0 (own_wd (cs.take E)) (cs.take E) h0 n0) := by
 refine zE pn_26 rfl fun p e s m below meth c s₁ Bd hx hby hml hown hZ X0 e0 => ?_
 obtain ⟨E_a1,F_coder_a1,F_count_a1,F_value_a1,F_m,kd,vd,B,hvd,hcs_,htk⟩ := id SB
 have SWh := SWz.ext O.2
 obtain ⟨zc,fm,SC,hz,S_F,rf,SA,SH,SL⟩ := id SWh
 have E_a2 := S.1
 have eE : ((I E) - 0) = I E := Int32.sub_zero _
 have eq0 : (0:Int32) + ((I E) - 0) = I E := by rw [eE]; exact Int32.zero_add _
 have D := D22 Bd.bytes
 have N0 := Fr.nil n0
 obtain ⟨cq5,kq5,q5a,q5b,q5c⟩ := isOf hZ e0 E_a2
 obtain ⟨_,_,⟨T5,L5,k5,n5⟩,-,X5,⟨Lc5,hQ5,l5,y5,z5⟩,st5⟩ := X0.interfaceBack hx (xi:=(⟨"java/lang/CharSequence", "length", "()I"⟩ : MethodName)) (y:=y_9) hown (zT hZ hw 116 rfl) (zT hZ hw 117 rfl) (zT hZ hw 118 rfl) (zT hZ hw 119 rfl) (zT hZ hw 32 rfl) (zT hZ hw 120 rfl) (zT hZ hw 121 rfl) (zT hZ hw 122 rfl) (by decide) (own_slen (W:=2) hZ hw S SWh hC hwd hl n0 (by decide) (by decide)) q5a q5b q5c (g:=(mkF m 10 #[vr a1,vr a2,vi 0,vi (I E),.unset] [.ref a2,(.int (I E)),.int 0])) rfl (by rw [hml]; rfl) (Steps.refl _) (argsL:=[]) (rest:=[(.int (I E)),.int 0]) (lenOf pd_45_5 rfl) rfl (Nat.le_of_eq rfl) (D 5 rfl) (fun _ _ => ⟨rfl,e0,(by decide:0 + 0 ≤ _),(by decide:0 + 0 ≤ _)⟩)
 dsimp only [Pt.U,Pt.locs,Pt.cells,Pt.slots] at X5 l5 y5 z5 st5 hQ5
 subst l5 y5 z5
 obtain ⟨rfl,N5q,e5⟩ := hQ5
 have N5 := Fr.app N0 N5q
 obtain ⟨T7,X7,e7,st7⟩ := getS2 X5 hx hZ hown (host:="") (Or.inl (zW hw 123 rfl)) Via.refl e5 S_I (g:=(mkF m 15 #[vr a1,vr a2,vi 0,vi (I E),.unset] [(.int (I cs.length)),(.int (I E)),.int 0])) rfl (D 6 rfl)
 obtain ⟨_,T8,Lc8,X8,hQ8,st8⟩ := zS X7 hx hZ hown (zW hw 125 rfl) (zW hw 126 rfl) (zW hw 97 rfl) (zW hw 127 rfl) (by decide) (r23 l Z a0 hw [] (0:Int32) (I E) (I cs.length) w6 h0 n0 Z0 (by decide) (own_nn E (by omega)) (fun q => by have := (own_lt _ _ (by omega) (by omega)).mp q; omega)) (by decide) (by decide) (W:=0) (g:=(mkF m 18 #[vr a1,vr a2,vi 0,vi (I E),.unset] [.ref w6,(.int (I cs.length)),(.int (I E)),.int 0])) rfl (by rw [hml]; rfl) (argsL:=[.int 0,(.int (I E)),(.int (I cs.length)),.ref w6]) (rest:=[]) (lenOf pd_66_21 rfl) rfl (Nat.le_of_eq rfl) (D 7 rfl) rfl e7 (by decide:0 + 0 ≤ _) (by decide:0 + 0 ≤ _)
 obtain ⟨rfl,N8q,e8⟩ := hQ8
 have N8 := Fr.app N5 N8q
 obtain ⟨T10,X10,e10,st10⟩ := getF X8 hx hZ hown (host:="") (Or.inl (zW hw 128 rfl)) Via.refl e8 ((F_count_a1)) (g:=(mkF m 29 #[vr a1,vr a2,vi 0,vi (I E),vi ((I E) - 0)] [.ref a1,.ref a1])) rfl rfl (D 15 rfl)
 obtain ⟨cq11,q11,q11'⟩ := ((E_a1)).cell
 obtain ⟨_,_,⟨T11,L11,k11,n11⟩,-,X11,⟨Lc11,hQ11,l11,y11,z11⟩,st11⟩ := X10.privateBack hx (y:=y_14) hown (zT hZ hw 130 rfl) (zT hZ hw 131 rfl) (mvT hZ (own_selP (zW hw 133 rfl) (zW hw 132 rfl) (zW hw 131 rfl) (by decide))) (Cond.privateMethod_at (mvP hZ (zW hw 132 rfl) (args:=#[]))) (zT hZ hw 134 rfl) (by decide) (backOf (W:=0) (r24 l Z a0 hw [] a1 ((0:Int32) + ((I E) - 0)) t0 false [] E h0 n0 Z0 eq0 SB hE9) hZ (zW hw 134 rfl) (zW hw 68 rfl) (by decide) (by decide)) (g:=(mkF m 35 #[vr a1,vr a2,vi 0,vi (I E),vi ((I E) - 0)] [(.int ((0:Int32) + ((I E) - 0))),.ref a1])) rfl (by rw [hml]; rfl) (Steps.refl _) (a:=a1) (by rw [e10]; exact q11) q11' (argsL:=[(.int ((0:Int32) + ((I E) - 0)))]) (rest:=[]) (lenOf pd_12_11 rfl) rfl (Nat.le_of_eq rfl) (D 18 rfl) (fun _ _ => ⟨rfl,e10,(by decide:0 + 0 ≤ _),(by decide:0 + 0 ≤ _)⟩)
 dsimp only [Pt.U,Pt.locs,Pt.cells,Pt.slots] at X11 l11 y11 z11 st11 hQ11
 subst l11 y11 z11
 obtain ⟨rfl,N11q,e11⟩ := hQ11
 have N11 := Fr.app N8 N11q
 obtain ⟨T12,X12,e12,st12⟩ := instY X11 hx hZ hown (zW hw 135 rfl) e11 (Ins.self (((E_a2)))) (g:=(mkF m 39 #[vr a1,vr a2,vi 0,vi (I E),vi ((I E) - 0)] [.ref a2])) rfl rfl (D 20 rfl)
 obtain ⟨T13,X13,e13,st13⟩ := castY X12 hx hZ hown (zW hw 135 rfl) e12 (Ins.self (((E_a2)))) (g:=(mkF m 47 #[vr a1,vr a2,vi 0,vi (I E),vi ((I E) - 0)] [.ref a2,.ref a1])) rfl rfl (D 24 rfl)
 obtain ⟨cq14,q14,q14'⟩ := (((E_a1))).cell
 obtain ⟨_,_,⟨T14,L14,k14,n14⟩,-,X14,⟨Lc14,hQ14,l14,y14,z14⟩,st14⟩ := X13.privateBack hx (y:=y_52) hown (zT hZ hw 136 rfl) (zT hZ hw 137 rfl) (mvT hZ (own_selP (zW hw 139 rfl) (zW hw 138 rfl) (zW hw 137 rfl) (by decide))) (Cond.privateMethod_at (mvP hZ (zW hw 138 rfl) (args:=#[]))) (zT hZ hw 140 rfl) (by decide) (backOf (W:=0) (r25 l Z a0 hw [] a1 a2 t0 w cs E h0 n0 Z0 SB S hwd hC hl hE hE9 g_a1 g_t0 O SWz hne) hZ (zW hw 140 rfl) (zW hw 68 rfl) (by decide) (by decide)) (g:=(mkF m 52 #[vr a1,vr a2,vi 0,vi (I E),vi ((I E) - 0)] [(.int (I E)),.int 0,.ref a2,.ref a1])) rfl (by rw [hml]; rfl) (Steps.refl _) (a:=a1) (by rw [e13]; exact q14) q14' (argsL:=[.ref a2,.int 0,(.int (I E))]) (rest:=[]) (lenOf pd_22_22 rfl) rfl (Nat.le_of_eq rfl) (D 27 rfl) (fun _ _ => ⟨rfl,e13,(by decide:0 + 1 ≤ _),(by decide:0 + 400 ≤ _)⟩)
 dsimp only [Pt.U,Pt.locs,Pt.cells,Pt.slots] at X14 l14 y14 z14 st14 hQ14
 subst l14 y14 z14
 obtain ⟨rfl,N14q,Qq⟩ := hQ14
 have N14 := Fr.app N11 N14q
 refine zL Bd X14 (ef_22 m a1 a2 (0:Int32) (I E)) (some (.ref a1)) nofun (by decide) (by decide) (fun fs hr => ?_) ?_
 · refine aN X0.here hx rfl (D 0 rfl) rfl rfl (XS.ifnonnullYes X0.here hx rfl (pc0 := 1) (pc':=7) rfl (D 1 rfl) rfl (by decide) (by decide) (iN X0.here hx rfl (D 2 rfl) rfl (iN X0.here hx rfl (D 3 rfl) rfl ?_)))
   refine aN X0.here hx rfl (D 4 rfl) rfl rfl (st5.trans (st7 _ (st8 _ ?_)))
   refine XS.pop X8.here hx rfl (D 8 rfl) rfl rfl (iN X8.here hx rfl (D 9 rfl) rfl (iN X8.here hx rfl (D 10 rfl) rfl (iB X8.here hx rfl (D 11 rfl) rfl ?_)))
   refine iS X8.here hx rfl (D 12 rfl) rfl (l':=#[vr a1,vr a2,vi 0,vi (I E),vi ((I E) - 0)]) rfl (aN X8.here hx rfl (D 13 rfl) rfl rfl (aN X8.here hx rfl (D 14 rfl) rfl rfl (st10 _ ?_)))
   refine iL X10.here hx rfl (D 16 rfl) rfl (iA X10.here hx rfl (D 17 rfl) rfl (st11.trans (aN X11.here hx rfl (D 19 rfl) rfl rfl ?_)))
   refine st12 _ (fN X12.here hx rfl (D 21 rfl) rfl ((if0 _ _).trans (feq (by decide:¬ ((1:Int32) = 0))).1) (aN X12.here hx rfl (D 22 rfl) rfl rfl (aN X12.here hx rfl (D 23 rfl) rfl rfl ?_)))
   refine st13 _ (iN X13.here hx rfl (D 25 rfl) rfl (iN X13.here hx rfl (D 26 rfl) rfl (st14.trans ?_)))
   refine gT X14.here hx rfl (pc0 := 55) (pc':=65) rfl (D 28 rfl) (by decide) (by decide) (aN X14.here hx rfl (D 29 rfl) rfl rfl ?_)
   jvm_step X14.here [X14.here.top,hx,(D 30 rfl),X14.method',Bd.returns,Value.isRef,FieldType.isReference]
   first | (intro acts; rw [hr _ acts rfl rfl rfl]) | rw [hr _ _ rfl rfl rfl]
   exact Steps.refl _
 · show QA Z a1 t0 (own_wd (cs.take E)) (cs.take E) h0 n0 _ T14.heap _
   exact ⟨rfl,N14,Qq⟩
theorem r22n (l:Launch) (Z:State) (a0:Array Value) (hw:zH Z a0) (ws:List Jvm.Cond) (a1:Addr) (a2:Addr) (t0:Addr) (w:Bool) (cs:List Int32) (E:Nat) (h0:Heap) (n0:Nat) (Z0:n0 ≤ h0.size) (SB:own_SB Z h0 a1 false [] t0) (S:own_Str Z h0 a2 w cs) (hwd:own_wd cs = w) (hC:own_C cs) (hl:cs.length ≤ 200) (hE:E ≤ cs.length) (hE9:E ≤ 96) (g_a1:n0 ≤ a1) (g_t0:n0 ≤ t0) (O:Old Z n0 h0) (SWz:own_SW Z Z.heap) (hne:∀ t,Fld Z h0 a2 "java/lang/String" "value" "[B" (.ref t) → t ≠ t0) (S_I:Sta Z h0 "jdk/internal/util/Preconditions" "IOOBE_FORMATTER" "Ljava/util/function/BiFunction;" .null) :
   zM l Z h0 ws y_19 jdk_68_method_27_code 5 (some (.object "java/lang/AbstractStringBuilder")) (zr 7 1 400 108) #[.ref a1,.ref a2,.int 0,(.int (I E))] (QA Z a1 t0 (own_wd (cs.take E)) (cs.take E) h0 n0) := by
 refine zE pn_26 rfl fun p e s m below meth c s₁ Bd hx hby hml hown hZ X0 e0 => ?_
 obtain ⟨E_a1,F_coder_a1,F_count_a1,F_value_a1,F_m,kd,vd,B,hvd,hcs_,htk⟩ := id SB
 have SWh := SWz.ext O.2
 obtain ⟨zc,fm,SC,hz,S_F,rf,SA,SH,SL⟩ := id SWh
 have E_a2 := S.1
 have eE : ((I E) - 0) = I E := Int32.sub_zero _
 have eq0 : (0:Int32) + ((I E) - 0) = I E := by rw [eE]; exact Int32.zero_add _
 have D := D22 Bd.bytes
 have N0 := Fr.nil n0
 obtain ⟨cq5,kq5,q5a,q5b,q5c⟩ := isOf hZ e0 E_a2
 obtain ⟨_,_,⟨T5,L5,k5,n5⟩,-,X5,⟨Lc5,hQ5,l5,y5,z5⟩,st5⟩ := X0.interfaceBack hx (xi:=(⟨"java/lang/CharSequence", "length", "()I"⟩ : MethodName)) (y:=y_9) hown (zT hZ hw 116 rfl) (zT hZ hw 117 rfl) (zT hZ hw 118 rfl) (zT hZ hw 119 rfl) (zT hZ hw 32 rfl) (zT hZ hw 120 rfl) (zT hZ hw 121 rfl) (zT hZ hw 122 rfl) (by decide) (own_slen (W:=2) hZ hw S SWh hC hwd hl n0 (by decide) (by decide)) q5a q5b q5c (g:=(mkF m 10 #[vr a1,vr a2,vi 0,vi (I E),.unset] [.ref a2,(.int (I E)),.int 0])) rfl (by rw [hml]; rfl) (Steps.refl _) (argsL:=[]) (rest:=[(.int (I E)),.int 0]) (lenOf pd_45_5 rfl) rfl (Nat.le_of_eq rfl) (D 5 rfl) (fun _ _ => ⟨rfl,e0,(by decide:0 + 0 ≤ _),(by decide:0 + 0 ≤ _)⟩)
 dsimp only [Pt.U,Pt.locs,Pt.cells,Pt.slots] at X5 l5 y5 z5 st5 hQ5
 subst l5 y5 z5
 obtain ⟨rfl,N5q,e5⟩ := hQ5
 have N5 := Fr.app N0 N5q
 obtain ⟨T7,X7,e7,st7⟩ := getS2 X5 hx hZ hown (host:="") (Or.inl (zW hw 123 rfl)) Via.refl e5 S_I (g:=(mkF m 15 #[vr a1,vr a2,vi 0,vi (I E),.unset] [(.int (I cs.length)),(.int (I E)),.int 0])) rfl (D 6 rfl)
 obtain ⟨_,T8,Lc8,X8,hQ8,st8⟩ := zS X7 hx hZ hown (zW hw 125 rfl) (zW hw 126 rfl) (zW hw 97 rfl) (zW hw 127 rfl) (by decide) (r23n l Z a0 hw [] (0:Int32) (I E) (I cs.length) h0 n0 Z0 (by decide) (own_nn E (by omega)) (fun q => by have := (own_lt _ _ (by omega) (by omega)).mp q; omega)) (by decide) (by decide) (W:=0) (g:=(mkF m 18 #[vr a1,vr a2,vi 0,vi (I E),.unset] [.null,(.int (I cs.length)),(.int (I E)),.int 0])) rfl (by rw [hml]; rfl) (argsL:=[.int 0,(.int (I E)),(.int (I cs.length)),.null]) (rest:=[]) (lenOf pd_66_21 rfl) rfl (Nat.le_of_eq rfl) (D 7 rfl) rfl e7 (by decide:0 + 0 ≤ _) (by decide:0 + 0 ≤ _)
 obtain ⟨rfl,N8q,e8⟩ := hQ8
 have N8 := Fr.app N5 N8q
 obtain ⟨T10,X10,e10,st10⟩ := getF X8 hx hZ hown (host:="") (Or.inl (zW hw 128 rfl)) Via.refl e8 ((F_count_a1)) (g:=(mkF m 29 #[vr a1,vr a2,vi 0,vi (I E),vi ((I E) - 0)] [.ref a1,.ref a1])) rfl rfl (D 15 rfl)
 obtain ⟨cq11,q11,q11'⟩ := ((E_a1)).cell
 obtain ⟨_,_,⟨T11,L11,k11,n11⟩,-,X11,⟨Lc11,hQ11,l11,y11,z11⟩,st11⟩ := X10.privateBack hx (y:=y_14) hown (zT hZ hw 130 rfl) (zT hZ hw 131 rfl) (mvT hZ (own_selP (zW hw 133 rfl) (zW hw 132 rfl) (zW hw 131 rfl) (by decide))) (Cond.privateMethod_at (mvP hZ (zW hw 132 rfl) (args:=#[]))) (zT hZ hw 134 rfl) (by decide) (backOf (W:=0) (r24 l Z a0 hw [] a1 ((0:Int32) + ((I E) - 0)) t0 false [] E h0 n0 Z0 eq0 SB hE9) hZ (zW hw 134 rfl) (zW hw 68 rfl) (by decide) (by decide)) (g:=(mkF m 35 #[vr a1,vr a2,vi 0,vi (I E),vi ((I E) - 0)] [(.int ((0:Int32) + ((I E) - 0))),.ref a1])) rfl (by rw [hml]; rfl) (Steps.refl _) (a:=a1) (by rw [e10]; exact q11) q11' (argsL:=[(.int ((0:Int32) + ((I E) - 0)))]) (rest:=[]) (lenOf pd_12_11 rfl) rfl (Nat.le_of_eq rfl) (D 18 rfl) (fun _ _ => ⟨rfl,e10,(by decide:0 + 0 ≤ _),(by decide:0 + 0 ≤ _)⟩)
 dsimp only [Pt.U,Pt.locs,Pt.cells,Pt.slots] at X11 l11 y11 z11 st11 hQ11
 subst l11 y11 z11
 obtain ⟨rfl,N11q,e11⟩ := hQ11
 have N11 := Fr.app N8 N11q
 obtain ⟨T12,X12,e12,st12⟩ := instY X11 hx hZ hown (zW hw 135 rfl) e11 (Ins.self (((E_a2)))) (g:=(mkF m 39 #[vr a1,vr a2,vi 0,vi (I E),vi ((I E) - 0)] [.ref a2])) rfl rfl (D 20 rfl)
 obtain ⟨T13,X13,e13,st13⟩ := castY X12 hx hZ hown (zW hw 135 rfl) e12 (Ins.self (((E_a2)))) (g:=(mkF m 47 #[vr a1,vr a2,vi 0,vi (I E),vi ((I E) - 0)] [.ref a2,.ref a1])) rfl rfl (D 24 rfl)
 obtain ⟨cq14,q14,q14'⟩ := (((E_a1))).cell
 obtain ⟨_,_,⟨T14,L14,k14,n14⟩,-,X14,⟨Lc14,hQ14,l14,y14,z14⟩,st14⟩ := X13.privateBack hx (y:=y_52) hown (zT hZ hw 136 rfl) (zT hZ hw 137 rfl) (mvT hZ (own_selP (zW hw 139 rfl) (zW hw 138 rfl) (zW hw 137 rfl) (by decide))) (Cond.privateMethod_at (mvP hZ (zW hw 138 rfl) (args:=#[]))) (zT hZ hw 140 rfl) (by decide) (backOf (W:=0) (r25 l Z a0 hw [] a1 a2 t0 w cs E h0 n0 Z0 SB S hwd hC hl hE hE9 g_a1 g_t0 O SWz hne) hZ (zW hw 140 rfl) (zW hw 68 rfl) (by decide) (by decide)) (g:=(mkF m 52 #[vr a1,vr a2,vi 0,vi (I E),vi ((I E) - 0)] [(.int (I E)),.int 0,.ref a2,.ref a1])) rfl (by rw [hml]; rfl) (Steps.refl _) (a:=a1) (by rw [e13]; exact q14) q14' (argsL:=[.ref a2,.int 0,(.int (I E))]) (rest:=[]) (lenOf pd_22_22 rfl) rfl (Nat.le_of_eq rfl) (D 27 rfl) (fun _ _ => ⟨rfl,e13,(by decide:0 + 1 ≤ _),(by decide:0 + 400 ≤ _)⟩)
 dsimp only [Pt.U,Pt.locs,Pt.cells,Pt.slots] at X14 l14 y14 z14 st14 hQ14
 subst l14 y14 z14
 obtain ⟨rfl,N14q,Qq⟩ := hQ14
 have N14 := Fr.app N11 N14q
 refine zL Bd X14 (ef_22 m a1 a2 (0:Int32) (I E)) (some (.ref a1)) nofun (by decide) (by decide) (fun fs hr => ?_) ?_
 · refine aN X0.here hx rfl (D 0 rfl) rfl rfl (XS.ifnonnullYes X0.here hx rfl (pc0 := 1) (pc':=7) rfl (D 1 rfl) rfl (by decide) (by decide) (iN X0.here hx rfl (D 2 rfl) rfl (iN X0.here hx rfl (D 3 rfl) rfl ?_)))
   refine aN X0.here hx rfl (D 4 rfl) rfl rfl (st5.trans (st7 _ (st8 _ ?_)))
   refine XS.pop X8.here hx rfl (D 8 rfl) rfl rfl (iN X8.here hx rfl (D 9 rfl) rfl (iN X8.here hx rfl (D 10 rfl) rfl (iB X8.here hx rfl (D 11 rfl) rfl ?_)))
   refine iS X8.here hx rfl (D 12 rfl) rfl (l':=#[vr a1,vr a2,vi 0,vi (I E),vi ((I E) - 0)]) rfl (aN X8.here hx rfl (D 13 rfl) rfl rfl (aN X8.here hx rfl (D 14 rfl) rfl rfl (st10 _ ?_)))
   refine iL X10.here hx rfl (D 16 rfl) rfl (iA X10.here hx rfl (D 17 rfl) rfl (st11.trans (aN X11.here hx rfl (D 19 rfl) rfl rfl ?_)))
   refine st12 _ (fN X12.here hx rfl (D 21 rfl) rfl ((if0 _ _).trans (feq (by decide:¬ ((1:Int32) = 0))).1) (aN X12.here hx rfl (D 22 rfl) rfl rfl (aN X12.here hx rfl (D 23 rfl) rfl rfl ?_)))
   refine st13 _ (iN X13.here hx rfl (D 25 rfl) rfl (iN X13.here hx rfl (D 26 rfl) rfl (st14.trans ?_)))
   refine gT X14.here hx rfl (pc0 := 55) (pc':=65) rfl (D 28 rfl) (by decide) (by decide) (aN X14.here hx rfl (D 29 rfl) rfl rfl ?_)
   jvm_step X14.here [X14.here.top,hx,(D 30 rfl),X14.method',Bd.returns,Value.isRef,FieldType.isReference]
   first | (intro acts; rw [hr _ acts rfl rfl rfl]) | rw [hr _ _ rfl rfl rfl]
   exact Steps.refl _
 · show QA Z a1 t0 (own_wd (cs.take E)) (cs.take E) h0 n0 _ T14.heap _
   exact ⟨rfl,N14,Qq⟩
theorem r22 (l:Launch) (Z:State) (a0:Array Value) (hw:zH Z a0) (ws:List Jvm.Cond) (a1:Addr) (a2:Addr) (t0:Addr) (w:Bool) (cs:List Int32) (E:Nat) (h0:Heap) (n0:Nat) (Z0:n0 ≤ h0.size) (SB:own_SB Z h0 a1 false [] t0) (S:own_Str Z h0 a2 w cs) (hwd:own_wd cs = w) (hC:own_C cs) (hl:cs.length ≤ 200) (hE:E ≤ cs.length) (hE9:E ≤ 96) (g_a1:n0 ≤ a1) (g_t0:n0 ≤ t0) (O:Old Z n0 h0) (SWz:own_SW Z Z.heap) (hne:∀ t,Fld Z h0 a2 "java/lang/String" "value" "[B" (.ref t) → t ≠ t0) (IF:own_IF Z) :
   zM l Z h0 ws y_19 jdk_68_method_27_code 5 (some (.object "java/lang/AbstractStringBuilder")) (zr 7 1 400 108) #[.ref a1,.ref a2,.int 0,(.int (I E))] (QA Z a1 t0 (own_wd (cs.take E)) (cs.take E) h0 n0) := by
 obtain ⟨fm,S_I0,rf⟩ := IF
 have S_I := S_I0.ext O.2
 cases fm with
 | null => exact r22n l Z a0 hw ws a1 a2 t0 w cs E h0 n0 Z0 SB S hwd hC hl hE hE9 g_a1 g_t0 O SWz hne S_I
 | ref w6 => exact r22r l Z a0 hw ws a1 w6 a2 t0 w cs E h0 n0 Z0 SB S hwd hC hl hE hE9 g_a1 g_t0 O SWz hne S_I
 | _ => cases rf
def l21 : zl := [(0,.aload_n 0,1),(1,.aload_n 1,1),(2,.iload_n 2,1),(3,.iload_n 3,1),(4,.invokespecial 38,3),(7,.pop,1),(8,.aload_n 0,1),(9,.areturn,1)]
theorem D21 : zq jdk_67_method_10_code l21 := zd (by decide +kernel)
theorem pd_21_20 : parseMethodDescriptor "(Ljava/lang/CharSequence;II)Ljava/lang/AbstractStringBuilder;" = some ⟨[(.object "java/lang/CharSequence"),.int,.int],some (.object "java/lang/AbstractStringBuilder")⟩ := by decide +kernel
theorem r21 (l:Launch) (Z:State) (a0:Array Value) (hw:zH Z a0) (ws:List Jvm.Cond) (a1:Addr) (a2:Addr) (t0:Addr) (w:Bool) (cs:List Int32) (E:Nat) (h0:Heap) (n0:Nat) (Z0:n0 ≤ h0.size) (SB:own_SB Z h0 a1 false [] t0) (S:own_Str Z h0 a2 w cs) (hwd:own_wd cs = w) (hC:own_C cs) (hl:cs.length ≤ 200) (hE:E ≤ cs.length) (hE9:E ≤ 96) (g_a1:n0 ≤ a1) (g_t0:n0 ≤ t0) (O:Old Z n0 h0) (SWz:own_SW Z Z.heap) (hne:∀ t,Fld Z h0 a2 "java/lang/String" "value" "[B" (.ref t) → t ≠ t0) (IF:own_IF Z) :
   zM l Z h0 ws y_20 jdk_67_method_10_code 4 (some (.object "java/lang/StringBuilder")) (zr 8 1 400 124) #[.ref a1,.ref a2,.int 0,(.int (I E))] (QA Z a1 t0 (own_wd (cs.take E)) (cs.take E) h0 n0) := by
 refine zE pn_45 rfl fun p e s m below meth c s₁ Bd hx hby hml hown hZ X0 e0 => ?_
 have E_a1 := SB.1
 have D := D21 Bd.bytes
 have N0 := Fr.nil n0
 obtain ⟨_,_,⟨T5,L5,k5,n5⟩,-,X5,⟨Lc5,hQ5,l5,y5,z5⟩,st5⟩ := superBack X0 hx hZ (y:=y_19) hown (zW hw 111 rfl) (own_same (y:=y_19) (own_nf (notFace_of_selects (zW hw 133 rfl)) (zW hw 131 rfl) rfl) (zW hw 112 rfl) (by decide)) (zW hw 112 rfl) (zW hw 113 rfl) (by decide) (backOf (W:=0) (r22 l Z a0 hw [] a1 a2 t0 w cs E h0 n0 Z0 SB S hwd hC hl hE hE9 g_a1 g_t0 O SWz hne IF) hZ (zW hw 115 rfl) (zW hw 68 rfl) (by decide) (by decide)) e0 (Ins.self E_a1) (g:=(mkF m 4 #[vr a1,vr a2,vi 0,vi (I E)] [(.int (I E)),.int 0,.ref a2,.ref a1])) rfl (by rw [hml]; rfl) (zW hw 115 rfl) (argsL:=[.ref a2,.int 0,(.int (I E))]) (rest:=[]) (lenOf pd_21_20 rfl) rfl (Nat.le_of_eq rfl) (D 4 rfl) (fun _ _ => ⟨rfl,e0,(by decide:0 + 1 ≤ _),(by decide:0 + 400 ≤ _)⟩)
 dsimp only [Pt.U,Pt.locs,Pt.cells,Pt.slots] at X5 l5 y5 z5 st5 hQ5
 subst l5 y5 z5
 obtain ⟨rfl,N5q,Qq⟩ := hQ5
 have N5 := Fr.app N0 N5q
 refine zL Bd X5 (ef_40 m a1 a2 (0:Int32) (I E)) (some (.ref a1)) nofun (by decide) (by decide) (fun fs hr => ?_) ?_
 · refine aN X0.here hx rfl (D 0 rfl) rfl rfl (aN X0.here hx rfl (D 1 rfl) rfl rfl (iN X0.here hx rfl (D 2 rfl) rfl (iN X0.here hx rfl (D 3 rfl) rfl ?_)))
   refine st5.trans (XS.pop X5.here hx rfl (D 5 rfl) rfl rfl (aN X5.here hx rfl (D 6 rfl) rfl rfl ?_))
   jvm_step X5.here [X5.here.top,hx,(D 7 rfl),X5.method',Bd.returns,Value.isRef,FieldType.isReference]
   first | (intro acts; rw [hr _ acts rfl rfl rfl]) | rw [hr _ _ rfl rfl rfl]
   exact Steps.refl _
 · show QA Z a1 t0 (own_wd (cs.take E)) (cs.take E) h0 n0 _ T5.heap _
   exact ⟨rfl,N5,Qq⟩
def Q48 (Z:State) (n:Nat) (vs:List Value) (h0:Heap) (n0:Nat) (v:Option Value) (h:Heap) (L:List Loc) : Prop := v = some (.ref h0.size) ∧ Fr n0 L ∧ Keep h0 h [] ∧ ∃ k : ClassId,Arv Z h h0.size k .byte (I n) vs (.int 0)
def Q41 (Z:State) (w:Bool) (cs:List Int32) (h0:Heap) (n0:Nat) (v:Option Value) (h:Heap) (L:List Loc) : Prop := v = some (.ref h0.size) ∧ Fr n0 L ∧ Keep h0 h [] ∧ own_Str Z h h0.size w cs
def l48 : zl := [(0,.iload_n 1,1),(1,.iload_n 2,1),(2,.invokestatic 343,3),(5,.iload_n 2,1),(6,.iload_n 1,1),(7,.isub,1),(8,.istore_n 3,1),(9,.iload_n 3,1),(10,.newarray .byte,2),(12,.astore 4,2),(14,.aload_n 0,1),(15,.iload_n 1,1),(16,.aload 4,2),(18,.iconst 0,1),(19,.aload_n 0,1),(20,.arraylength,1),(21,.iload_n 1,1),(22,.isub,1),(23,.iload_n 3,1),(24,.invokestatic 304,3),(27,.invokestatic 150,3),(30,.aload 4,2),(32,.areturn,1)]
theorem D48 : zq jdk_65_method_133_code l48 := zd (by decide +kernel)
theorem pd_48_41 : parseMethodDescriptor "(II)I" = some ⟨[.int,.int],some .int⟩ := by decide +kernel
theorem r48 (l:Launch) (Z:State) (a0:Array Value) (hw:zH Z a0) (ws:List Jvm.Cond) (a1:Addr) (n_ c_:Nat) (kd:ClassId) (vd:List Value) (h0:Heap) (n0:Nat) (Z0:n0 ≤ h0.size) (B:Arv Z h0 a1 kd .byte (I c_) vd (.int 0)) (hvd:vd.length = c_) (hn:n_ ≤ c_) (hc:c_ ≤ 200) :
   zM l Z h0 ws y_67 jdk_65_method_133_code 5 (some (.array .byte)) (zr 1 1 200 18) #[.ref a1,.int 0,(.int (I n_))] (Q48 Z n_ (vd.take n_) h0 n0) := by
 refine zE pn_49 rfl fun p e s m below meth c s₁ Bd hx hby hml hown hZ X0 e0 => ?_
 obtain ⟨cl_a1,Ar_a1,qb,S_a1,N_a1,Hb,Gb⟩ := id B
 have eD : ((I n_) - 0) = (I n_) := Int32.sub_zero _
 have eC : ((I c_) - 0) = (I c_) := Int32.sub_zero _
 have xD : ((I n_) - 0).toNatClampNeg = n_ := by rw [eD]; exact own_cl n_ (by omega)
 have x3 : (I c_).toNatClampNeg = c_ := own_cl c_ (by omega)
 have hnn : ¬ ((I n_) - 0) < 0 := by rw [eD]; exact own_nn n_ (by omega)
 have D := D48 Bd.bytes
 have N0 := Fr.nil n0
 obtain ⟨_,T4,Lc4,X4,hQ4,st4⟩ := zS X0 hx hZ hown (zW hw 251 rfl) (zW hw 252 rfl) (zW hw 246 rfl) (zW hw 253 rfl) (by decide) (r49 l Z a0 hw [] (0:Int32) (I n_) h0 n0 Z0 (own_nn n_ (by omega))) (by decide) (by decide) (W:=0) (g:=(mkF m 2 #[vr a1,vi 0,vi (I n_),.unset,.unset] [(.int (I n_)),.int 0])) rfl (by rw [hml]; rfl) (argsL:=[.int 0,(.int (I n_))]) (rest:=[]) (lenOf pd_60_16 rfl) rfl (Nat.le_of_eq rfl) (D 2 rfl) rfl e0 (by decide:0 + 0 ≤ _) (by decide:0 + 0 ≤ _)
 obtain ⟨rfl,N4q,e4⟩ := hQ4
 have N4 := Fr.app N0 N4q
 obtain ⟨T5,h5,k5,X5,e5,E5,A5,st5⟩ := newP X4 hx hZ (zW hw 19 rfl) e4 (g:=(mkF m 10 #[vr a1,vi 0,vi (I n_),vi ((I n_) - 0),.unset] [(.int ((I n_) - 0))])) rfl (D 8 rfl) rfl hnn (cap:=200) (by rw [xD]; omega) (by decide) (by decide) (by decide)
 obtain ⟨b5,g5⟩ : ∃ z,z = h0.size := ⟨_,rfl⟩
 rw [← g5] at A5 st5
 have V_b5 : Arv Z h5 b5 k5 .byte ((I n_) - 0) ([] ++ List.replicate n_ (.int 0)) (.int 0) := (Arv.new A5 hnn).pad (pad_rep [] (.int 0) n_)
 have g_b5 : n0 ≤ b5 := Nat.le_trans Z0 (Nat.le_of_eq g5.symm)
 have sz_b5 : h0.size ≤ b5 := (Nat.le_trans (Keep.refl h0 []).1 (Nat.le_of_eq g5.symm))
 have K5 : Keep h0 h5 [] := (Keep.refl h0 []).ext E5
 obtain ⟨_,T6,Lc6,X6,hQ6,st6⟩ := zS X5 hx hZ hown (zW hw 254 rfl) (zW hw 255 rfl) (zW hw 256 rfl) (zW hw 257 rfl) (by decide) (r50 l Z a0 hw [] ((I c_) - 0) ((I n_) - 0) ((I n_) - 0) h5 n0 (Nat.le_trans Z0 E5.1) (by rw [eC,eD,own_min_n _ _ (by omega) (by omega)]; congr 1; omega)) (by decide) (by decide) (W:=4) (g:=(mkF m 24 #[vr a1,vi 0,vi (I n_),vi ((I n_) - 0),vr b5] [(.int ((I n_) - 0)),(.int ((I c_) - 0)),.int 0,.ref b5,.int 0,.ref a1])) rfl (by rw [hml]; rfl) (argsL:=[(.int ((I c_) - 0)),(.int ((I n_) - 0))]) (rest:=[.int 0,.ref b5,.int 0,.ref a1]) (lenOf pd_48_41 rfl) rfl (Nat.le_of_eq rfl) (D 19 rfl) rfl e5 (by decide:1 + 0 ≤ _) (by decide:200 + 0 ≤ _)
 obtain ⟨rfl,N6q,e6⟩ := hQ6
 have N6 := Fr.app N4 N6q
 obtain ⟨T7,h7,L7,X7,e7,N7,K7,V7,st7⟩ := cpA X6 hx hZ hown (zW hw 258 rfl) (zW hw 155 rfl) (zW hw 153 rfl) (zW hw 154 rfl) e6 (B.ext E5) V_b5 (Or.inl ⟨rfl,rfl⟩) (by decide) (by decide) hnn (by rw [xD,x3]; show 0 + n_ ≤ c_; omega) (by rw [xD]; show 0 + n_ ≤ n_; omega) rfl (by rw [xD]; simp) N6 g_b5 (g:=(mkF m 27 #[vr a1,vi 0,vi (I n_),vi ((I n_) - 0),vr b5] [(.int ((I n_) - 0)),.int 0,.ref b5,.int 0,.ref a1])) rfl (by rw [hml]; rfl) (rest:=[]) rfl (D 20 rfl) (by decide) (W:=0) (Nat.le_of_eq rfl) (by decide)
 refine zL Bd X7 (ef_54 m a1 (0:Int32) (I n_)) (some (.ref b5)) nofun (by decide) (by decide) (fun fs hr => ?_) ?_
 · refine iN X0.here hx rfl (D 0 rfl) rfl (iN X0.here hx rfl (D 1 rfl) rfl (st4 _ (iN X4.here hx rfl (D 3 rfl) rfl ?_)))
   refine iN X4.here hx rfl (D 4 rfl) rfl (iB X4.here hx rfl (D 5 rfl) rfl (sN X4.here hx rfl (D 6 rfl) rfl (l':=#[vr a1,vi 0,vi (I n_),vi ((I n_) - 0),.unset]) rfl (iN X4.here hx rfl (D 7 rfl) rfl ?_)))
   refine st5 _ (XS.astore X5.here hx rfl (D 9 rfl) rfl rfl (l':=#[vr a1,vi 0,vi (I n_),vi ((I n_) - 0),vr b5]) rfl (aN X5.here hx rfl (D 10 rfl) rfl rfl (iN X5.here hx rfl (D 11 rfl) rfl ?_)))
   refine aL X5.here hx rfl (D 12 rfl) rfl rfl (iC X5.here hx rfl (D 13 rfl) (aN X5.here hx rfl (D 14 rfl) rfl rfl (X5.arraylength hx (by rw [e5]; exact (Ar_a1.ext E5).1) (State.isArrayOf_alike hZ.alike Ar_a1.2.1) (g:=(mkF m 20 #[vr a1,vi 0,vi (I n_),vi ((I n_) - 0),vr b5] [.ref a1,.int 0,.ref b5,.int 0,.ref a1])) rfl rfl (D 15 rfl) _ ?_)))
   rw [len_of S_a1 N_a1]
   refine iN X5.here hx rfl (D 16 rfl) rfl (iB X5.here hx rfl (D 17 rfl) rfl (iN X5.here hx rfl (D 18 rfl) rfl (st6 _ ?_)))
   refine st7 _ (aL X7.here hx rfl (D 21 rfl) rfl rfl ?_)
   jvm_step X7.here [X7.here.top,hx,(D 22 rfl),X7.method',Bd.returns,Value.isRef,FieldType.isReference]
   first | (intro acts; rw [hr _ acts rfl rfl rfl]) | rw [hr _ _ rfl rfl rfl]
   exact Steps.refl _
 · show Q48 Z n_ (vd.take n_) h0 n0 _ T7.heap _
   rw [e7]
   have e0_ : (0:Int32).toNatClampNeg = 0 := by decide
   rw [xD] at V7
   simp only [e0_] at V7
   rw [own_rngt vd _ n_ (by omega)] at V7
   have V8 : Arv Z h7 b5 k5 .byte (I n_) (vd.take n_) (.int 0) := by
     have eL : List.take 0 ([] ++ List.replicate n_ (Value.int 0)) ++ List.take n_ vd ++ List.drop (0 + n_) ([] ++ List.replicate n_ (Value.int 0)) = vd.take n_ := by simp
     rw [← eD]; rw [← eL]; exact V7
   exact ⟨by rw [g5],N7,K5.trans K7 (allS (Or.inr sz_b5) all0),k5,by rw [← g5]; exact V8⟩
def l47 : zl := [(0,.iload_n 1,1),(1,.ifCond .ne 9,3),(4,.iload_n 2,1),(5,.aload_n 0,1),(6,.arraylength,1),(7,.if_icmp .eq 10,3),(10,.aload_n 0,1),(11,.iload_n 1,1),(12,.iload_n 2,1),(13,.invokestatic 339,3),(16,.areturn,1)]
theorem D47 : zq jdk_65_method_132_code l47 := zd (by decide +kernel)
theorem pd_47_40 : parseMethodDescriptor "([BII)[B" = some ⟨[(.array .byte),.int,.int],some (.array .byte)⟩ := by decide +kernel
theorem r47 (l:Launch) (Z:State) (a0:Array Value) (hw:zH Z a0) (ws:List Jvm.Cond) (a1:Addr) (p3:Int32) (n_ c_:Nat) (kd:ClassId) (vd:List Value) (h0:Heap) (n0:Nat) (Z0:n0 ≤ h0.size) (hp:p3 = (I n_)) (B:Arv Z h0 a1 kd .byte (I c_) vd (.int 0)) (hvd:vd.length = c_) (hn:n_ < c_) (hc:c_ ≤ 200) :
   zM l Z h0 ws y_53 jdk_65_method_132_code 3 (some (.array .byte)) (zr 2 1 200 34) #[.ref a1,.int 0,.int p3] (Q48 Z n_ (vd.take n_) h0 n0) := by
 refine MetFree.of_bodySF (plainFor_of_name pn_49) hisR ?_
 intro p e s m args below meth c s₁ Bd hml0 hP hK
 obtain ⟨rfl,hZ,hh⟩ := hP
 have hx := Bd.exec
 subst hp
 obtain ⟨cl_a1,Ar_a1,qb,S_a1,N_a1,Hb,Gb⟩ := id B
 have hc1 : (0:Int32) = 0 := rfl
 have hc7 : ¬ ((I n_) = (I c_)) := fun q_ => by have := (own_eq _ _ (by omega) (by omega)).mp q_; omega
 have D := D47 Bd.bytes
 have hml : c.maxLocals = 3 := hml0
 have hown : s.vm.findClass "java/util/Arrays" = some m.cls := findClass_of_methodNamed Bd.named
 have X0 : Stand p l e (zr 2 1 200 34) s m #[.ref a1,.int 0,(.int (I n_))] below meth c s₁ [] 0 0 := Stand.of_body Bd
 have e0 : s₁.heap = h0 := by rw [← hh,Bd.state]; rfl
 have N0 := Fr.nil n0
 have pre0 := zP p e below s₁ (ef_57 m a1 (0:Int32) (I n_))
 obtain ⟨_,T4,Lc4,X4,hQ4,st4⟩ := zS X0 hx hZ hown (zW hw 248 rfl) (zW hw 249 rfl) (zW hw 246 rfl) (zW hw 250 rfl) (by decide) (r48 l Z a0 hw [] a1 n_ c_ kd vd h0 n0 Z0 B hvd (by omega) hc) (by decide) (by decide) (W:=0) (g:=(mkF m 13 #[vr a1,vi 0,vi (I n_)] [(.int (I n_)),.int 0,.ref a1])) rfl (by rw [hml]; rfl) (argsL:=[.ref a1,.int 0,(.int (I n_))]) (rest:=[]) (lenOf pd_47_40 rfl) rfl (Nat.le_of_eq rfl) (D 9 rfl) rfl e0 (by decide:0 + 1 ≤ _) (by decide:0 + 200 ≤ _)
 obtain ⟨rfl,N4q,Qq⟩ := hQ4
 have N4 := Fr.app N0 N4q
 obtain ⟨fs,hr,hrun,hended,hW,hsame⟩ := X4.leave (v:=some (.ref h0.size)) (fun h => by rw [Bd.returns] at h; cases h)
 refine ⟨_,_,pre0 _ ?_,hrun,hended,_,_,rfl,?_,⟨_,rfl⟩,hW,hsame.mono (by decide) (by decide)⟩
 · refine iN X0.here hx rfl (D 0 rfl) rfl (fN X0.here hx rfl (D 1 rfl) rfl ((if0 _ _).trans (teq hc1).2) (iN X0.here hx rfl (D 2 rfl) rfl (aN X0.here hx rfl (D 3 rfl) rfl rfl ?_)))
   refine X0.arraylength hx (by rw [e0]; exact Ar_a1.1) (State.isArrayOf_alike hZ.alike Ar_a1.2.1) (g:=(mkF m 6 #[vr a1,vi 0,vi (I n_)] [.ref a1,(.int (I n_))])) rfl rfl (D 4 rfl) _ ?_
   rw [len_of S_a1 N_a1]
   refine cN X0.here hx rfl (D 5 rfl) rfl (feq hc7).1 (aN X0.here hx rfl (D 6 rfl) rfl rfl (iN X0.here hx rfl (D 7 rfl) rfl (iN X0.here hx rfl (D 8 rfl) rfl ?_)))
   refine st4 _ ?_
   jvm_step X4.here [X4.here.top,hx,(D 10 rfl),X4.method',Bd.returns,Value.isRef,FieldType.isReference]
   first | (intro acts; rw [hr _ acts rfl rfl rfl]) | rw [hr _ _ rfl rfl rfl]
   exact Steps.refl _
 · show Q48 Z n_ (vd.take n_) h0 n0 _ T4.heap _
   exact ⟨rfl,N4,Qq⟩
def l43 : zl := [(0,.aload_n 0,1),(1,.invokespecial 1,3),(4,.aload_n 1,1),(5,.invokevirtual 552,3),(8,.astore_n 3,1),(9,.aload_n 1,1),(10,.invokevirtual 549,3),(13,.istore 4,2),(15,.aload_n 1,1),(16,.invokevirtual 1047,3),(19,.ifCond .eq 22,3),(22,.aload_n 0,1),(23,.iconst 0,1),(24,.putfield 15,3),(27,.aload_n 0,1),(28,.aload_n 3,1),(29,.iconst 0,1),(30,.iload 4,2),(32,.invokestatic 54,3),(35,.putfield 9,3),(38,.goto 59,3),(97,.return_,1),(41,.getstatic 38,3),(44,.ifCond .eq 35,3),(47,.aload_n 1,1),(48,.getfield 1048,3),(51,.ifCond .eq 28,3),(79,.aload_n 0,1),(80,.iconst 1,1),(81,.putfield 15,3),(84,.aload_n 0,1),(85,.aload_n 3,1),(86,.iconst 0,1),(87,.iload 4,2),(89,.iconst 1,1),(90,.ishl,1),(91,.invokestatic 54,3),(94,.putfield 9,3)]
theorem D43 : zq jdk_42_method_150_code l43 := zd (by decide +kernel)
theorem ef_43 (m:MethodId) (x0:Addr) (x1:Addr) : entryFrame m #[.ref x0,.ref x1,.null] 5 = mkF m 0 #[.val (.ref x0),.val (.ref x1),.val .null,.unset,.unset] [] := by first | (simp [entryFrame,mkF,argsToLocals,Value.category]; done) | rfl
theorem r43l (l:Launch) (Z:State) (a0:Array Value) (hw:zH Z a0) (ws:List Jvm.Cond) (a1:Addr) (a2:Addr) (tb:Addr) (cs:List Int32) (u_coder_a1:Value) (u_value_a1:Value) (h0:Heap) (n0:Nat) (Z0:n0 ≤ h0.size) (SB:own_SB Z h0 a2 false cs tb) (E_a1:Exa Z h0 a1 "java/lang/String") (F_coder_a1:Fld Z h0 a1 "java/lang/String" "coder" "B" u_coder_a1) (g_a1:n0 ≤ a1) (F_value_a1:Fld Z h0 a1 "java/lang/String" "value" "[B" u_value_a1) (SWh:own_SW Z h0) (hn:cs.length < 96) :
   zM l Z h0 ws y_28 jdk_42_method_150_code 5 none (zr 3 1 200 50) #[.ref a1,.ref a2,.null] (Q3 Z a1 false cs h0 n0) := by
 refine zE pn_7 rfl fun p e s m below meth c s₁ Bd hx hby hml hown hZ X0 e0 => ?_
 obtain ⟨E_a2,F_c2,F_n2,F_v2,F_m2,kd,vd,B,hvd,hcs,htk⟩ := id SB
 obtain ⟨zc,fm,SC,hz,-⟩ := id SWh
 have D := D43 Bd.bytes
 have hnm := (name_of_methodNamed Bd.named Bd.method).1
 have N0 := Fr.nil n0
 obtain ⟨T3,X3,e3,st3⟩ := initO X0 hx hZ hown (zW hw 15 rfl) (zW hw 16 rfl) (zW hw 17 rfl) e0 (g:=(mkF m 1 #[vr a1,vr a2,.val .null,.unset,.unset] [.ref a1])) rfl (by rw [hml]; rfl) rfl (D 1 rfl) (by decide) (W:=0) (Nat.le_of_eq rfl) (by decide)
 obtain ⟨cq4,kq4,q4a,q4b,q4c⟩ := isOf hZ e3 E_a2
 obtain ⟨_,T4,Lc4,X4,hQ4,st4⟩ := zU X3 hx hZ hown (zW hw 230 rfl) (zW hw 231 rfl) (zW hw 233 rfl) (zW hw 232 rfl) (by decide) (backOf (W:=0) (r44 l Z a0 hw [] a2 tb h0 n0 Z0 F_v2) hZ (zW hw 234 rfl) (zW hw 68 rfl) (by decide) (by decide)) q4a q4c (g:=(mkF m 5 #[vr a1,vr a2,.val .null,.unset,.unset] [.ref a2])) rfl (by rw [hml]; rfl) (argsL:=[]) (rest:=[]) (lenOf pd_25_23 rfl) rfl (Nat.le_of_eq rfl) (D 3 rfl) rfl e3 (by decide:0 + 0 ≤ _) (by decide:0 + 0 ≤ _)
 obtain ⟨rfl,N4q,e4⟩ := hQ4
 have N4 := Fr.app N0 N4q
 obtain ⟨cq5,kq5,q5a,q5b,q5c⟩ := isOf hZ e4 (E_a2)
 obtain ⟨_,_,⟨T5,L5,k5,n5⟩,-,X5,⟨Lc5,hQ5,l5,y5,z5⟩,st5⟩ := X4.virtualBack hx (y:=y_32) hown (zT hZ hw 235 rfl) (zT hZ hw 236 rfl) (own_nf (notFace_of_selects (args:=#[]) (zT hZ hw 133 rfl)) (mvT hZ (zW hw 131 rfl) : (Cond.instanceMethod _).before #[] s = true) rfl) (zT hZ hw 238 rfl) (zT hZ hw 239 rfl) (by decide) (backOf (W:=0) (r45 l Z a0 hw [] a2 (I cs.length) h0 n0 Z0 E_a2 F_n2) hZ (zW hw 240 rfl) (zW hw 60 rfl) (by decide) (by decide)) q5a q5c (g:=(mkF m 10 #[vr a1,vr a2,.val .null,vr tb,.unset] [.ref a2])) rfl (by rw [hml]; rfl) (Steps.refl _) (argsL:=[]) (rest:=[]) (lenOf pd_45_5 rfl) rfl (Nat.le_of_eq rfl) (D 6 rfl) (fun _ _ => ⟨rfl,e4,(by decide:0 + 0 ≤ _),(by decide:0 + 0 ≤ _)⟩)
 dsimp only [Pt.U,Pt.locs,Pt.cells,Pt.slots] at X5 l5 y5 z5 st5 hQ5
 subst l5 y5 z5
 obtain ⟨rfl,N5q,e5⟩ := hQ5
 have N5 := Fr.app N4 N5q
 obtain ⟨cq6,kq6,q6a,q6b,q6c⟩ := isOf hZ e5 ((E_a2))
 obtain ⟨_,T6,Lc6,X6,hQ6,st6⟩ := zU X5 hx hZ hown (zW hw 243 rfl) (zW hw 142 rfl) (zW hw 144 rfl) (zW hw 143 rfl) (by decide) (backOf (W:=0) (r26 l Z a0 hw [] a2 zc false h0 n0 Z0 SC F_c2 hz) hZ (zW hw 145 rfl) (zW hw 68 rfl) (by decide) (by decide)) q6a q6c (g:=(mkF m 16 #[vr a1,vr a2,.val .null,vr tb,vi (I cs.length)] [.ref a2])) rfl (by rw [hml]; rfl) (argsL:=[]) (rest:=[]) (lenOf pd_15_14 rfl) rfl (Nat.le_of_eq rfl) (D 9 rfl) rfl e5 (by decide:0 + 0 ≤ _) (by decide:0 + 0 ≤ _)
 obtain ⟨rfl,N6q,e6⟩ := hQ6
 have N6 := Fr.app N5 N6q
 obtain ⟨T7,h7,X7,e7,W7,st7⟩ := putFN X6 hx hZ hown (zW hw 25 rfl) Via.refl e6 (((F_coder_a1))) (((E_a1))) (Or.inr ⟨(zW hw 21 rfl),rfl,hnm⟩) (zW hw 6 rfl) (ty:=.byte) (v':=(.int 0)) (by decide) rfl (by decide) (g:=(mkF m 24 #[vr a1,vr a2,.val .null,vr tb,vi (I cs.length)] [.int 0,.ref a1])) rfl rfl (D 13 rfl)
 have Fw7 := (((F_coder_a1))).same W7
 have K7 : Keep h0 h7 [a1] := (Keep.refl h0 [a1]).wr W7 (Or.inl (List.mem_of_getElem? (i:=0) rfl))
 have N7 := Fr.snoc X7 N6 g_a1
 obtain ⟨_,T8,Lc8,X8,hQ8,st8⟩ := zS X7 hx hZ hown (zW hw 244 rfl) (zW hw 245 rfl) (zW hw 246 rfl) (zW hw 247 rfl) (by decide) (r47 l Z a0 hw [] tb (I cs.length) cs.length 96 kd vd h7 n0 (Nat.le_trans Z0 K7.1) rfl (B.other W7 (fun q => Exa.neArv E_a1 B (zW hw 6 rfl) q.symm)) hvd hn (by decide)) (by decide) (by decide) (W:=1) (g:=(mkF m 32 #[vr a1,vr a2,.val .null,vr tb,vi (I cs.length)] [(.int (I cs.length)),.int 0,.ref tb,.ref a1])) rfl (by rw [hml]; rfl) (argsL:=[.ref tb,.int 0,(.int (I cs.length))]) (rest:=[.ref a1]) (lenOf pd_47_40 rfl) rfl (Nat.le_of_eq rfl) (D 18 rfl) rfl e7 (by decide:0 + 1 ≤ _) (by decide:0 + 200 ≤ _)
 obtain ⟨rfl,N8q,K8,k8x,V8⟩ := hQ8
 have N8 := Fr.app N7 N8q
 obtain ⟨T9,h9,X9,e9,W9,st9⟩ := putF X8 hx hZ hown (host:="") (Or.inl (zW hw 24 rfl)) Via.refl rfl (((((F_value_a1))).other W7 (Or.inr (slot_ne (Or.inr (zW hw 20 rfl)) (Or.inr (zW hw 21 rfl)) (by decide) (t:=(.array .byte)) (t':=.byte) (by decide) (by decide)))).keep K8 nin0) (((((E_a1))).wr W7).keep K8) (Or.inr ⟨(zW hw 20 rfl),rfl,hnm⟩) (zW hw 6 rfl) (ty:=(.array .byte)) (by decide) rfl rfl (g:=(mkF m 35 #[vr a1,vr a2,.val .null,vr tb,vi (I cs.length)] [.ref h7.size,.ref a1])) rfl rfl (D 19 rfl)
 have Fw9 := (((((F_value_a1))).other W7 (Or.inr (slot_ne (Or.inr (zW hw 20 rfl)) (Or.inr (zW hw 21 rfl)) (by decide) (t:=(.array .byte)) (t':=.byte) (by decide) (by decide)))).keep K8 nin0).same W9
 have K9 : Keep h0 h9 [a1] := (K7.trans K8 all0).wr W9 (Or.inl (List.mem_of_getElem? (i:=0) rfl))
 have N9 := Fr.snoc X9 N8 g_a1
 refine zL Bd X9 (ef_43 m a1 a2) none (fun _ => rfl) (by decide) (by decide) (fun fs hr => ?_) ?_
 · refine aN X0.here hx rfl (D 0 rfl) rfl rfl (st3 _ (aN X3.here hx rfl (D 2 rfl) rfl rfl (st4.trans ?_)))
   refine XS.astoreN X4.here hx rfl (D 4 rfl) rfl rfl (l':=#[vr a1,vr a2,.val .null,vr tb,.unset]) rfl (aN X4.here hx rfl (D 5 rfl) rfl rfl (st5.trans (iS X5.here hx rfl (D 7 rfl) rfl (l':=#[vr a1,vr a2,.val .null,vr tb,vi (I cs.length)]) rfl ?_)))
   refine aN X5.here hx rfl (D 8 rfl) rfl rfl (st6.trans (fN X6.here hx rfl (D 10 rfl) rfl ((if0 _ _).trans (feq (by decide:¬ ((own_nl false) = 0))).1) (aN X6.here hx rfl (D 11 rfl) rfl rfl ?_)))
   refine iC X6.here hx rfl (D 12 rfl) (st7 _ (aN X7.here hx rfl (D 14 rfl) rfl rfl (aN X7.here hx rfl (D 15 rfl) rfl rfl ?_)))
   refine iC X7.here hx rfl (D 16 rfl) (iL X7.here hx rfl (D 17 rfl) rfl (st8 _ (st9 _ ?_)))
   refine gT X9.here hx rfl (pc0 := 38) (pc':=97) rfl (D 20 rfl) (by decide) (by decide) ?_
   exact X9.returnOut hx Bd.returns (D 21 rfl) hr
 · show Q3 Z a1 false cs h0 n0 _ T9.heap _
   rw [e9]
   have hne : h7.size ≠ a1 := Nat.ne_of_gt (Nat.lt_of_lt_of_le E_a1.lt K7.1)
   have htk' : vd.take cs.length = own_by cs := by rw [← Nat.one_mul cs.length]; exact htk
   rw [htk'] at V8
   exact ⟨rfl,N9,K9,((E_a1.wr W7).keep K8).wr W9,(Fw7.keep K8 nin0).other W9 (Or.inr (slot_ne (Or.inr (zW hw 21 rfl)) (Or.inr (zW hw 20 rfl)) (by decide) (t:=.byte) (t':=(.array .byte)) (by decide) (by decide))),h7.size,k8x,Fw9,by rw [show own_k false * cs.length = cs.length from Nat.one_mul _]; exact V8.other W9 hne⟩
theorem r43w (l:Launch) (Z:State) (a0:Array Value) (hw:zH Z a0) (ws:List Jvm.Cond) (a1:Addr) (a2:Addr) (tb:Addr) (cs:List Int32) (u_coder_a1:Value) (u_value_a1:Value) (h0:Heap) (n0:Nat) (Z0:n0 ≤ h0.size) (SB:own_SB Z h0 a2 true cs tb) (E_a1:Exa Z h0 a1 "java/lang/String") (F_coder_a1:Fld Z h0 a1 "java/lang/String" "coder" "B" u_coder_a1) (g_a1:n0 ≤ a1) (F_value_a1:Fld Z h0 a1 "java/lang/String" "value" "[B" u_value_a1) (SWh:own_SW Z h0) (hn:cs.length < 96) :
   zM l Z h0 ws y_28 jdk_42_method_150_code 5 none (zr 3 1 200 50) #[.ref a1,.ref a2,.null] (Q3 Z a1 true cs h0 n0) := by
 refine zE pn_7 rfl fun p e s m below meth c s₁ Bd hx hby hml hown hZ X0 e0 => ?_
 obtain ⟨E_a2,F_c2,F_n2,F_v2,F_m2,kd,vd,B,hvd,hcs,htk⟩ := id SB
 obtain ⟨zc,fm,SC,hz,-⟩ := id SWh
 have S_COMPACT_STRINGS := SC
 have F_maybeLatin1_a2 := F_m2
 have D := D43 Bd.bytes
 have hnm := (name_of_methodNamed Bd.named Bd.method).1
 have N0 := Fr.nil n0
 obtain ⟨T3,X3,e3,st3⟩ := initO X0 hx hZ hown (zW hw 15 rfl) (zW hw 16 rfl) (zW hw 17 rfl) e0 (g:=(mkF m 1 #[vr a1,vr a2,.val .null,.unset,.unset] [.ref a1])) rfl (by rw [hml]; rfl) rfl (D 1 rfl) (by decide) (W:=0) (Nat.le_of_eq rfl) (by decide)
 obtain ⟨cq4,kq4,q4a,q4b,q4c⟩ := isOf hZ e3 E_a2
 obtain ⟨_,T4,Lc4,X4,hQ4,st4⟩ := zU X3 hx hZ hown (zW hw 230 rfl) (zW hw 231 rfl) (zW hw 233 rfl) (zW hw 232 rfl) (by decide) (backOf (W:=0) (r44 l Z a0 hw [] a2 tb h0 n0 Z0 F_v2) hZ (zW hw 234 rfl) (zW hw 68 rfl) (by decide) (by decide)) q4a q4c (g:=(mkF m 5 #[vr a1,vr a2,.val .null,.unset,.unset] [.ref a2])) rfl (by rw [hml]; rfl) (argsL:=[]) (rest:=[]) (lenOf pd_25_23 rfl) rfl (Nat.le_of_eq rfl) (D 3 rfl) rfl e3 (by decide:0 + 0 ≤ _) (by decide:0 + 0 ≤ _)
 obtain ⟨rfl,N4q,e4⟩ := hQ4
 have N4 := Fr.app N0 N4q
 obtain ⟨cq5,kq5,q5a,q5b,q5c⟩ := isOf hZ e4 (E_a2)
 obtain ⟨_,_,⟨T5,L5,k5,n5⟩,-,X5,⟨Lc5,hQ5,l5,y5,z5⟩,st5⟩ := X4.virtualBack hx (y:=y_32) hown (zT hZ hw 235 rfl) (zT hZ hw 236 rfl) (own_nf (notFace_of_selects (args:=#[]) (zT hZ hw 133 rfl)) (mvT hZ (zW hw 131 rfl) : (Cond.instanceMethod _).before #[] s = true) rfl) (zT hZ hw 238 rfl) (zT hZ hw 239 rfl) (by decide) (backOf (W:=0) (r45 l Z a0 hw [] a2 (I cs.length) h0 n0 Z0 E_a2 F_n2) hZ (zW hw 240 rfl) (zW hw 60 rfl) (by decide) (by decide)) q5a q5c (g:=(mkF m 10 #[vr a1,vr a2,.val .null,vr tb,.unset] [.ref a2])) rfl (by rw [hml]; rfl) (Steps.refl _) (argsL:=[]) (rest:=[]) (lenOf pd_45_5 rfl) rfl (Nat.le_of_eq rfl) (D 6 rfl) (fun _ _ => ⟨rfl,e4,(by decide:0 + 0 ≤ _),(by decide:0 + 0 ≤ _)⟩)
 dsimp only [Pt.U,Pt.locs,Pt.cells,Pt.slots] at X5 l5 y5 z5 st5 hQ5
 subst l5 y5 z5
 obtain ⟨rfl,N5q,e5⟩ := hQ5
 have N5 := Fr.app N4 N5q
 obtain ⟨cq6,kq6,q6a,q6b,q6c⟩ := isOf hZ e5 ((E_a2))
 obtain ⟨_,T6,Lc6,X6,hQ6,st6⟩ := zU X5 hx hZ hown (zW hw 243 rfl) (zW hw 142 rfl) (zW hw 144 rfl) (zW hw 143 rfl) (by decide) (backOf (W:=0) (r26 l Z a0 hw [] a2 zc true h0 n0 Z0 SC F_c2 hz) hZ (zW hw 145 rfl) (zW hw 68 rfl) (by decide) (by decide)) q6a q6c (g:=(mkF m 16 #[vr a1,vr a2,.val .null,vr tb,vi (I cs.length)] [.ref a2])) rfl (by rw [hml]; rfl) (argsL:=[]) (rest:=[]) (lenOf pd_15_14 rfl) rfl (Nat.le_of_eq rfl) (D 9 rfl) rfl e5 (by decide:0 + 0 ≤ _) (by decide:0 + 0 ≤ _)
 obtain ⟨rfl,N6q,e6⟩ := hQ6
 have N6 := Fr.app N5 N6q
 obtain ⟨T8,X8,e8,st8⟩ := getS2 X6 hx hZ hown (host:="") (Or.inl (zW hw 40 rfl)) Via.refl e6 S_COMPACT_STRINGS (g:=(mkF m 41 #[vr a1,vr a2,.val .null,vr tb,vi (I cs.length)] [])) rfl (D 22 rfl)
 obtain ⟨T10,X10,e10,st10⟩ := getF X8 hx hZ hown (host:="") (Or.inl (zW hw 340 rfl)) Via.refl e8 (((F_maybeLatin1_a2))) (g:=(mkF m 48 #[vr a1,vr a2,.val .null,vr tb,vi (I cs.length)] [.ref a2])) rfl rfl (D 25 rfl)
 obtain ⟨T11,h11,X11,e11,W11,st11⟩ := putFN X10 hx hZ hown (zW hw 25 rfl) Via.refl e10 (((F_coder_a1))) (((E_a1))) (Or.inr ⟨(zW hw 21 rfl),rfl,hnm⟩) (zW hw 6 rfl) (ty:=.byte) (v':=(.int 1)) (by decide) rfl (by decide) (g:=(mkF m 81 #[vr a1,vr a2,.val .null,vr tb,vi (I cs.length)] [.int 1,.ref a1])) rfl rfl (D 29 rfl)
 have Fw11 := (((F_coder_a1))).same W11
 have K11 : Keep h0 h11 [a1] := (Keep.refl h0 [a1]).wr W11 (Or.inl (List.mem_of_getElem? (i:=0) rfl))
 have N11 := Fr.snoc X11 N6 g_a1
 obtain ⟨_,T12,Lc12,X12,hQ12,st12⟩ := zS X11 hx hZ hown (zW hw 244 rfl) (zW hw 245 rfl) (zW hw 246 rfl) (zW hw 247 rfl) (by decide) (r47 l Z a0 hw [] tb ((I cs.length) <<< ((1:Int32) &&& 31)) (2 * cs.length) 192 kd vd h11 n0 (Nat.le_trans Z0 K11.1) (own_ix cs.length (by omega)).1 (B.other W11 (fun q => Exa.neArv E_a1 B (zW hw 6 rfl) q.symm)) hvd (by omega) (by decide)) (by decide) (by decide) (W:=1) (g:=(mkF m 91 #[vr a1,vr a2,.val .null,vr tb,vi (I cs.length)] [(.int ((I cs.length) <<< ((1:Int32) &&& 31))),.int 0,.ref tb,.ref a1])) rfl (by rw [hml]; rfl) (argsL:=[.ref tb,.int 0,(.int ((I cs.length) <<< ((1:Int32) &&& 31)))]) (rest:=[.ref a1]) (lenOf pd_47_40 rfl) rfl (Nat.le_of_eq rfl) (D 36 rfl) rfl e11 (by decide:0 + 1 ≤ _) (by decide:0 + 200 ≤ _)
 obtain ⟨rfl,N12q,K12,k12x,V12⟩ := hQ12
 have N12 := Fr.app N11 N12q
 obtain ⟨T13,h13,X13,e13,W13,st13⟩ := putF X12 hx hZ hown (host:="") (Or.inl (zW hw 24 rfl)) Via.refl rfl (((((F_value_a1))).other W11 (Or.inr (slot_ne (Or.inr (zW hw 20 rfl)) (Or.inr (zW hw 21 rfl)) (by decide) (t:=(.array .byte)) (t':=.byte) (by decide) (by decide)))).keep K12 nin0) (((((E_a1))).wr W11).keep K12) (Or.inr ⟨(zW hw 20 rfl),rfl,hnm⟩) (zW hw 6 rfl) (ty:=(.array .byte)) (by decide) rfl rfl (g:=(mkF m 94 #[vr a1,vr a2,.val .null,vr tb,vi (I cs.length)] [.ref h11.size,.ref a1])) rfl rfl (D 37 rfl)
 have Fw13 := (((((F_value_a1))).other W11 (Or.inr (slot_ne (Or.inr (zW hw 20 rfl)) (Or.inr (zW hw 21 rfl)) (by decide) (t:=(.array .byte)) (t':=.byte) (by decide) (by decide)))).keep K12 nin0).same W13
 have K13 : Keep h0 h13 [a1] := (K11.trans K12 all0).wr W13 (Or.inl (List.mem_of_getElem? (i:=0) rfl))
 have N13 := Fr.snoc X13 N12 g_a1
 refine zL Bd X13 (ef_43 m a1 a2) none (fun _ => rfl) (by decide) (by decide) (fun fs hr => ?_) ?_
 · refine aN X0.here hx rfl (D 0 rfl) rfl rfl (st3 _ (aN X3.here hx rfl (D 2 rfl) rfl rfl (st4.trans ?_)))
   refine XS.astoreN X4.here hx rfl (D 4 rfl) rfl rfl (l':=#[vr a1,vr a2,.val .null,vr tb,.unset]) rfl (aN X4.here hx rfl (D 5 rfl) rfl rfl (st5.trans (iS X5.here hx rfl (D 7 rfl) rfl (l':=#[vr a1,vr a2,.val .null,vr tb,vi (I cs.length)]) rfl ?_)))
   refine aN X5.here hx rfl (D 8 rfl) rfl rfl (st6.trans (fY X6.here hx rfl (pc0 := 19) (pc':=41) rfl (D 10 rfl) rfl ((if0 _ _).trans (teq (by decide:(own_nl true) = 0)).1) (by decide) (by decide) (st8 _ ?_)))
   refine fN X8.here hx rfl (D 23 rfl) rfl ((if0 _ _).trans (feq hz).1) (aN X8.here hx rfl (D 24 rfl) rfl rfl (st10 _ (fY X10.here hx rfl (pc0 := 51) (pc':=79) rfl (D 26 rfl) rfl ((if0 _ _).trans (teq (rfl:(0:Int32) = 0)).1) (by decide) (by decide) ?_)))
   refine aN X10.here hx rfl (D 27 rfl) rfl rfl (iC X10.here hx rfl (D 28 rfl) (st11 _ (aN X11.here hx rfl (D 30 rfl) rfl rfl ?_)))
   refine aN X11.here hx rfl (D 31 rfl) rfl rfl (iC X11.here hx rfl (D 32 rfl) (iL X11.here hx rfl (D 33 rfl) rfl (iC X11.here hx rfl (D 34 rfl) ?_)))
   refine XS.ishl X11.here hx rfl (D 35 rfl) rfl (st12 _ (st13 _ ?_))
   exact X13.returnOut hx Bd.returns (D 21 rfl) hr
 · show Q3 Z a1 true cs h0 n0 _ T13.heap _
   rw [e13]
   have hne : h11.size ≠ a1 := Nat.ne_of_gt (Nat.lt_of_lt_of_le E_a1.lt K11.1)
   have htk' : vd.take (2 * cs.length) = own_enc true cs := htk
   rw [htk'] at V12
   exact ⟨rfl,N13,K13,((E_a1.wr W11).keep K12).wr W13,(Fw11.keep K12 nin0).other W13 (Or.inr (slot_ne (Or.inr (zW hw 21 rfl)) (Or.inr (zW hw 20 rfl)) (by decide) (t:=.byte) (t':=(.array .byte)) (by decide) (by decide))),h11.size,k12x,Fw13,V12.other W13 hne⟩
theorem r43 (l:Launch) (Z:State) (a0:Array Value) (hw:zH Z a0) (ws:List Jvm.Cond) (a1:Addr) (a2:Addr) (tb:Addr) (w:Bool) (cs:List Int32) (u_coder_a1:Value) (u_value_a1:Value) (h0:Heap) (n0:Nat) (Z0:n0 ≤ h0.size) (SB:own_SB Z h0 a2 w cs tb) (E_a1:Exa Z h0 a1 "java/lang/String") (F_coder_a1:Fld Z h0 a1 "java/lang/String" "coder" "B" u_coder_a1) (g_a1:n0 ≤ a1) (F_value_a1:Fld Z h0 a1 "java/lang/String" "value" "[B" u_value_a1) (SWh:own_SW Z h0) (hn:cs.length < 96) :
   zM l Z h0 ws y_28 jdk_42_method_150_code 5 none (zr 3 1 200 50) #[.ref a1,.ref a2,.null] (Q3 Z a1 w cs h0 n0) := by
 cases w
 · exact r43l l Z a0 hw ws a1 a2 tb cs u_coder_a1 u_value_a1 h0 n0 Z0 SB E_a1 F_coder_a1 g_a1 F_value_a1 SWh hn
 · exact r43w l Z a0 hw ws a1 a2 tb cs u_coder_a1 u_value_a1 h0 n0 Z0 SB E_a1 F_coder_a1 g_a1 F_value_a1 SWh hn
def l42 : zl := [(0,.aload_n 0,1),(1,.aload_n 1,1),(2,.aconst_null,1),(3,.invokespecial 489,3),(6,.return_,1)]
theorem D42 : zq jdk_42_method_53_code l42 := zd (by decide +kernel)
theorem pd_42_39 : parseMethodDescriptor "(Ljava/lang/AbstractStringBuilder;Ljava/lang/Void;)V" = some ⟨[(.object "java/lang/AbstractStringBuilder"),(.object "java/lang/Void")],none⟩ := by decide +kernel
theorem r42 (l:Launch) (Z:State) (a0:Array Value) (hw:zH Z a0) (ws:List Jvm.Cond) (a1:Addr) (a2:Addr) (tb:Addr) (w:Bool) (cs:List Int32) (u_coder_a1:Value) (u_value_a1:Value) (h0:Heap) (n0:Nat) (Z0:n0 ≤ h0.size) (SB:own_SB Z h0 a2 w cs tb) (E_a1:Exa Z h0 a1 "java/lang/String") (F_coder_a1:Fld Z h0 a1 "java/lang/String" "coder" "B" u_coder_a1) (g_a1:n0 ≤ a1) (F_value_a1:Fld Z h0 a1 "java/lang/String" "value" "[B" u_value_a1) (SWh:own_SW Z h0) (hn:cs.length < 96) :
   zM l Z h0 ws y_68 jdk_42_method_53_code 2 none (zr 4 1 200 66) #[.ref a1,.ref a2] (Q3 Z a1 w cs h0 n0) := by
 refine zE pn_7 rfl fun p e s m below meth c s₁ Bd hx hby hml hown hZ X0 e0 => ?_
 have D := D42 Bd.bytes
 have N0 := Fr.nil n0
 obtain ⟨_,_,⟨T3,L3,k3,n3⟩,-,X3,⟨Lc3,hQ3,l3,y3,z3⟩,st3⟩ := X0.specialBack hx (y:=y_28) rfl hown (zT hZ hw 227 rfl) (zT hZ hw 228 rfl) (zT hZ hw 229 rfl) (by decide) (backOf (W:=0) (r43 l Z a0 hw [] a1 a2 tb w cs u_coder_a1 u_value_a1 h0 n0 Z0 SB E_a1 F_coder_a1 g_a1 F_value_a1 SWh hn) hZ (zW hw 229 rfl) (zW hw 7 rfl) (by decide) (by decide)) (g:=(mkF m 3 #[vr a1,vr a2] [.null,.ref a2,.ref a1])) rfl (by rw [hml]; rfl) (Steps.refl _) (a:=a1) (argsL:=[.ref a2,.null]) (rest:=[]) (lenOf pd_42_39 rfl) rfl (Nat.le_of_eq rfl) (D 3 rfl) (fun _ _ => ⟨rfl,e0,(by decide:0 + 1 ≤ _),(by decide:0 + 200 ≤ _)⟩)
 dsimp only [Pt.U,Pt.locs,Pt.cells,Pt.slots] at X3 l3 y3 z3 st3 hQ3
 subst l3 y3 z3
 obtain ⟨rfl,N3q,Qq⟩ := hQ3
 have N3 := Fr.app N0 N3q
 refine zL Bd X3 (ef_2 m a1 a2) none (fun _ => rfl) (by decide) (by decide) (fun fs hr => ?_) ?_
 · refine aN X0.here hx rfl (D 0 rfl) rfl rfl (aN X0.here hx rfl (D 1 rfl) rfl rfl (XS.aconstNull X0.here hx rfl (D 2 rfl) (st3.trans ?_)))
   exact X3.returnOut hx Bd.returns (D 4 rfl) hr
 · show Q3 Z a1 w cs h0 n0 _ T3.heap _
   exact ⟨rfl,N3,Qq⟩
def l41 : zl := [(0,.new 18,3),(3,.dup,1),(4,.aload_n 0,1),(5,.invokespecial 137,3),(8,.areturn,1)]
theorem D41 : zq jdk_67_method_42_code l41 := zd (by decide +kernel)
theorem pd_41_38 : parseMethodDescriptor "(Ljava/lang/StringBuilder;)V" = some ⟨[(.object "java/lang/StringBuilder")],none⟩ := by decide +kernel
theorem r41 (l:Launch) (Z:State) (a0:Array Value) (hw:zH Z a0) (ws:List Jvm.Cond) (a1:Addr) (tb:Addr) (w:Bool) (cs:List Int32) (h0:Heap) (n0:Nat) (Z0:n0 ≤ h0.size) (SB:own_SB Z h0 a1 w cs tb) (SWh:own_SW Z h0) (hn:cs.length < 96) :
   zM l Z h0 ws y_54 jdk_67_method_42_code 1 (some (.object "java/lang/String")) (zr 5 2 204 80) #[.ref a1] (Q41 Z w cs h0 n0) := by
 refine zE pn_45 rfl fun p e s m below meth c s₁ Bd hx hby hml hown hZ X0 e0 => ?_
 have D := D41 Bd.bytes
 have N0 := Fr.nil n0
 obtain ⟨T2,h2,X2,e2,E2,A2,D2,-,st2⟩ := newO X0 hx hZ hown (zW hw 223 rfl) (zW hw 6 rfl) (zW hw 7 rfl) e0 (g:=(mkF m 0 #[vr a1] [])) rfl (D 0 rfl) (by decide) (by decide)
 obtain ⟨b2,g2⟩ : ∃ z,z = h0.size := ⟨_,rfl⟩
 rw [← g2] at A2 D2 st2
 have F_value_b2 : Fld Z h2 b2 "java/lang/String" "value" "[B" .null := D2 (Or.inr (zW hw 20 rfl)) (ty:=(.array .byte)) (by decide)
 have F_coder_b2 : Fld Z h2 b2 "java/lang/String" "coder" "B" (.int 0) := D2 (Or.inr (zW hw 21 rfl)) (ty:=.byte) (by decide)
 have E_b2 := A2
 have g_b2 : n0 ≤ b2 := Nat.le_trans Z0 (Nat.le_of_eq g2.symm)
 have sz_b2 : h0.size ≤ b2 := (Nat.le_trans (Keep.refl h0 []).1 (Nat.le_of_eq g2.symm))
 have K2 : Keep h0 h2 [] := (Keep.refl h0 []).ext E2
 obtain ⟨_,_,⟨T3,L3,k3,n3⟩,-,X3,⟨Lc3,hQ3,l3,y3,z3⟩,st3⟩ := X2.specialBack hx (y:=y_68) rfl hown (zT hZ hw 224 rfl) (zT hZ hw 225 rfl) (zT hZ hw 226 rfl) (by decide) (backOf (W:=1) (r42 l Z a0 hw [] b2 a1 tb w cs _ _ h2 n0 (Nat.le_trans Z0 E2.1) (SB.keep0 K2) E_b2 F_coder_b2 g_b2 F_value_b2 (SWh.ext E2) hn) hZ (zW hw 226 rfl) (zW hw 7 rfl) (by decide) (by decide)) (g:=(mkF m 5 #[vr a1] [.ref a1,.ref b2,.ref b2])) rfl (by rw [hml]; rfl) (Steps.refl _) (a:=b2) (argsL:=[.ref a1]) (rest:=[.ref b2]) (lenOf pd_41_38 rfl) rfl (Nat.le_of_eq rfl) (D 3 rfl) (fun _ _ => ⟨rfl,e2,(by decide:1 + 1 ≤ _),(by decide:4 + 200 ≤ _)⟩)
 dsimp only [Pt.U,Pt.locs,Pt.cells,Pt.slots] at X3 l3 y3 z3 st3 hQ3
 subst l3 y3 z3
 obtain ⟨rfl,N3q,K3,S3⟩ := hQ3
 have N3 := Fr.app N0 N3q
 refine zL Bd X3 (ef_7 m a1) (some (.ref b2)) nofun (by decide) (by decide) (fun fs hr => ?_) ?_
 · refine st2 _ (XS.dup X2.here hx rfl (D 1 rfl) rfl rfl (aN X2.here hx rfl (D 2 rfl) rfl rfl (st3.trans ?_)))
   jvm_step X3.here [X3.here.top,hx,(D 4 rfl),X3.method',Bd.returns,Value.isRef,FieldType.isReference]
   first | (intro acts; rw [hr _ acts rfl rfl rfl]) | rw [hr _ _ rfl rfl rfl]
   exact Steps.refl _
 · show Q41 Z w cs h0 n0 _ T3.heap _
   subst g2
   exact ⟨rfl,N3,K2.trans K3 (allS (Or.inr sz_b2) all0),S3⟩
theorem own_fld_ne {Z:State} {h:Heap} {a b:Addr} {C n d:String} {v w:Value} (F:Fld Z h a C n d v) (G:Fld Z h b C n d w) (hn:v ≠ w) : a ≠ b := by
 rintro rfl
 obtain ⟨c1,f1,k1,i1,ff1,a1,a2,-,-,-,-,a7⟩ := F
 obtain ⟨c2,f2,k2,i2,ff2,b1,b2,-,-,-,-,b7⟩ := G
 cases a1.symm.trans b1
 cases a2.symm.trans b2
 exact hn (Option.some.inj (a7.symm.trans b7))
theorem own_safe {Z:State} {EL:List (String × Nat)} {vm:Vm} {h:Heap} {x:Addr} (hal:Z.vm.Alike vm) (E:Exa Z h x "java/lang/String") (F:Fld Z h x "java/lang/String" "value" "[B" .null) : Safe Z EL vm h x := fun B => by
 obtain ⟨p,-,u,a,-,q,-,G,hx⟩ := B
 have g1 : h[q.sa]? = some q.sC := G.ha
 have g2 : h[q.sd]? = some q.SA := G.hd
 obtain ⟨cS,⟨⟨s1,s2,s3,⟨cv,kv,iv,s4,s4'⟩,s5,s6,s7,s8,s9⟩,hfS,hcS⟩,-,hB,-⟩ := G
 rcases hx with rfl | rfl
 · obtain ⟨c1,f1,k1,i1,ff1,a1,a2,-,-,-,-,a7⟩ := F
   cases a1.symm.trans g1
   obtain ⟨kv',z4⟩ := ff_back (U:=Wst Z vm h) hal s4
   cases a2.symm.trans z4
   cases Option.some.inj (a7.symm.trans s8)
 · obtain ⟨cell,k,e1,e2,e3,-,-⟩ := E
   cases g2.symm.trans e1
   have f : vm.findClass "[B" = some q.SA.cls := hB
   rw [hal.findClass] at f
   obtain ⟨k1,q1,q2⟩ := Vm.findClass_spec f
   obtain ⟨k2,q3,q4⟩ := Vm.findClass_spec e2
   cases q1.symm.trans q3
   exact absurd (q2.symm.trans q4) (by decide)
abbrev own_EL : List (String × Nat) := [("com/example/dolmetsch/dolmetsch/BriefText",56),("com/example/dolmetsch/dolmetsch/BriefText",65),("com/example/dolmetsch/dolmetsch/BriefText",70),("com/example/dolmetsch/dolmetsch/BriefText",72),("java/lang/String",7)]
def QE (Z:State) (a1:Addr) (h0:Heap) (n0:Nat) (v:Option Value) (h:Heap) (L:List Loc) : Prop := v = none ∧ Fr n0 L ∧ Keep h0 h [a1] ∧ Exa Z h a1 "java/lang/String" ∧ Fld Z h a1 "java/lang/String" "coder" "B" (.int 0) ∧ ∃ (b:Addr) (kb:ClassId),Fld Z h a1 "java/lang/String" "value" "[B" (.ref b) ∧ Arv Z h b kb .byte (0:Int32) [] (.int 0)
theorem own_noW {s:State} : s.Since s.vm 0 := (State.WarmedH.refl s).since 0
theorem r3e (l:Launch) (Z:State) (a0:Array Value) (hw:zH Z a0) (hwS:∀ d ∈ Bundle.stringAtoms,d.before a0 Z = true) (hEL:EW Z a0 own_EL) (ws:List Jvm.Cond) (a1:Addr) (a2:Addr) (h0:Heap) (n0:Nat) (Z0:n0 ≤ h0.size) (E_a1:Exa Z h0 a1 "java/lang/String") (Fv_a1:Fld Z h0 a1 "java/lang/String" "value" "[B" .null) (Fc_a1:Fld Z h0 a1 "java/lang/String" "coder" "B" (.int 0)) (g_a1:n0 ≤ a1) :
   MetFree l y_37 (head1 (Jvm.Cond.code y_37 jdk_42_method_149_code 6 none :: ws) (zr 1 2 4 12)) (fun a U => a = #[.ref a1,.ref a2,.int 0,.int 0,.null] ∧ Z.Warmed39 U.vm ∧ U.heap = h0 ∧ CHv Z own_EL U.vm h0) (fun _ _ _ _ _ => True) (fun _ U o U' => ∃ v L,o = .returned v ∧ QE Z a1 h0 n0 v U'.heap L ∧ CHr Z own_EL U.vm U.heap U'.vm U'.heap ∧ ReturnedEndW U o U' L (zr 1 2 4 12).cells (zr 1 2 4 12).slots) := by
 refine MetFree.of_bodySF (plainFor_of_name pn_7) hisR ?_
 intro p e s m args below meth c s₁ Bd hml0 hP hK
 obtain ⟨rfl,hZ,hh,hC⟩ := hP
 have hx := Bd.exec
 have D := D3 Bd.bytes
 have hml : c.maxLocals = 6 := hml0
 have hown : s.vm.findClass "java/lang/String" = some m.cls := findClass_of_methodNamed Bd.named
 have hnm := (name_of_methodNamed Bd.named Bd.method).1
 have X0 : Stand p l e (zr 1 2 4 12) s m #[.ref a1,.ref a2,.int 0,.int 0,.null] below meth c s₁ [] 0 0 := Stand.of_body Bd
 have e0 : s₁.heap = h0 := by rw [← hh,Bd.state]; rfl
 have N0 := Fr.nil n0
 have pre0 := zP p e below s₁ (ef_3 m a1 a2 0 0)
 obtain ⟨T6,X6,e6,st6⟩ := initO X0 hx hZ hown (zW hw 15 rfl) (zW hw 16 rfl) (zW hw 17 rfl) e0 (g:=(mkF m 1 #[vr a1,vr a2,vi 0,vi 0,.val .null,.unset] [.ref a1])) rfl (by rw [hml]; rfl) rfl (D 1 rfl) (by decide) (W:=0) (Nat.le_of_eq rfl) (by decide)
 obtain ⟨a,T7,h7,k1,b,kb,X7,e7,E7,S7,hk7,hZ7,hown7,Ea,Fc,Fv,Va,la,lb,C7,L7,hs7,st7⟩ := ldcCH (s:=s) (vm0 := s.vm) (EL:=own_EL) X6 hx hZ hown (zW hw 18 rfl) hwS e6 (k0 := 0) own_noW (Nat.zero_le _) hEL (by decide) hC (vs:=[]) (z:=0) ⟨(fun c hc => by cases hc),rfl⟩ (by decide) rfl (g:=(mkF m 9 #[vr a1,vr a2,vi 0,vi 0,.val .null,.unset] [.ref a1])) rfl (D 21 rfl) (n:=0) (Nat.le_refl _) (by decide) (by decide) (by decide)
 have hne : a1 ≠ a := own_fld_ne (Fv_a1.ext E7) Fv (fun q => by cases q)
 have sa7 : Safe Z own_EL T7.vm h7 a1 := own_safe hZ7.alike (E_a1.ext E7) (Fv_a1.ext E7)
 obtain ⟨cb,Ab,-⟩ := id Va
 have hneb : b ≠ a1 := fun q => ne_arr (E_a1.ext E7) (zW hw 6 rfl) Ab q.symm
 obtain ⟨T8,X8,e8,st8⟩ := getF X7 hx hZ7 hown7 (host:="") (Or.inl (zW hw 24 rfl)) Via.refl e7 Fv (g:=(mkF m 11 #[vr a1,vr a2,vi 0,vi 0,.val .null,.unset] [.ref a,.ref a1])) rfl rfl (D 22 rfl)
 obtain ⟨T9,h9,X9,e9,W9,st9⟩ := putF X8 hx hZ7 hown7 (host:="") (Or.inl (zW hw 24 rfl)) Via.refl e8 (Fv_a1.ext E7) (E_a1.ext E7) (Or.inr ⟨(zW hw 20 rfl),rfl,hnm⟩) (zW hw 6 rfl) (ty:=(.array .byte)) (by decide) rfl rfl (g:=(mkF m 14 #[vr a1,vr a2,vi 0,vi 0,.val .null,.unset] [.ref b,.ref a1])) rfl rfl (D 23 rfl)
 have N9 := Fr.snoc X9 N0 g_a1
 have Fc9 := Fc.other W9 (Or.inl hne.symm)
 have SN : Jvm.RoadKit.slotOf Z "java/lang/String" "coder" "B" ≠ Jvm.RoadKit.slotOf Z "java/lang/String" "value" "[B" := slot_ne (C:="java/lang/String") (Or.inr (zW hw 21 rfl)) (Or.inr (zW hw 20 rfl)) (by decide) (t:=.byte) (t':=(.array .byte)) (by decide) (by decide)
 obtain ⟨T10,X10,e10,st10⟩ := getF X9 hx hZ7 hown7 (host:="") (Or.inl (zW hw 25 rfl)) Via.refl e9 Fc9 (g:=(mkF m 20 #[vr a1,vr a2,vi 0,vi 0,.val .null,.unset] [.ref a,.ref a1])) rfl rfl (D 26 rfl)
 obtain ⟨T11,h11,X11,e11,W11,st11⟩ := putFN X10 hx hZ7 hown7 (zW hw 25 rfl) Via.refl e10 ((Fc_a1.ext E7).other W9 (Or.inr SN)) ((E_a1.ext E7).wr W9) (Or.inr ⟨(zW hw 21 rfl),rfl,hnm⟩) (zW hw 6 rfl) (ty:=.byte) (v':=(.int 0)) (by decide) rfl (by decide) (g:=(mkF m 23 #[vr a1,vr a2,vi 0,vi 0,.val .null,.unset] [.int 0,.ref a1])) rfl rfl (D 27 rfl)
 have N11 := Fr.snoc X11 N9 g_a1
 have C9 := C7.trans (CHr.wr W9 sa7 C7.1)
 have C11 := C9.trans (CHr.wr W11 (Safe.wr W9 sa7 C7.1 sa7) C9.1)
 have K11 : Keep h0 h11 [a1] := (((Keep.refl h0 [a1]).ext E7).wr W9 (Or.inl (List.mem_of_getElem? (i:=0) rfl))).wr W11 (Or.inl (List.mem_of_getElem? (i:=0) rfl))
 have CT := C11.trans (CHv.at X11 hZ7 hEL C11.1)
 obtain ⟨fs,hr,hrun,hended,hRW⟩ := X11.leaveW S7 (Nat.le_trans hk7 (by rw [e11]; exact Nat.le_trans (Keep.of_wr W9).1 (Keep.of_wr W11).1)) (v:=none) (fun _ => rfl)
 refine ⟨_,_,pre0 _ ?_,hrun,hended,_,_,rfl,?_,?_,hRW⟩
 · refine aN X0.here hx rfl (D 0 rfl) rfl rfl (st6 _ (iN X6.here hx rfl (D 2 rfl) rfl (fN X6.here hx rfl (D 3 rfl) rfl ((if0 _ _).trans (teq rfl).2) ?_)))
   refine aN X6.here hx rfl (D 20 rfl) rfl rfl (st7 _ (st8 _ (st9 _ ?_)))
   refine aN X9.here hx rfl (D 24 rfl) rfl rfl (ldcAgain (s:=s) (vm0 := T7.vm) X9 hx hZ7 hown7 (zW hw 18 rfl) L7 (g:=(mkF m 18 #[vr a1,vr a2,vi 0,vi 0,.val .null,.unset] [.ref a1])) rfl (D 25 rfl) _ (st10 _ (st11 _ ?_)))
   exact X11.returnOut hx Bd.returns (D 28 rfl) hr
 · show QE Z a1 h0 n0 _ T11.heap _
   rw [e11]
   refine ⟨rfl,N11,K11,((E_a1.ext E7).wr W9).wr W11,((Fc_a1.ext E7).other W9 (Or.inr SN)).same W11,b,kb,((Fv_a1.ext E7).same W9).other W11 (Or.inr SN.symm),(Va.other W9 hneb).other W11 hneb⟩
 · show CHr Z own_EL s.vm s.heap T11.vm T11.heap
   rw [hh,e11]
   exact CT
theorem r2e (l:Launch) (Z:State) (a0:Array Value) (hw:zH Z a0) (hwS:∀ d ∈ Bundle.stringAtoms,d.before a0 Z = true) (hEL:EW Z a0 own_EL) (ws:List Jvm.Cond) (a1:Addr) (a2:Addr) (cl:Cell) (h0:Heap) (n0:Nat) (Z0:n0 ≤ h0.size) (Ar:Arr Z h0 a2 cl .char) (hS0:cl.slots.size = (0:Int32).toNatClampNeg) (E_a1:Exa Z h0 a1 "java/lang/String") (Fv_a1:Fld Z h0 a1 "java/lang/String" "value" "[B" .null) (Fc_a1:Fld Z h0 a1 "java/lang/String" "coder" "B" (.int 0)) (g_a1:n0 ≤ a1) :
   MetFree l y_13 (head1 (Jvm.Cond.code y_13 jdk_42_method_3_code 2 none :: ws) (zr 2 2 4 29)) (fun a U => a = #[.ref a1,.ref a2] ∧ Z.Warmed39 U.vm ∧ U.heap = h0 ∧ CHv Z own_EL U.vm h0) (fun _ _ _ _ _ => True) (fun _ U o U' => ∃ v L,o = .returned v ∧ QE Z a1 h0 n0 v U'.heap L ∧ CHr Z own_EL U.vm U.heap U'.vm U'.heap ∧ ReturnedEndW U o U' L (zr 2 2 4 29).cells (zr 2 2 4 29).slots) := by
 refine MetFree.of_bodySF (plainFor_of_name pn_7) hisR ?_
 intro p e s m args below meth c s₁ Bd hml0 hP hK
 obtain ⟨rfl,hZ,hh,hC⟩ := hP
 have hx := Bd.exec
 have D := D2 Bd.bytes
 have hml : c.maxLocals = 2 := hml0
 have hown : s.vm.findClass "java/lang/String" = some m.cls := findClass_of_methodNamed Bd.named
 have X0 : Stand p l e (zr 2 2 4 29) s m #[.ref a1,.ref a2] below meth c s₁ [] 0 0 := Stand.of_body Bd
 have e0 : s₁.heap = h0 := by rw [← hh,Bd.state]; rfl
 have N0 := Fr.nil n0
 have pre0 := zP p e below s₁ (ef_2 m a1 a2)
 obtain ⟨_,_,⟨T3,L3,k3,n3⟩,-,X3,S3,hz3,⟨Lc3,hQ3,l3,y3,z3,C3⟩,st3⟩ := X0.specialBackS (s:=s) hx (y:=y_37) rfl hown (zT hZ hw 11 rfl) (zT hZ hw 12 rfl) (zT hZ hw 14 rfl) (by decide) (backOfSH (s:=s) (vm0 := s.vm) (W:=0) (r3e l Z a0 hw hwS hEL [] a1 a2 h0 n0 Z0 E_a1 Fv_a1 Fc_a1 g_a1) hZ (zW hw 14 rfl) (zW hw 7 rfl) (by decide) (by decide) hEL hC) (g:=(mkF m 6 #[vr a1,vr a2] [.null,.int 0,.int 0,.ref a2,.ref a1])) rfl (by rw [hml]; rfl) (Steps.refl _) (a:=a1) (argsL:=[.ref a2,.int 0,.int 0,.null]) (rest:=[]) (lenOf pd_2_2 rfl) rfl (Nat.le_of_eq rfl) (D 6 rfl) (fun _ _ => ⟨rfl,e0,(by decide:0 + 2 ≤ _),(by decide:0 + 4 ≤ _)⟩)
 dsimp only [Pt.U,Pt.locs,Pt.cells,Pt.slots] at X3 S3 hz3 C3 l3 y3 z3 st3 hQ3
 subst l3 y3 z3
 obtain ⟨rfl,N3q,K3,E3,Fc3,Fb3⟩ := hQ3
 have N3 := Fr.app N0 N3q
 obtain ⟨fs,hr,hrun,hended,hRW⟩ := X3.leaveW S3 (Nat.le_refl _) (v:=none) (fun _ => rfl)
 refine ⟨_,_,pre0 _ ?_,hrun,hended,_,_,rfl,?_,?_,hRW⟩
 · refine aN X0.here hx rfl (D 0 rfl) rfl rfl (aN X0.here hx rfl (D 1 rfl) rfl rfl (iC X0.here hx rfl (D 2 rfl) (aN X0.here hx rfl (D 3 rfl) rfl rfl ?_)))
   refine X0.arraylength hx (by rw [e0]; exact Ar.1) (State.isArrayOf_alike hZ.alike Ar.2.1) (g:=(mkF m 4 #[vr a1,vr a2] [.ref a2,.int 0,.ref a2,.ref a1])) rfl rfl (D 4 rfl) _ ?_
   rw [len_of hS0 (by decide)]
   refine XS.aconstNull X0.here hx rfl (D 5 rfl) (st3.trans ?_)
   exact X3.returnOut hx Bd.returns (D 7 rfl) hr
 · show QE Z a1 h0 n0 _ T3.heap _
   exact ⟨rfl,N3,K3,E3,Fc3,Fb3⟩
 · show CHr Z own_EL s.vm s.heap T3.vm T3.heap
   rw [hh]
   exact C3
theorem own_tl56 : "character".toList = ['c','h','a','r','a','c','t','e','r'] := by decide +kernel
abbrev own_L56 : List Int32 := ([99,104,97,114,97,99,116,101,114] : List Int32)
theorem own_tx56 : (∀ c ∈ "character".toList,c.toNat < 256) ∧ "character".toList.map (fun c => Value.int (Jvm.Lit.byteI c.toNat.toUInt16)) = own_by own_L56 := by
 rw [own_tl56]
 exact ⟨by decide,by decide +kernel⟩
theorem own_lw56 : own_wd own_L56 = false := by decide
theorem own_lc56 : own_C own_L56 := by
 intro c hc
 revert c
 decide
theorem own_tl65 : " more ".toList = [' ','m','o','r','e',' '] := by decide +kernel
abbrev own_L65 : List Int32 := ([32,109,111,114,101,32] : List Int32)
theorem own_tx65 : (∀ c ∈ " more ".toList,c.toNat < 256) ∧ " more ".toList.map (fun c => Value.int (Jvm.Lit.byteI c.toNat.toUInt16)) = own_by own_L65 := by
 rw [own_tl65]
 exact ⟨by decide,by decide +kernel⟩
theorem own_lw65 : own_wd own_L65 = false := by decide
theorem own_lc65 : own_C own_L65 := by
 intro c hc
 revert c
 decide
theorem own_tl70 : ")".toList = [')'] := by decide +kernel
abbrev own_L70 : List Int32 := ([41] : List Int32)
theorem own_tx70 : (∀ c ∈ ")".toList,c.toNat < 256) ∧ ")".toList.map (fun c => Value.int (Jvm.Lit.byteI c.toNat.toUInt16)) = own_by own_L70 := by
 rw [own_tl70]
 exact ⟨by decide,by decide +kernel⟩
theorem own_lw70 : own_wd own_L70 = false := by decide
theorem own_lc70 : own_C own_L70 := by
 intro c hc
 revert c
 decide
theorem own_tl72 : "s)".toList = ['s',')'] := by decide +kernel
abbrev own_L72 : List Int32 := ([115,41] : List Int32)
theorem own_tx72 : (∀ c ∈ "s)".toList,c.toNat < 256) ∧ "s)".toList.map (fun c => Value.int (Jvm.Lit.byteI c.toNat.toUInt16)) = own_by own_L72 := by
 rw [own_tl72]
 exact ⟨by decide,by decide +kernel⟩
theorem own_lw72 : own_wd own_L72 = false := by decide
theorem own_lc72 : own_C own_L72 := by
 intro c hc
 revert c
 decide
theorem own_EL9 {Z:State} {a0:Array Value} (hw:zH Z a0) : ∀ p ∈ own_EL,∃ text : String,(Cond.stringLink p.1 p.2 text).before a0 Z = true ∧ (∀ c ∈ text.toList,c.toNat < 256) ∧ text.toList.length ≤ 9 := by
 intro p hp
 simp only [List.mem_cons,List.not_mem_nil,or_false] at hp
 rcases hp with rfl | rfl | rfl | rfl | rfl
 · exact ⟨_,(zW hw 156 rfl),own_tx56.1,by rw [own_tl56]; decide⟩
 · exact ⟨_,(zW hw 189 rfl),own_tx65.1,by rw [own_tl65]; decide⟩
 · exact ⟨_,(zW hw 217 rfl),own_tx70.1,by rw [own_tl70]; decide⟩
 · exact ⟨_,(zW hw 270 rfl),own_tx72.1,by rw [own_tl72]; decide⟩
 · exact ⟨_,(zW hw 18 rfl),(fun c hc => by cases hc),Nat.zero_le _⟩
theorem own_EW {Z:State} {a0:Array Value} (hw:zH Z a0) : EW Z a0 own_EL := fun p hp => by
 obtain ⟨t,h1,h2,-⟩ := own_EL9 hw p hp
 exact ⟨t,h1,h2⟩
theorem own_safeA {Z:State} {vm:Vm} {h:Heap} {t:Addr} {k:ClassId} {c:Nat} {vs:List Value} {d:Value} {a0:Array Value} (hw:zH Z a0) (hZ:Z.Warmed39 vm) (F:Arv Z h t k .byte (I c) vs d) (hc:20 ≤ c) (hc9:c < 1000) : Safe Z own_EL vm h t := fun B => by
 obtain ⟨p,hp,u,a,hb,q,hqa,F',hy⟩ := B
 obtain ⟨cl,Ar,-,S,-⟩ := F
 obtain ⟨text,w,ht,hlen⟩ := own_EL9 hw p hp
 obtain ⟨c',k',cf,i,h1,h2,h3,h4,h5,-⟩ := hb
 have w' : (Cond.stringLink p.1 p.2 text).before a0 (Wst Z vm h) = true := mvS (s:={ Z with heap := h }) hZ w
 obtain ⟨k0,cf0,i0,units,hk,hcf,hp0,hu0,-,htext,-⟩ := Cond.stringLink_spec (s:=Wst Z vm h) h1 w'
 cases h2.symm.trans hk
 cases h3.symm.trans hcf
 cases h4.symm.trans hp0
 cases h5.symm.trans hu0
 have hu : u.size ≤ 9 := by
   have := congrArg List.length (Jvm.ClassFile.units_of_text htext ht)
   simp at this
   omega
 rcases hy with rfl | rfl
 · cases (show h[q.sa]? = some q.sC from F'.ha).symm.trans Ar.1
   obtain ⟨-,⟨-,kA,hkA,compA,hkindA⟩,-⟩ := Ar
   obtain ⟨kA',hkA',ekA⟩ := hZ.alike.2.2 _ _ hkA
   obtain ⟨cS,⟨-,-,e⟩,⟨kS,g1,g2,-⟩,-⟩ := F'
   subst e
   cases (show vm.classes[q.sC.cls]? = some kS from g1).symm.trans hkA'
   rw [ekA] at g2
   have := hkindA.symm.trans g2
   cases this
 · cases (show h[q.sd]? = some q.SA from F'.hd).symm.trans Ar.1
   obtain ⟨cS,-,-,-,e⟩ := F'
   have h8 := Jvm.stringBytes_size_le u
   rw [← e,S,own_cl c (by omega)] at h8
   omega
theorem own_safeB {Z:State} {vm:Vm} {h:Heap} {b t:Addr} {w:Bool} {cs:List Int32} {a0:Array Value} (hw:zH Z a0) (hZ:Z.Warmed39 vm) (SB:own_SB Z h b w cs t) : Safe Z own_EL vm h t := by
 obtain ⟨-,-,-,-,-,kd,vd,B,-⟩ := SB
 cases w
 · exact own_safeA hw hZ B (by decide) (by decide)
 · exact own_safeA hw hZ B (by decide) (by decide)
def own_NE (Z:State) (h:Heap) (o t0:Addr) : Prop := ∀ t,Fld Z h o "java/lang/String" "value" "[B" (.ref t) → t ≠ t0
def own_Sn (Z:State) (h:Heap) (o:Addr) (w:Bool) (xs:List Int32) (t0:Addr) : Prop := own_Str Z h o w xs ∧ own_NE Z h o t0
theorem own_Sn.op {Z:State} {h h':Heap} {o b t t':Addr} {v w:Bool} {xs cs:List Int32} {a0:Array Value} (hw:zH Z a0) (T:own_Sn Z h o v xs t) (K:Keep h h' [b,t]) (SB:own_SB Z h b w cs t) (ht:t' = t ∨ h.size ≤ t') : own_Sn Z h' o v xs t' := by
 obtain ⟨S,NE⟩ := T
 have S' := S.keep2 K SB (zW hw 59 rfl) (zW hw 6 rfl) NE
 refine ⟨S',fun x F => ?_⟩
 obtain ⟨E,-,tv,k,FV,V⟩ := S
 obtain ⟨EB,-,-,-,-,kd,vd,B,-⟩ := SB
 have h1 : o ≠ b := Exa.ne E EB (by decide)
 have h3 : o ≠ t := Exa.neArv E B (zW hw 6 rfl)
 have e := own_fld_uniq F (FV.keep K (ninS h1 (ninS h3 nin0)))
 cases e
 rcases ht with rfl | ht
 · exact NE _ FV
 · exact Nat.ne_of_lt (Nat.lt_of_lt_of_le V.lt ht)
theorem own_Sn.ext {Z:State} {h h':Heap} {o t:Addr} {v:Bool} {xs:List Int32} (T:own_Sn Z h o v xs t) (E:Ext h h') : own_Sn Z h' o v xs t := by
 obtain ⟨S,NE⟩ := T
 refine ⟨S.keep0 ((Keep.refl h []).ext E),fun x F => ?_⟩
 obtain ⟨-,-,tv,k,FV,V⟩ := S
 cases own_fld_uniq F (FV.ext E)
 exact NE _ FV
def own_J (Z:State) (h0:Heap) (n0:Nat) (b t0:Addr) (h:Heap) (w:Bool) (cs:List Int32) (t:Addr) : Prop := own_SB Z h b w cs t ∧ n0 ≤ t ∧ Keep h0 h [b,t0] ∧ (t = t0 ∨ h0.size ≤ t) ∧ Old Z n0 h ∧ n0 ≤ h.size
theorem own_J.start {Z:State} {h0:Heap} {n0:Nat} {b t0:Addr} {w:Bool} {cs:List Int32} (SB:own_SB Z h0 b w cs t0) (g:n0 ≤ t0) (O:Old Z n0 h0) (Z0:n0 ≤ h0.size) : own_J Z h0 n0 b t0 h0 w cs t0 := ⟨SB,g,Keep.refl _ _,Or.inl rfl,O,Z0⟩
theorem own_J.ext {Z:State} {h0 h h':Heap} {n0:Nat} {b t0 t:Addr} {w:Bool} {cs:List Int32} (J:own_J Z h0 n0 b t0 h w cs t) (E:Ext h h') : own_J Z h0 n0 b t0 h' w cs t := by
 obtain ⟨SB,g,K,ht,O,z⟩ := J
 exact ⟨SB.keep0 ((Keep.refl h []).ext E),g,K.ext E,ht,O.ext E,Nat.le_trans z E.1⟩
theorem own_J.op {Z:State} {h0 h h':Heap} {n0:Nat} {b t0 t:Addr} {w w':Bool} {cs cs':List Int32} (J:own_J Z h0 n0 b t0 h w cs t) (g_b:n0 ≤ b) (St:own_St Z h b t h' w' cs') : ∃ t' : Addr,own_J Z h0 n0 b t0 h' w' cs' t' ∧ (t' = t ∨ h.size ≤ t') ∧ Keep h h' [b,t] := by
 obtain ⟨SB,g,K,ht,O,z⟩ := J
 obtain ⟨K',t',SB',ht'⟩ := St
 refine ⟨t',⟨SB',?_,K.trans K' (allS (Or.inl (List.mem_of_getElem? (i:=0) rfl)) (allS (own_t_in ht) all0)),?_,O.keep K' (allS g_b (allS g all0)),Nat.le_trans z K'.1⟩,ht',K'⟩
 · exact own_t_ge z g ht'
 · rcases ht' with rfl | q
   · exact ht
   · exact Or.inr (Nat.le_trans K.1 q)
theorem own_CHop {Z:State} {vm0 vm:Vm} {h0 h h':Heap} {b t:Addr} {w:Bool} {cs:List Int32} {a0:Array Value} (hw:zH Z a0) (C:CHr Z own_EL vm0 h0 vm h) (hZ:Z.Warmed39 vm) (K:Keep h h' [b,t]) (SB:own_SB Z h b w cs t) : CHr Z own_EL vm0 h0 vm h' :=
 C.trans (CHr.keep K (allS (Safe.exa hZ.alike SB.1 (by decide) (by decide)) (allS (own_safeB hw hZ SB) all0)) C.1)
theorem own_pdS : parseMethodDescriptor "(Ljava/lang/String;)Ljava/lang/StringBuilder;" = some ⟨[.object "java/lang/String"],some (.object "java/lang/StringBuilder")⟩ := by decide +kernel
theorem own_pdC : parseMethodDescriptor "(C)Ljava/lang/StringBuilder;" = some ⟨[.char],some (.object "java/lang/StringBuilder")⟩ := by decide +kernel
theorem own_pdI : parseMethodDescriptor "(I)Ljava/lang/StringBuilder;" = some ⟨[.int],some (.object "java/lang/StringBuilder")⟩ := by decide +kernel
theorem own_dgl {p:Int32} (hp:own_cnt p) : (own_dg p).length ≤ 3 := by rcases hp with rfl | rfl | rfl | rfl | rfl | rfl | rfl <;> decide
def QS (Z:State) (b t0:Addr) (w:Bool) (cs:List Int32) (h0:Heap) (n0:Nat) (v:Option Value) (h:Heap) (L:List Loc) : Prop := v = none ∧ Fr n0 L ∧ Keep h0 h [b,t0] ∧ ∃ t' : Addr,own_SB Z h b w cs t' ∧ (t' = t0 ∨ h0.size ≤ t') ∧ n0 ≤ t'
def own_suf (p:Int32) : List Int32 := [(40:Int32)] ++ (own_dg p ++ (own_L65 ++ (own_L56 ++ (if p = 1 then own_L70 else own_L72))))
def l28 : zl := [(0,.aload_n 0,1),(1,.bipush 40,2),(3,.invokevirtual 46,3),(6,.iload_n 1,1),(7,.invokevirtual 62,3),(10,.ldc 65,2),(12,.invokevirtual 67,3),(15,.aload_n 2,1),(16,.invokevirtual 67,3),(19,.pop,1),(20,.aload_n 0,1),(21,.iload_n 1,1),(22,.iconst 1,1),(23,.if_icmp .ne 8,3),(26,.ldc 70,2),(28,.goto 5,3),(31,.ldc 72,2),(33,.invokevirtual 67,3),(36,.pop,1),(37,.return_,1)]
theorem D28 : zq prog_4_method_5_code l28 := zd (by decide +kernel)
theorem pn_28 : plainName "com/example/dolmetsch/dolmetsch/BriefText" = true := by first | (simp [plainName,overriddenIn]; done) | decide +kernel
theorem r28_1 (l:Launch) (Z:State) (a0:Array Value) (hw:zH Z a0) (hwS:∀ d ∈ Bundle.stringAtoms,d.before a0 Z = true) (ws:List Jvm.Cond) (a1:Addr) (p2:Int32) (a3:Addr) (t0:Addr) (w:Bool) (cs:List Int32) (h0:Heap) (n0:Nat) (Z0:n0 ≤ h0.size) (SB:own_SB Z h0 a1 w cs t0) (g_b:n0 ≤ a1) (g_t0:n0 ≤ t0) (O:Old Z n0 h0) (SWz:own_SW Z Z.heap) (DT:own_DT Z) (hcnt:own_cnt p2) (Sun:own_Sn Z h0 a3 false own_L56 t0) (hl0:cs.length ≤ 64) (h1:p2 = 1) :
   MetFree l y_21 (head1 (Jvm.Cond.code y_21 prog_4_method_5_code 3 none :: ws) (zr 9 4 40 134)) (fun a U => a = #[.ref a1,.int p2,.ref a3] ∧ Z.Warmed39 U.vm ∧ U.heap = h0 ∧ CHv Z own_EL U.vm h0) (fun _ _ _ _ _ => True) (fun _ U o U' => ∃ v L,o = .returned v ∧ QS Z a1 t0 w (cs ++ own_suf p2) h0 n0 v U'.heap L ∧ CHr Z own_EL U.vm U.heap U'.vm U'.heap ∧ ReturnedEndW U o U' L (zr 9 4 40 134).cells (zr 9 4 40 134).slots) := by
 refine MetFree.of_bodySF (plainFor_of_name pn_28) hisR ?_
 intro p e s m args below meth c s₁ Bd hml0 hP hK
 obtain ⟨rfl,hZ,hh,hC⟩ := hP
 have hx := Bd.exec
 have D := D28 Bd.bytes
 have hml : c.maxLocals = 3 := hml0
 have hown : s.vm.findClass "com/example/dolmetsch/dolmetsch/BriefText" = some m.cls := findClass_of_methodNamed Bd.named
 have X0 : Stand p l e (zr 9 4 40 134) s m #[.ref a1,.int p2,.ref a3] below meth c s₁ [] 0 0 := Stand.of_body Bd
 have e0 : s₁.heap = h0 := by rw [← hh,Bd.state]; rfl
 have N0 := Fr.nil n0
 have pre0 := zP p e below s₁ (ef_38 m a1 p2 a3)
 have hEL := own_EW hw
 have J0 := own_J.start SB g_t0 O Z0
 have C0 := CHr.refl hC
 obtain ⟨cq11,kq11,q11a,q11b,q11c⟩ := isOf hZ e0 J0.1.1
 obtain ⟨_,T11,Lc11,X11,hQ11,st11⟩ := zU X0 hx hZ hown (zW hw 160 rfl) (zW hw 161 rfl) (zW hw 163 rfl) (zW hw 162 rfl) (by decide) (backOf (W:=0) (r29 l Z a0 hw [] a1 (40:Int32) t0 w cs h0 n0 J0.2.2.2.2.2 J0.1 g_b J0.2.1 J0.2.2.2.2.1 SWz (by decide) (by omega)) hZ (zW hw 164 rfl) (zW hw 60 rfl) (by decide) (by decide)) q11a q11c (g:=(mkF m 3 #[vr a1,vi p2,vr a3] [.int 40,.ref a1])) rfl (by rw [hml]; rfl) (argsL:=[.int 40]) (rest:=[]) (lenOf own_pdC rfl) rfl (Nat.le_of_eq rfl) (D 2 rfl) rfl e0 (by show 0 + 0 ≤ 4; decide) (by show 0 + 0 ≤ 40; decide)
 obtain ⟨rfl,Nq11,St11⟩ := hQ11
 have N11 := Fr.app N0 Nq11
 obtain ⟨t11,J11,ht11,K11⟩ := J0.op g_b St11
 have hl11 : (cs ++ [(40:Int32)]).length ≤ 65 := by rw [List.length_append]; show _ + 1 ≤ _; omega
 have CC11 := own_CHop hw C0 hZ K11 J0.1
 have Sun11 := own_Sn.op hw Sun K11 J0.1 ht11
 obtain ⟨cq12,kq12,q12a,q12b,q12c⟩ := isOf hZ rfl J11.1.1
 obtain ⟨_,T12,Lc12,X12,hQ12,st12⟩ := zU X11 hx hZ hown (zW hw 172 rfl) (zW hw 173 rfl) (zW hw 175 rfl) (zW hw 174 rfl) (by decide) (backOf (W:=0) (r32 l Z a0 hw [] a1 p2 t11 w _ T11.heap n0 J11.2.2.2.2.2 J11.1 g_b J11.2.1 J11.2.2.2.2.1 SWz DT hcnt (by omega)) hZ (zW hw 176 rfl) (zW hw 60 rfl) (by decide) (by decide)) q12a q12c (g:=(mkF m 7 #[vr a1,vi p2,vr a3] [.int p2,.ref a1])) rfl (by rw [hml]; rfl) (argsL:=[.int p2]) (rest:=[]) (lenOf own_pdI rfl) rfl (Nat.le_of_eq rfl) (D 4 rfl) rfl rfl (by show 0 + 0 ≤ 4; decide) (by show 0 + 0 ≤ 40; decide)
 obtain ⟨rfl,Nq12,St12⟩ := hQ12
 have N12 := Fr.app N11 Nq12
 obtain ⟨t12,J12,ht12,K12⟩ := J11.op g_b St12
 have hl12 : ((cs ++ [(40:Int32)]) ++ own_dg p2).length ≤ 68 := by rw [List.length_append]; have := own_dgl hcnt; omega
 have CC12 := own_CHop hw CC11 hZ K12 J11.1
 have Sun12 := own_Sn.op hw Sun11 K12 J11.1 ht12
 obtain ⟨a13,T13,h13,k13,bb13,kb13,X13,e13,E13,S13,hk13,hZ13,hown13,Ea13,Fc13,Fv13,Va13,la13,lb13,C13,L13,hs13,st13⟩ := ldcCH (s:=s) (vm0 := s.vm) (EL:=own_EL) X12 hx hZ hown (zW hw 189 rfl) hwS rfl (k0 := 0) own_noW (Nat.le_trans (Nat.le_trans (Nat.zero_le _) K11.1) K12.1) hEL (by decide) CC12.1 (vs:=own_by own_L65) (z:=I 6) own_tx65 (by decide) rfl (g:=(mkF m 10 #[vr a1,vi p2,vr a3] [.ref a1])) rfl (D 5 rfl) (n:=24) (by rw [own_tl65]; decide) (by decide) (by show 0 + 2 ≤ 4; decide) (by show 0 + 28 ≤ 40; decide)
 have J13 := J12.ext E13
 have CC13 := CC12.trans C13
 have Sf13 : Safe Z own_EL T13.vm h13 t12 := own_safeB hw hZ13 J13.1
 have Sn13 : own_Sn Z h13 a13 false own_L65 t12 := ⟨⟨Ea13,Fc13,bb13,kb13,Fv13,Va13⟩,fun x F => by cases own_fld_uniq F Fv13; exact (hs13 _ Sf13).2.symm⟩
 have Sun13 := Sun12.ext E13
 obtain ⟨cq14,kq14,q14a,q14b,q14c⟩ := isOf hZ13 e13 J13.1.1
 obtain ⟨_,T14,Lc14,X14,hQ14,st14⟩ := zU X13 hx hZ13 hown13 (zW hw 190 rfl) (zW hw 191 rfl) (zW hw 193 rfl) (zW hw 192 rfl) (by decide) (backOf (W:=0) (r36 l Z a0 hw [] a1 a13 t12 w _ own_L65 h13 n0 J13.2.2.2.2.2 J13.1 Sn13.1 own_lw65 own_lc65 g_b J13.2.1 J13.2.2.2.2.1 SWz Sn13.2 (by show _ + 6 ≤ _; omega)) hZ13 (zW hw 194 rfl) (zW hw 60 rfl) (by decide) (by decide)) q14a q14c (g:=(mkF m 12 #[vr a1,vi p2,vr a3] [.ref a13,.ref a1])) rfl (by rw [hml]; rfl) (argsL:=[.ref a13]) (rest:=[]) (lenOf own_pdS rfl) rfl (Nat.le_of_eq rfl) (D 6 rfl) rfl e13 (by show 2 + 0 ≤ 4; decide) (by show 28 + 0 ≤ 40; decide)
 obtain ⟨rfl,Nq14,St14⟩ := hQ14
 have N14 := Fr.app N12 Nq14
 obtain ⟨t14,J14,ht14,K14⟩ := J13.op g_b St14
 have hl14 : (((cs ++ [(40:Int32)]) ++ own_dg p2) ++ own_L65).length ≤ 74 := by rw [List.length_append]; show _ + 6 ≤ _; omega
 have CC14 := own_CHop hw CC13 hZ13 K14 J13.1
 have Sun14 := own_Sn.op hw Sun13 K14 J13.1 ht14
 obtain ⟨cq15,kq15,q15a,q15b,q15c⟩ := isOf hZ13 rfl J14.1.1
 obtain ⟨_,T15,Lc15,X15,hQ15,st15⟩ := zU X14 hx hZ13 hown13 (zW hw 190 rfl) (zW hw 191 rfl) (zW hw 193 rfl) (zW hw 192 rfl) (by decide) (backOf (W:=0) (r36 l Z a0 hw [] a1 a3 t14 w _ own_L56 T14.heap n0 J14.2.2.2.2.2 J14.1 Sun14.1 own_lw56 own_lc56 g_b J14.2.1 J14.2.2.2.2.1 SWz Sun14.2 (by show _ + 9 ≤ _; omega)) hZ13 (zW hw 194 rfl) (zW hw 60 rfl) (by decide) (by decide)) q15a q15c (g:=(mkF m 16 #[vr a1,vi p2,vr a3] [.ref a3,.ref a1])) rfl (by rw [hml]; rfl) (argsL:=[.ref a3]) (rest:=[]) (lenOf own_pdS rfl) rfl (Nat.le_of_eq rfl) (D 8 rfl) rfl rfl (by show 2 + 0 ≤ 4; decide) (by show 28 + 0 ≤ 40; decide)
 obtain ⟨rfl,Nq15,St15⟩ := hQ15
 have N15 := Fr.app N14 Nq15
 obtain ⟨t15,J15,ht15,K15⟩ := J14.op g_b St15
 have hl15 : ((((cs ++ [(40:Int32)]) ++ own_dg p2) ++ own_L65) ++ own_L56).length ≤ 83 := by rw [List.length_append]; show _ + 9 ≤ _; omega
 have CC15 := own_CHop hw CC14 hZ13 K15 J14.1
 have Sun15 := own_Sn.op hw Sun14 K15 J14.1 ht15
 obtain ⟨a16,T16,h16,k16,bb16,kb16,X16,e16,E16,S16,hk16,hZ16,hown16,Ea16,Fc16,Fv16,Va16,la16,lb16,C16,L16,hs16,st16⟩ := ldcCH (s:=s) (vm0 := T13.vm) (EL:=own_EL) X15 hx hZ13 hown13 (zW hw 217 rfl) hwS rfl S13 (Nat.le_trans (Nat.le_trans hk13 K14.1) K15.1) hEL (by decide) CC15.1 (vs:=own_by own_L70) (z:=I 1) own_tx70 (by decide) rfl (g:=(mkF m 26 #[vr a1,vi p2,vr a3] [.ref a1])) rfl (D 14 rfl) (n:=4) (by rw [own_tl70]; decide) (by decide) (by show 2 + 2 ≤ 4; decide) (by show 28 + 8 ≤ 40; decide)
 have J16 := J15.ext E16
 have CC16 := CC15.trans C16
 have Sf16 : Safe Z own_EL T16.vm h16 t15 := own_safeB hw hZ16 J16.1
 have Sn16 : own_Sn Z h16 a16 false own_L70 t15 := ⟨⟨Ea16,Fc16,bb16,kb16,Fv16,Va16⟩,fun x F => by cases own_fld_uniq F Fv16; exact (hs16 _ Sf16).2.symm⟩
 have Sun16 := Sun15.ext E16
 obtain ⟨cq17,kq17,q17a,q17b,q17c⟩ := isOf hZ16 e16 J16.1.1
 obtain ⟨_,T17,Lc17,X17,hQ17,st17⟩ := zU X16 hx hZ16 hown16 (zW hw 190 rfl) (zW hw 191 rfl) (zW hw 193 rfl) (zW hw 192 rfl) (by decide) (backOf (W:=0) (r36 l Z a0 hw [] a1 a16 t15 w _ own_L70 h16 n0 J16.2.2.2.2.2 J16.1 Sn16.1 own_lw70 own_lc70 g_b J16.2.1 J16.2.2.2.2.1 SWz Sn16.2 (by show _ + 1 ≤ _; omega)) hZ16 (zW hw 194 rfl) (zW hw 60 rfl) (by decide) (by decide)) q17a q17c (g:=(mkF m 33 #[vr a1,vi p2,vr a3] [.ref a16,.ref a1])) rfl (by rw [hml]; rfl) (argsL:=[.ref a16]) (rest:=[]) (lenOf own_pdS rfl) rfl (Nat.le_of_eq rfl) (D 17 rfl) rfl e16 (by show 4 + 0 ≤ 4; decide) (by show 36 + 0 ≤ 40; decide)
 obtain ⟨rfl,Nq17,St17⟩ := hQ17
 have N17 := Fr.app N15 Nq17
 obtain ⟨t17,J17,ht17,K17⟩ := J16.op g_b St17
 have hl17 : (((((cs ++ [(40:Int32)]) ++ own_dg p2) ++ own_L65) ++ own_L56) ++ own_L70).length ≤ 84 := by rw [List.length_append]; show _ + 1 ≤ _; omega
 have CC17 := own_CHop hw CC16 hZ16 K17 J16.1
 have Sun17 := own_Sn.op hw Sun16 K17 J16.1 ht17
 have CT := CC17.trans (CHv.at X17 hZ16 hEL CC17.1)
 obtain ⟨fs,hr,hrun,hended,hRW⟩ := X17.leaveW S16 (Nat.le_trans hk16 K17.1) (v:=none) (fun _ => rfl)
 have eqS : (((((cs ++ [(40:Int32)]) ++ own_dg p2) ++ own_L65) ++ own_L56) ++ own_L70) = cs ++ own_suf p2 := by unfold own_suf; rw [if_pos h1]; simp only [List.append_assoc]
 refine ⟨_,_,pre0 _ ?_,hrun,hended,_,_,rfl,?_,?_,⟨hRW.1,hRW.2.1,hRW.2.2.1,hRW.2.2.2.mono (by decide) (by decide)⟩⟩
 · refine aN X0.here hx rfl (D 0 rfl) rfl rfl (bP X0.here hx rfl (D 1 rfl) (st11.trans (iN X11.here hx rfl (D 3 rfl) rfl ?_)))
   refine st12.trans (st13 _ (st14.trans (aN X14.here hx rfl (D 7 rfl) rfl rfl ?_)))
   refine st15.trans (XS.pop X15.here hx rfl (D 9 rfl) rfl rfl (aN X15.here hx rfl (D 10 rfl) rfl rfl (iN X15.here hx rfl (D 11 rfl) rfl ?_)))
   refine iC X15.here hx rfl (D 12 rfl) (cN X15.here hx rfl (D 13 rfl) rfl (teq h1).2 (st16 _ (gT X16.here hx rfl (pc0 := 28) (pc':=33) rfl (D 15 rfl) (by decide) (by decide) ?_)))
   refine st17.trans (XS.pop X17.here hx rfl (D 18 rfl) rfl rfl ?_)
   exact X17.returnOut hx Bd.returns (D 19 rfl) hr
 · exact ⟨rfl,N17,J17.2.2.1,t17,by rw [← eqS]; exact J17.1,J17.2.2.2.1,J17.2.1⟩
 · show CHr Z own_EL s.vm s.heap T17.vm T17.heap
   rw [hh]
   exact CT
theorem r28_n (l:Launch) (Z:State) (a0:Array Value) (hw:zH Z a0) (hwS:∀ d ∈ Bundle.stringAtoms,d.before a0 Z = true) (ws:List Jvm.Cond) (a1:Addr) (p2:Int32) (a3:Addr) (t0:Addr) (w:Bool) (cs:List Int32) (h0:Heap) (n0:Nat) (Z0:n0 ≤ h0.size) (SB:own_SB Z h0 a1 w cs t0) (g_b:n0 ≤ a1) (g_t0:n0 ≤ t0) (O:Old Z n0 h0) (SWz:own_SW Z Z.heap) (DT:own_DT Z) (hcnt:own_cnt p2) (Sun:own_Sn Z h0 a3 false own_L56 t0) (hl0:cs.length ≤ 64) (h1:¬ p2 = 1) :
   MetFree l y_21 (head1 (Jvm.Cond.code y_21 prog_4_method_5_code 3 none :: ws) (zr 9 4 40 134)) (fun a U => a = #[.ref a1,.int p2,.ref a3] ∧ Z.Warmed39 U.vm ∧ U.heap = h0 ∧ CHv Z own_EL U.vm h0) (fun _ _ _ _ _ => True) (fun _ U o U' => ∃ v L,o = .returned v ∧ QS Z a1 t0 w (cs ++ own_suf p2) h0 n0 v U'.heap L ∧ CHr Z own_EL U.vm U.heap U'.vm U'.heap ∧ ReturnedEndW U o U' L (zr 9 4 40 134).cells (zr 9 4 40 134).slots) := by
 refine MetFree.of_bodySF (plainFor_of_name pn_28) hisR ?_
 intro p e s m args below meth c s₁ Bd hml0 hP hK
 obtain ⟨rfl,hZ,hh,hC⟩ := hP
 have hx := Bd.exec
 have D := D28 Bd.bytes
 have hml : c.maxLocals = 3 := hml0
 have hown : s.vm.findClass "com/example/dolmetsch/dolmetsch/BriefText" = some m.cls := findClass_of_methodNamed Bd.named
 have X0 : Stand p l e (zr 9 4 40 134) s m #[.ref a1,.int p2,.ref a3] below meth c s₁ [] 0 0 := Stand.of_body Bd
 have e0 : s₁.heap = h0 := by rw [← hh,Bd.state]; rfl
 have N0 := Fr.nil n0
 have pre0 := zP p e below s₁ (ef_38 m a1 p2 a3)
 have hEL := own_EW hw
 have J0 := own_J.start SB g_t0 O Z0
 have C0 := CHr.refl hC
 obtain ⟨cq11,kq11,q11a,q11b,q11c⟩ := isOf hZ e0 J0.1.1
 obtain ⟨_,T11,Lc11,X11,hQ11,st11⟩ := zU X0 hx hZ hown (zW hw 160 rfl) (zW hw 161 rfl) (zW hw 163 rfl) (zW hw 162 rfl) (by decide) (backOf (W:=0) (r29 l Z a0 hw [] a1 (40:Int32) t0 w cs h0 n0 J0.2.2.2.2.2 J0.1 g_b J0.2.1 J0.2.2.2.2.1 SWz (by decide) (by omega)) hZ (zW hw 164 rfl) (zW hw 60 rfl) (by decide) (by decide)) q11a q11c (g:=(mkF m 3 #[vr a1,vi p2,vr a3] [.int 40,.ref a1])) rfl (by rw [hml]; rfl) (argsL:=[.int 40]) (rest:=[]) (lenOf own_pdC rfl) rfl (Nat.le_of_eq rfl) (D 2 rfl) rfl e0 (by show 0 + 0 ≤ 4; decide) (by show 0 + 0 ≤ 40; decide)
 obtain ⟨rfl,Nq11,St11⟩ := hQ11
 have N11 := Fr.app N0 Nq11
 obtain ⟨t11,J11,ht11,K11⟩ := J0.op g_b St11
 have hl11 : (cs ++ [(40:Int32)]).length ≤ 65 := by rw [List.length_append]; show _ + 1 ≤ _; omega
 have CC11 := own_CHop hw C0 hZ K11 J0.1
 have Sun11 := own_Sn.op hw Sun K11 J0.1 ht11
 obtain ⟨cq12,kq12,q12a,q12b,q12c⟩ := isOf hZ rfl J11.1.1
 obtain ⟨_,T12,Lc12,X12,hQ12,st12⟩ := zU X11 hx hZ hown (zW hw 172 rfl) (zW hw 173 rfl) (zW hw 175 rfl) (zW hw 174 rfl) (by decide) (backOf (W:=0) (r32 l Z a0 hw [] a1 p2 t11 w _ T11.heap n0 J11.2.2.2.2.2 J11.1 g_b J11.2.1 J11.2.2.2.2.1 SWz DT hcnt (by omega)) hZ (zW hw 176 rfl) (zW hw 60 rfl) (by decide) (by decide)) q12a q12c (g:=(mkF m 7 #[vr a1,vi p2,vr a3] [.int p2,.ref a1])) rfl (by rw [hml]; rfl) (argsL:=[.int p2]) (rest:=[]) (lenOf own_pdI rfl) rfl (Nat.le_of_eq rfl) (D 4 rfl) rfl rfl (by show 0 + 0 ≤ 4; decide) (by show 0 + 0 ≤ 40; decide)
 obtain ⟨rfl,Nq12,St12⟩ := hQ12
 have N12 := Fr.app N11 Nq12
 obtain ⟨t12,J12,ht12,K12⟩ := J11.op g_b St12
 have hl12 : ((cs ++ [(40:Int32)]) ++ own_dg p2).length ≤ 68 := by rw [List.length_append]; have := own_dgl hcnt; omega
 have CC12 := own_CHop hw CC11 hZ K12 J11.1
 have Sun12 := own_Sn.op hw Sun11 K12 J11.1 ht12
 obtain ⟨a13,T13,h13,k13,bb13,kb13,X13,e13,E13,S13,hk13,hZ13,hown13,Ea13,Fc13,Fv13,Va13,la13,lb13,C13,L13,hs13,st13⟩ := ldcCH (s:=s) (vm0 := s.vm) (EL:=own_EL) X12 hx hZ hown (zW hw 189 rfl) hwS rfl (k0 := 0) own_noW (Nat.le_trans (Nat.le_trans (Nat.zero_le _) K11.1) K12.1) hEL (by decide) CC12.1 (vs:=own_by own_L65) (z:=I 6) own_tx65 (by decide) rfl (g:=(mkF m 10 #[vr a1,vi p2,vr a3] [.ref a1])) rfl (D 5 rfl) (n:=24) (by rw [own_tl65]; decide) (by decide) (by show 0 + 2 ≤ 4; decide) (by show 0 + 28 ≤ 40; decide)
 have J13 := J12.ext E13
 have CC13 := CC12.trans C13
 have Sf13 : Safe Z own_EL T13.vm h13 t12 := own_safeB hw hZ13 J13.1
 have Sn13 : own_Sn Z h13 a13 false own_L65 t12 := ⟨⟨Ea13,Fc13,bb13,kb13,Fv13,Va13⟩,fun x F => by cases own_fld_uniq F Fv13; exact (hs13 _ Sf13).2.symm⟩
 have Sun13 := Sun12.ext E13
 obtain ⟨cq14,kq14,q14a,q14b,q14c⟩ := isOf hZ13 e13 J13.1.1
 obtain ⟨_,T14,Lc14,X14,hQ14,st14⟩ := zU X13 hx hZ13 hown13 (zW hw 190 rfl) (zW hw 191 rfl) (zW hw 193 rfl) (zW hw 192 rfl) (by decide) (backOf (W:=0) (r36 l Z a0 hw [] a1 a13 t12 w _ own_L65 h13 n0 J13.2.2.2.2.2 J13.1 Sn13.1 own_lw65 own_lc65 g_b J13.2.1 J13.2.2.2.2.1 SWz Sn13.2 (by show _ + 6 ≤ _; omega)) hZ13 (zW hw 194 rfl) (zW hw 60 rfl) (by decide) (by decide)) q14a q14c (g:=(mkF m 12 #[vr a1,vi p2,vr a3] [.ref a13,.ref a1])) rfl (by rw [hml]; rfl) (argsL:=[.ref a13]) (rest:=[]) (lenOf own_pdS rfl) rfl (Nat.le_of_eq rfl) (D 6 rfl) rfl e13 (by show 2 + 0 ≤ 4; decide) (by show 28 + 0 ≤ 40; decide)
 obtain ⟨rfl,Nq14,St14⟩ := hQ14
 have N14 := Fr.app N12 Nq14
 obtain ⟨t14,J14,ht14,K14⟩ := J13.op g_b St14
 have hl14 : (((cs ++ [(40:Int32)]) ++ own_dg p2) ++ own_L65).length ≤ 74 := by rw [List.length_append]; show _ + 6 ≤ _; omega
 have CC14 := own_CHop hw CC13 hZ13 K14 J13.1
 have Sun14 := own_Sn.op hw Sun13 K14 J13.1 ht14
 obtain ⟨cq15,kq15,q15a,q15b,q15c⟩ := isOf hZ13 rfl J14.1.1
 obtain ⟨_,T15,Lc15,X15,hQ15,st15⟩ := zU X14 hx hZ13 hown13 (zW hw 190 rfl) (zW hw 191 rfl) (zW hw 193 rfl) (zW hw 192 rfl) (by decide) (backOf (W:=0) (r36 l Z a0 hw [] a1 a3 t14 w _ own_L56 T14.heap n0 J14.2.2.2.2.2 J14.1 Sun14.1 own_lw56 own_lc56 g_b J14.2.1 J14.2.2.2.2.1 SWz Sun14.2 (by show _ + 9 ≤ _; omega)) hZ13 (zW hw 194 rfl) (zW hw 60 rfl) (by decide) (by decide)) q15a q15c (g:=(mkF m 16 #[vr a1,vi p2,vr a3] [.ref a3,.ref a1])) rfl (by rw [hml]; rfl) (argsL:=[.ref a3]) (rest:=[]) (lenOf own_pdS rfl) rfl (Nat.le_of_eq rfl) (D 8 rfl) rfl rfl (by show 2 + 0 ≤ 4; decide) (by show 28 + 0 ≤ 40; decide)
 obtain ⟨rfl,Nq15,St15⟩ := hQ15
 have N15 := Fr.app N14 Nq15
 obtain ⟨t15,J15,ht15,K15⟩ := J14.op g_b St15
 have hl15 : ((((cs ++ [(40:Int32)]) ++ own_dg p2) ++ own_L65) ++ own_L56).length ≤ 83 := by rw [List.length_append]; show _ + 9 ≤ _; omega
 have CC15 := own_CHop hw CC14 hZ13 K15 J14.1
 have Sun15 := own_Sn.op hw Sun14 K15 J14.1 ht15
 obtain ⟨a16,T16,h16,k16,bb16,kb16,X16,e16,E16,S16,hk16,hZ16,hown16,Ea16,Fc16,Fv16,Va16,la16,lb16,C16,L16,hs16,st16⟩ := ldcCH (s:=s) (vm0 := T13.vm) (EL:=own_EL) X15 hx hZ13 hown13 (zW hw 270 rfl) hwS rfl S13 (Nat.le_trans (Nat.le_trans hk13 K14.1) K15.1) hEL (by decide) CC15.1 (vs:=own_by own_L72) (z:=I 2) own_tx72 (by decide) rfl (g:=(mkF m 31 #[vr a1,vi p2,vr a3] [.ref a1])) rfl (D 16 rfl) (n:=8) (by rw [own_tl72]; decide) (by decide) (by show 2 + 2 ≤ 4; decide) (by show 28 + 12 ≤ 40; decide)
 have J16 := J15.ext E16
 have CC16 := CC15.trans C16
 have Sf16 : Safe Z own_EL T16.vm h16 t15 := own_safeB hw hZ16 J16.1
 have Sn16 : own_Sn Z h16 a16 false own_L72 t15 := ⟨⟨Ea16,Fc16,bb16,kb16,Fv16,Va16⟩,fun x F => by cases own_fld_uniq F Fv16; exact (hs16 _ Sf16).2.symm⟩
 have Sun16 := Sun15.ext E16
 obtain ⟨cq17,kq17,q17a,q17b,q17c⟩ := isOf hZ16 e16 J16.1.1
 obtain ⟨_,T17,Lc17,X17,hQ17,st17⟩ := zU X16 hx hZ16 hown16 (zW hw 190 rfl) (zW hw 191 rfl) (zW hw 193 rfl) (zW hw 192 rfl) (by decide) (backOf (W:=0) (r36 l Z a0 hw [] a1 a16 t15 w _ own_L72 h16 n0 J16.2.2.2.2.2 J16.1 Sn16.1 own_lw72 own_lc72 g_b J16.2.1 J16.2.2.2.2.1 SWz Sn16.2 (by show _ + 2 ≤ _; omega)) hZ16 (zW hw 194 rfl) (zW hw 60 rfl) (by decide) (by decide)) q17a q17c (g:=(mkF m 33 #[vr a1,vi p2,vr a3] [.ref a16,.ref a1])) rfl (by rw [hml]; rfl) (argsL:=[.ref a16]) (rest:=[]) (lenOf own_pdS rfl) rfl (Nat.le_of_eq rfl) (D 17 rfl) rfl e16 (by show 4 + 0 ≤ 4; decide) (by show 40 + 0 ≤ 40; decide)
 obtain ⟨rfl,Nq17,St17⟩ := hQ17
 have N17 := Fr.app N15 Nq17
 obtain ⟨t17,J17,ht17,K17⟩ := J16.op g_b St17
 have hl17 : (((((cs ++ [(40:Int32)]) ++ own_dg p2) ++ own_L65) ++ own_L56) ++ own_L72).length ≤ 85 := by rw [List.length_append]; show _ + 2 ≤ _; omega
 have CC17 := own_CHop hw CC16 hZ16 K17 J16.1
 have Sun17 := own_Sn.op hw Sun16 K17 J16.1 ht17
 have CT := CC17.trans (CHv.at X17 hZ16 hEL CC17.1)
 obtain ⟨fs,hr,hrun,hended,hRW⟩ := X17.leaveW S16 (Nat.le_trans hk16 K17.1) (v:=none) (fun _ => rfl)
 have eqS : (((((cs ++ [(40:Int32)]) ++ own_dg p2) ++ own_L65) ++ own_L56) ++ own_L72) = cs ++ own_suf p2 := by unfold own_suf; rw [if_neg h1]; simp only [List.append_assoc]
 refine ⟨_,_,pre0 _ ?_,hrun,hended,_,_,rfl,?_,?_,⟨hRW.1,hRW.2.1,hRW.2.2.1,hRW.2.2.2.mono (by decide) (by decide)⟩⟩
 · refine aN X0.here hx rfl (D 0 rfl) rfl rfl (bP X0.here hx rfl (D 1 rfl) (st11.trans (iN X11.here hx rfl (D 3 rfl) rfl ?_)))
   refine st12.trans (st13 _ (st14.trans (aN X14.here hx rfl (D 7 rfl) rfl rfl ?_)))
   refine st15.trans (XS.pop X15.here hx rfl (D 9 rfl) rfl rfl (aN X15.here hx rfl (D 10 rfl) rfl rfl (iN X15.here hx rfl (D 11 rfl) rfl ?_)))
   refine iC X15.here hx rfl (D 12 rfl) (cY X15.here hx rfl (pc0 := 23) (pc':=31) rfl (D 13 rfl) rfl (feq h1).2 (by decide) (by decide) (st16 _ (st17.trans ?_)))
   refine XS.pop X17.here hx rfl (D 18 rfl) rfl rfl ?_
   exact X17.returnOut hx Bd.returns (D 19 rfl) hr
 · exact ⟨rfl,N17,J17.2.2.1,t17,by rw [← eqS]; exact J17.1,J17.2.2.2.1,J17.2.1⟩
 · show CHr Z own_EL s.vm s.heap T17.vm T17.heap
   rw [hh]
   exact CT
theorem r28 (l:Launch) (Z:State) (a0:Array Value) (hw:zH Z a0) (hwS:∀ d ∈ Bundle.stringAtoms,d.before a0 Z = true) (ws:List Jvm.Cond) (a1:Addr) (p2:Int32) (a3:Addr) (t0:Addr) (w:Bool) (cs:List Int32) (h0:Heap) (n0:Nat) (Z0:n0 ≤ h0.size) (SB:own_SB Z h0 a1 w cs t0) (g_b:n0 ≤ a1) (g_t0:n0 ≤ t0) (O:Old Z n0 h0) (SWz:own_SW Z Z.heap) (DT:own_DT Z) (hcnt:own_cnt p2) (Sun:own_Sn Z h0 a3 false own_L56 t0) (hl0:cs.length ≤ 64) :
   MetFree l y_21 (head1 (Jvm.Cond.code y_21 prog_4_method_5_code 3 none :: ws) (zr 9 4 40 134)) (fun a U => a = #[.ref a1,.int p2,.ref a3] ∧ Z.Warmed39 U.vm ∧ U.heap = h0 ∧ CHv Z own_EL U.vm h0) (fun _ _ _ _ _ => True) (fun _ U o U' => ∃ v L,o = .returned v ∧ QS Z a1 t0 w (cs ++ own_suf p2) h0 n0 v U'.heap L ∧ CHr Z own_EL U.vm U.heap U'.vm U'.heap ∧ ReturnedEndW U o U' L (zr 9 4 40 134).cells (zr 9 4 40 134).slots) := by
 by_cases h1 : p2 = 1
 · exact r28_1 l Z a0 hw hwS ws a1 p2 a3 t0 w cs h0 n0 Z0 SB g_b g_t0 O SWz DT hcnt Sun hl0 h1
 · exact r28_n l Z a0 hw hwS ws a1 p2 a3 t0 w cs h0 n0 Z0 SB g_b g_t0 O SWz DT hcnt Sun hl0 h1
def l14 : zl := [(0,.iload_n 3,1),(1,.iload_n 2,1),(2,.isub,1),(3,.bipush 64,2),(5,.if_icmp .gt 12,3),(17,.iload_n 2,1),(18,.bipush 64,2),(20,.iadd,1),(21,.iconst 1,1),(22,.isub,1),(23,.istore 4,2),(25,.aload_n 1,1),(26,.iload 4,2),(28,.invokevirtual 42,3),(31,.invokestatic 52,3),(34,.ifCond .eq 8,3),(37,.iload 4,2),(39,.goto 7,3),(42,.iload 4,2),(44,.iconst 1,1),(45,.iadd,1),(46,.istore 5,2),(48,.aload_n 0,1),(49,.aload_n 1,1),(50,.iload_n 2,1),(51,.iload 5,2),(53,.invokevirtual 49,3),(56,.pop,1),(57,.aload_n 0,1),(58,.iload_n 3,1),(59,.iload 5,2),(61,.isub,1),(62,.ldc 56,2),(64,.invokestatic 58,3),(67,.return_,1)]
theorem D14 : zq prog_4_method_4_code l14 := zd (by decide +kernel)
theorem own_pdM : parseMethodDescriptor "(Ljava/lang/StringBuilder;ILjava/lang/String;)V" = some ⟨[.object "java/lang/StringBuilder",.int,.object "java/lang/String"],none⟩ := by decide +kernel
theorem r21p (l:Launch) (Z:State) (a0:Array Value) (hw:zH Z a0) (ws:List Jvm.Cond) (p4:Int32) (a1:Addr) (a2:Addr) (t0:Addr) (w:Bool) (cs:List Int32) (E:Nat) (h0:Heap) (n0:Nat) (Z0:n0 ≤ h0.size) (SB:own_SB Z h0 a1 false [] t0) (S:own_Str Z h0 a2 w cs) (hwd:own_wd cs = w) (hC:own_C cs) (hl:cs.length ≤ 200) (hE:E ≤ cs.length) (hE9:E ≤ 96) (g_a1:n0 ≤ a1) (g_t0:n0 ≤ t0) (O:Old Z n0 h0) (SWz:own_SW Z Z.heap) (hne:∀ t,Fld Z h0 a2 "java/lang/String" "value" "[B" (.ref t) → t ≠ t0) (IF:own_IF Z) (hp4:p4 = I E) :
   zM l Z h0 ws y_20 jdk_67_method_10_code 4 (some (.object "java/lang/StringBuilder")) (zr 8 1 400 124) #[.ref a1,.ref a2,.int 0,.int p4] (QA Z a1 t0 (own_wd (cs.take E)) (cs.take E) h0 n0) := by
 subst hp4
 exact r21 l Z a0 hw ws a1 a2 t0 w cs E h0 n0 Z0 SB S hwd hC hl hE hE9 g_a1 g_t0 O SWz hne IF
theorem pd_14_19 : parseMethodDescriptor "(Ljava/lang/CharSequence;II)Ljava/lang/StringBuilder;" = some ⟨[(.object "java/lang/CharSequence"),.int,.int],some (.object "java/lang/StringBuilder")⟩ := by decide +kernel
theorem ef_14 (m:MethodId) (x0:Addr) (x1:Addr) (x2:Int32) (x3:Int32) : entryFrame m #[.ref x0,.ref x1,.int x2,.int x3] 6 = mkF m 0 #[.val (.ref x0),.val (.ref x1),.val (.int x2),.val (.int x3),.unset,.unset] [] := by first | (simp [entryFrame,mkF,argsToLocals,Value.category]; done) | rfl
theorem r14_64 (l:Launch) (Z:State) (a0:Array Value) (hw:zH Z a0) (hwS:∀ d ∈ Bundle.stringAtoms,d.before a0 Z = true) (ws:List Jvm.Cond) (a1:Addr) (a2:Addr) (t0:Addr) (w:Bool) (cs:List Int32) (h0:Heap) (n0:Nat) (Z0:n0 ≤ h0.size) (SB:own_SB Z h0 a1 false [] t0) (S:own_Sn Z h0 a2 w cs t0) (hwd:own_wd cs = w) (hC:own_C cs) (hl:cs.length ≤ 200) (hl6:64 < cs.length) (g_b:n0 ≤ a1) (g_t0:n0 ≤ t0) (O:Old Z n0 h0) (SWz:own_SW Z Z.heap) (DT:own_DT Z) (IF:own_IF Z) (hh_:own_hs (cs.getD 63 0) = 0) (hcnt:own_cnt ((I cs.length) - I 64)) :
   MetFree l y_29 (head1 (Jvm.Cond.code y_29 prog_4_method_4_code 6 none :: ws) (zr 10 7 500 148)) (fun a U => a = #[.ref a1,.ref a2,.int 0,(.int (I cs.length))] ∧ Z.Warmed39 U.vm ∧ U.heap = h0 ∧ CHv Z own_EL U.vm h0) (fun _ _ _ _ _ => True) (fun _ U o U' => ∃ v L,o = .returned v ∧ QS Z a1 t0 (own_wd (cs.take 64)) (cs.take 64 ++ own_suf ((I cs.length) - I 64)) h0 n0 v U'.heap L ∧ CHr Z own_EL U.vm U.heap U'.vm U'.heap ∧ ReturnedEndW U o U' L (zr 10 7 500 148).cells (zr 10 7 500 148).slots) := by
 refine MetFree.of_bodySF (plainFor_of_name pn_28) hisR ?_
 intro p e s m args below meth c s₁ Bd hml0 hP hK
 obtain ⟨rfl,hZ,hh,hC_⟩ := hP
 have hx := Bd.exec
 have D := D14 Bd.bytes
 have hml : c.maxLocals = 6 := hml0
 have hown : s.vm.findClass "com/example/dolmetsch/dolmetsch/BriefText" = some m.cls := findClass_of_methodNamed Bd.named
 have X0 : Stand p l e (zr 10 7 500 148) s m #[.ref a1,.ref a2,.int 0,(.int (I cs.length))] below meth c s₁ [] 0 0 := Stand.of_body Bd
 have e0 : s₁.heap = h0 := by rw [← hh,Bd.state]; rfl
 have N0 := Fr.nil n0
 have pre0 := zP p e below s₁ (ef_14 m a1 a2 (0:Int32) (I cs.length))
 have hEL := own_EW hw
 have E_a1 := SB.1
 have E_a2 := S.1.1
 have SWh := SWz.ext O.2
 have hc5_ : (64:Int32) < ((I cs.length) - 0) := by rw [Int32.sub_zero]; exact (own_lt 64 _ (by decide) (by omega)).mpr hl6
 have eC : ((((0:Int32) + 64) - 1) + 1) = I 64 := by decide
 obtain ⟨cq5,kq5,q5a,q5b,q5c⟩ := isOf hZ e0 E_a2
 obtain ⟨_,T5,Lc5,X5,hQ5,st5⟩ := zU X0 hx hZ hown (zW hw 79 rfl) (zW hw 80 rfl) (zW hw 82 rfl) (zW hw 81 rfl) (by decide) (own_ch (W:=0) hZ hw S.1 SWh hC hwd hl (i:=63) (by omega) (by decide) n0 Z0 (by decide) (by decide)) q5a q5c (g:=(mkF m 28 #[vr a1,vr a2,vi 0,vi (I cs.length),vi (((0:Int32) + 64) - 1),.unset] [(.int (((0:Int32) + 64) - 1)),.ref a2])) rfl (by rw [hml]; rfl) (argsL:=[(.int (((0:Int32) + 64) - 1))]) (rest:=[]) (lenOf pd_25_13 rfl) rfl (Nat.le_of_eq rfl) (D 13 rfl) rfl e0 (by decide:0 + 0 ≤ _) (by decide:0 + 0 ≤ _)
 obtain ⟨rfl,N5q,e5⟩ := hQ5
 have N5 := Fr.app N0 N5q
 obtain ⟨_,T6,Lc6,X6,hQ6,st6⟩ := zS X5 hx hZ hown (zW hw 101 rfl) (zW hw 102 rfl) (zW hw 103 rfl) (zW hw 104 rfl) (by decide) (r20 l Z a0 hw [] (cs.getD 63 0) h0 n0 Z0) (by decide) (by decide) (W:=0) (g:=(mkF m 31 #[vr a1,vr a2,vi 0,vi (I cs.length),vi (((0:Int32) + 64) - 1),.unset] [(.int (cs.getD 63 0))])) rfl (by rw [hml]; rfl) (argsL:=[(.int (cs.getD 63 0))]) (rest:=[]) (lenOf pd_30_18 rfl) rfl (Nat.le_of_eq rfl) (D 14 rfl) rfl e5 (by decide:0 + 0 ≤ _) (by decide:0 + 0 ≤ _)
 obtain ⟨rfl,N6q,e6⟩ := hQ6
 have N6 := Fr.app N5 N6q
 obtain ⟨cq7,kq7,q7a,q7b,q7c⟩ := isOf hZ e6 ((E_a1))
 obtain ⟨_,T7,Lc7,X7,hQ7,st7⟩ := zU X6 hx hZ hown (zW hw 106 rfl) (zW hw 107 rfl) (zW hw 109 rfl) (zW hw 108 rfl) (by decide) (backOf (W:=0) (r21p l Z a0 hw [] ((((0:Int32) + 64) - 1) + 1) a1 a2 t0 w cs 64 h0 n0 Z0 SB S.1 hwd hC hl (by omega) (by decide) g_b g_t0 O SWz S.2 IF (by decide)) hZ (zW hw 110 rfl) (zW hw 60 rfl) (by decide) (by decide)) q7a q7c (g:=(mkF m 53 #[vr a1,vr a2,vi 0,vi (I cs.length),vi (((0:Int32) + 64) - 1),vi ((((0:Int32) + 64) - 1) + 1)] [(.int ((((0:Int32) + 64) - 1) + 1)),.int 0,.ref a2,.ref a1])) rfl (by rw [hml]; rfl) (argsL:=[.ref a2,.int 0,(.int ((((0:Int32) + 64) - 1) + 1))]) (rest:=[]) (lenOf pd_14_19 rfl) rfl (Nat.le_of_eq rfl) (D 26 rfl) rfl e6 (by decide:0 + 1 ≤ _) (by decide:0 + 400 ≤ _)
 obtain ⟨rfl,N7q,St7⟩ := hQ7
 have N7 := Fr.app N6 N7q
 obtain ⟨t7,J7,ht7,K7⟩ := (own_J.start SB g_t0 O Z0).op g_b St7
 have C7 := own_CHop hw (CHr.refl hC_) hZ K7 SB
 obtain ⟨a8,T8,h8,k8,bb8,kb8,X8,e8,E8,S8,hk8,hZ8,hown8,Ea8,Fc8,Fv8,Va8,la8,lb8,C8,L8,hs8,st8⟩ := ldcCH (s:=s) (vm0 := s.vm) (EL:=own_EL) X7 hx hZ hown (zW hw 156 rfl) hwS rfl (k0 := 0) own_noW (Nat.zero_le _) hEL (by decide) C7.1 (vs:=own_by own_L56) (z:=I 9) own_tx56 (by decide) rfl (g:=(mkF m 62 #[vr a1,vr a2,vi 0,vi (I cs.length),vi (((0:Int32) + 64) - 1),vi ((((0:Int32) + 64) - 1) + 1)] [(.int ((I cs.length) - ((((0:Int32) + 64) - 1) + 1))),.ref a1])) rfl (D 32 rfl) (n:=36) (by rw [own_tl56]; decide) (by decide) (by show 1 + 2 ≤ 7; decide) (by show 400 + 40 ≤ 500; decide)
 have J8 := J7.ext E8
 have CC8 := C7.trans C8
 have Sn8 : own_Sn Z h8 a8 false own_L56 t7 := ⟨⟨Ea8,Fc8,bb8,kb8,Fv8,Va8⟩,fun x F => by cases own_fld_uniq F Fv8; exact (hs8 _ (own_safeB hw hZ8 J8.1)).2.symm⟩
 have hlE : (cs.take 64).length ≤ 64 := by rw [List.length_take]; omega
 have hcnt' : own_cnt ((I cs.length) - ((((0:Int32) + 64) - 1) + 1)) := by rw [eC]; exact hcnt
 obtain ⟨_,_,⟨T9,L9,k9,n9⟩,-,X9,S9',hz9,⟨Lc9,hQ9,l9,y9,z9,C9⟩,st9⟩ := callSS (s:=s.setVm T8.vm) X8 hx (y:=y_21) hown8 (zT hZ8 hw 157 rfl) (zT hZ8 hw 158 rfl) (zT hZ8 hw 28 rfl) (zT hZ8 hw 159 rfl) (by decide) (backOfSH (s:=s) (vm0 := T8.vm) (W:=0) (r28 l Z a0 hw hwS [] a1 ((I cs.length) - ((((0:Int32) + 64) - 1) + 1)) a8 t7 _ _ h8 n0 J8.2.2.2.2.2 J8.1 g_b J8.2.1 J8.2.2.2.2.1 SWz DT hcnt' Sn8 hlE) hZ8 (zW hw 159 rfl) (zW hw 28 rfl) (by decide) (by decide) hEL CC8.1) (g:=(mkF m 64 #[vr a1,vr a2,vi 0,vi (I cs.length),vi (((0:Int32) + 64) - 1),vi ((((0:Int32) + 64) - 1) + 1)] [.ref a8,(.int ((I cs.length) - ((((0:Int32) + 64) - 1) + 1))),.ref a1])) rfl (by rw [hml]; rfl) (argsL:=[.ref a1,(.int ((I cs.length) - ((((0:Int32) + 64) - 1) + 1))),.ref a8]) (rest:=[]) (lenOf own_pdM rfl) rfl (Nat.le_of_eq rfl) (D 33 rfl) (fun _ _ => ⟨rfl,e8,(by show 1 + 2 + 4 ≤ 7; decide),(by show 400 + 40 + 40 ≤ 500; decide)⟩)
 dsimp only [Pt.U,Pt.locs,Pt.cells,Pt.slots] at X9 S9' hz9 C9 l9 y9 z9 st9 hQ9
 subst l9 y9 z9
 obtain ⟨rfl,Nq9,K9,t9,SB9,ht9,g9⟩ := hQ9
 have N9 := Fr.app N7 Nq9
 obtain ⟨t9',J9,-,-⟩ := J8.op g_b ⟨K9,t9,SB9,ht9⟩
 have hZ9 : Z.Warmed39 (s.setVm T9.vm).vm := State.Warmed39.trans hZ8 S9'.1
 have S9 := S8.trans S9' (Nat.le_trans hk8 K9.1)
 have CC9 := CC8.trans C9
 have CT := CC9.trans (CHv.at X9 hZ9 hEL CC9.1)
 obtain ⟨fs,hr,hrun,hended,hRW⟩ := X9.leaveW (s:=s) S9 (Nat.le_refl _) (v:=none) (fun _ => rfl)
 refine ⟨_,_,pre0 _ ?_,hrun,hended,_,_,rfl,?_,?_,⟨hRW.1,hRW.2.1,hRW.2.2.1,hRW.2.2.2.mono (by decide) (by decide)⟩⟩
 · skip
   refine iN X0.here hx rfl (D 0 rfl) rfl (iN X0.here hx rfl (D 1 rfl) rfl (iB X0.here hx rfl (D 2 rfl) rfl (bP X0.here hx rfl (D 3 rfl) ?_)))
   refine cY X0.here hx rfl (pc0 := 5) (pc':=17) rfl (D 4 rfl) rfl (tlt hc5_).2.2.1 (by decide) (by decide) (iN X0.here hx rfl (D 5 rfl) rfl (bP X0.here hx rfl (D 6 rfl) (iA X0.here hx rfl (D 7 rfl) rfl ?_)))
   refine iC X0.here hx rfl (D 8 rfl) (iB X0.here hx rfl (D 9 rfl) rfl (iS X0.here hx rfl (D 10 rfl) rfl (l':=#[vr a1,vr a2,vi 0,vi (I cs.length),vi (((0:Int32) + 64) - 1),.unset]) rfl (aN X0.here hx rfl (D 11 rfl) rfl rfl ?_)))
   refine iL X0.here hx rfl (D 12 rfl) rfl (st5.trans (st6 _ (fY X6.here hx rfl (pc0 := 34) (pc':=42) rfl (D 15 rfl) rfl ((if0 _ _).trans (teq (hh_:(own_hs (cs.getD 63 0)) = 0)).1) (by decide) (by decide) ?_)))
   refine iL X6.here hx rfl (D 18 rfl) rfl (iC X6.here hx rfl (D 19 rfl) (iA X6.here hx rfl (D 20 rfl) rfl (iS X6.here hx rfl (D 21 rfl) rfl (l':=#[vr a1,vr a2,vi 0,vi (I cs.length),vi (((0:Int32) + 64) - 1),vi ((((0:Int32) + 64) - 1) + 1)]) rfl ?_)))
   refine aN X6.here hx rfl (D 22 rfl) rfl rfl (aN X6.here hx rfl (D 23 rfl) rfl rfl (iN X6.here hx rfl (D 24 rfl) rfl (iL X6.here hx rfl (D 25 rfl) rfl ?_)))
   refine st7.trans (XS.pop X7.here hx rfl (D 27 rfl) rfl rfl (aN X7.here hx rfl (D 28 rfl) rfl rfl (iN X7.here hx rfl (D 29 rfl) rfl ?_)))
   refine iL X7.here hx rfl (D 30 rfl) rfl (iB X7.here hx rfl (D 31 rfl) rfl (st8 _ (st9.trans ?_)))
   exact X9.returnOut hx Bd.returns (D 34 rfl) hr
 · rw [← eC]
   refine ⟨rfl,N9,J9.2.2.1,t9',?_,J9.2.2.2.1,J9.2.1⟩
   exact J9.1
 · show CHr Z own_EL s.vm s.heap T9.vm T9.heap
   rw [hh]
   exact CT
theorem r14_63 (l:Launch) (Z:State) (a0:Array Value) (hw:zH Z a0) (hwS:∀ d ∈ Bundle.stringAtoms,d.before a0 Z = true) (ws:List Jvm.Cond) (a1:Addr) (a2:Addr) (t0:Addr) (w:Bool) (cs:List Int32) (h0:Heap) (n0:Nat) (Z0:n0 ≤ h0.size) (SB:own_SB Z h0 a1 false [] t0) (S:own_Sn Z h0 a2 w cs t0) (hwd:own_wd cs = w) (hC:own_C cs) (hl:cs.length ≤ 200) (hl6:64 < cs.length) (g_b:n0 ≤ a1) (g_t0:n0 ≤ t0) (O:Old Z n0 h0) (SWz:own_SW Z Z.heap) (DT:own_DT Z) (IF:own_IF Z) (hh_:¬ own_hs (cs.getD 63 0) = 0) (hcnt:own_cnt ((I cs.length) - I 63)) :
   MetFree l y_29 (head1 (Jvm.Cond.code y_29 prog_4_method_4_code 6 none :: ws) (zr 10 7 500 148)) (fun a U => a = #[.ref a1,.ref a2,.int 0,(.int (I cs.length))] ∧ Z.Warmed39 U.vm ∧ U.heap = h0 ∧ CHv Z own_EL U.vm h0) (fun _ _ _ _ _ => True) (fun _ U o U' => ∃ v L,o = .returned v ∧ QS Z a1 t0 (own_wd (cs.take 63)) (cs.take 63 ++ own_suf ((I cs.length) - I 63)) h0 n0 v U'.heap L ∧ CHr Z own_EL U.vm U.heap U'.vm U'.heap ∧ ReturnedEndW U o U' L (zr 10 7 500 148).cells (zr 10 7 500 148).slots) := by
 refine MetFree.of_bodySF (plainFor_of_name pn_28) hisR ?_
 intro p e s m args below meth c s₁ Bd hml0 hP hK
 obtain ⟨rfl,hZ,hh,hC_⟩ := hP
 have hx := Bd.exec
 have D := D14 Bd.bytes
 have hml : c.maxLocals = 6 := hml0
 have hown : s.vm.findClass "com/example/dolmetsch/dolmetsch/BriefText" = some m.cls := findClass_of_methodNamed Bd.named
 have X0 : Stand p l e (zr 10 7 500 148) s m #[.ref a1,.ref a2,.int 0,(.int (I cs.length))] below meth c s₁ [] 0 0 := Stand.of_body Bd
 have e0 : s₁.heap = h0 := by rw [← hh,Bd.state]; rfl
 have N0 := Fr.nil n0
 have pre0 := zP p e below s₁ (ef_14 m a1 a2 (0:Int32) (I cs.length))
 have hEL := own_EW hw
 have E_a1 := SB.1
 have E_a2 := S.1.1
 have SWh := SWz.ext O.2
 have hc5_ : (64:Int32) < ((I cs.length) - 0) := by rw [Int32.sub_zero]; exact (own_lt 64 _ (by decide) (by omega)).mpr hl6
 have eC : (((0:Int32) + 64) - 1) = I 63 := by decide
 obtain ⟨cq5,kq5,q5a,q5b,q5c⟩ := isOf hZ e0 E_a2
 obtain ⟨_,T5,Lc5,X5,hQ5,st5⟩ := zU X0 hx hZ hown (zW hw 79 rfl) (zW hw 80 rfl) (zW hw 82 rfl) (zW hw 81 rfl) (by decide) (own_ch (W:=0) hZ hw S.1 SWh hC hwd hl (i:=63) (by omega) (by decide) n0 Z0 (by decide) (by decide)) q5a q5c (g:=(mkF m 28 #[vr a1,vr a2,vi 0,vi (I cs.length),vi (((0:Int32) + 64) - 1),.unset] [(.int (((0:Int32) + 64) - 1)),.ref a2])) rfl (by rw [hml]; rfl) (argsL:=[(.int (((0:Int32) + 64) - 1))]) (rest:=[]) (lenOf pd_25_13 rfl) rfl (Nat.le_of_eq rfl) (D 13 rfl) rfl e0 (by decide:0 + 0 ≤ _) (by decide:0 + 0 ≤ _)
 obtain ⟨rfl,N5q,e5⟩ := hQ5
 have N5 := Fr.app N0 N5q
 obtain ⟨_,T6,Lc6,X6,hQ6,st6⟩ := zS X5 hx hZ hown (zW hw 101 rfl) (zW hw 102 rfl) (zW hw 103 rfl) (zW hw 104 rfl) (by decide) (r20 l Z a0 hw [] (cs.getD 63 0) h0 n0 Z0) (by decide) (by decide) (W:=0) (g:=(mkF m 31 #[vr a1,vr a2,vi 0,vi (I cs.length),vi (((0:Int32) + 64) - 1),.unset] [(.int (cs.getD 63 0))])) rfl (by rw [hml]; rfl) (argsL:=[(.int (cs.getD 63 0))]) (rest:=[]) (lenOf pd_30_18 rfl) rfl (Nat.le_of_eq rfl) (D 14 rfl) rfl e5 (by decide:0 + 0 ≤ _) (by decide:0 + 0 ≤ _)
 obtain ⟨rfl,N6q,e6⟩ := hQ6
 have N6 := Fr.app N5 N6q
 obtain ⟨cq7,kq7,q7a,q7b,q7c⟩ := isOf hZ e6 ((E_a1))
 obtain ⟨_,T7,Lc7,X7,hQ7,st7⟩ := zU X6 hx hZ hown (zW hw 106 rfl) (zW hw 107 rfl) (zW hw 109 rfl) (zW hw 108 rfl) (by decide) (backOf (W:=0) (r21p l Z a0 hw [] (((0:Int32) + 64) - 1) a1 a2 t0 w cs 63 h0 n0 Z0 SB S.1 hwd hC hl (by omega) (by decide) g_b g_t0 O SWz S.2 IF (by decide)) hZ (zW hw 110 rfl) (zW hw 60 rfl) (by decide) (by decide)) q7a q7c (g:=(mkF m 53 #[vr a1,vr a2,vi 0,vi (I cs.length),vi (((0:Int32) + 64) - 1),vi (((0:Int32) + 64) - 1)] [(.int (((0:Int32) + 64) - 1)),.int 0,.ref a2,.ref a1])) rfl (by rw [hml]; rfl) (argsL:=[.ref a2,.int 0,(.int (((0:Int32) + 64) - 1))]) (rest:=[]) (lenOf pd_14_19 rfl) rfl (Nat.le_of_eq rfl) (D 26 rfl) rfl e6 (by decide:0 + 1 ≤ _) (by decide:0 + 400 ≤ _)
 obtain ⟨rfl,N7q,St7⟩ := hQ7
 have N7 := Fr.app N6 N7q
 obtain ⟨t7,J7,ht7,K7⟩ := (own_J.start SB g_t0 O Z0).op g_b St7
 have C7 := own_CHop hw (CHr.refl hC_) hZ K7 SB
 obtain ⟨a8,T8,h8,k8,bb8,kb8,X8,e8,E8,S8,hk8,hZ8,hown8,Ea8,Fc8,Fv8,Va8,la8,lb8,C8,L8,hs8,st8⟩ := ldcCH (s:=s) (vm0 := s.vm) (EL:=own_EL) X7 hx hZ hown (zW hw 156 rfl) hwS rfl (k0 := 0) own_noW (Nat.zero_le _) hEL (by decide) C7.1 (vs:=own_by own_L56) (z:=I 9) own_tx56 (by decide) rfl (g:=(mkF m 62 #[vr a1,vr a2,vi 0,vi (I cs.length),vi (((0:Int32) + 64) - 1),vi (((0:Int32) + 64) - 1)] [(.int ((I cs.length) - (((0:Int32) + 64) - 1))),.ref a1])) rfl (D 32 rfl) (n:=36) (by rw [own_tl56]; decide) (by decide) (by show 1 + 2 ≤ 7; decide) (by show 400 + 40 ≤ 500; decide)
 have J8 := J7.ext E8
 have CC8 := C7.trans C8
 have Sn8 : own_Sn Z h8 a8 false own_L56 t7 := ⟨⟨Ea8,Fc8,bb8,kb8,Fv8,Va8⟩,fun x F => by cases own_fld_uniq F Fv8; exact (hs8 _ (own_safeB hw hZ8 J8.1)).2.symm⟩
 have hlE : (cs.take 63).length ≤ 64 := by rw [List.length_take]; omega
 have hcnt' : own_cnt ((I cs.length) - (((0:Int32) + 64) - 1)) := by rw [eC]; exact hcnt
 obtain ⟨_,_,⟨T9,L9,k9,n9⟩,-,X9,S9',hz9,⟨Lc9,hQ9,l9,y9,z9,C9⟩,st9⟩ := callSS (s:=s.setVm T8.vm) X8 hx (y:=y_21) hown8 (zT hZ8 hw 157 rfl) (zT hZ8 hw 158 rfl) (zT hZ8 hw 28 rfl) (zT hZ8 hw 159 rfl) (by decide) (backOfSH (s:=s) (vm0 := T8.vm) (W:=0) (r28 l Z a0 hw hwS [] a1 ((I cs.length) - (((0:Int32) + 64) - 1)) a8 t7 _ _ h8 n0 J8.2.2.2.2.2 J8.1 g_b J8.2.1 J8.2.2.2.2.1 SWz DT hcnt' Sn8 hlE) hZ8 (zW hw 159 rfl) (zW hw 28 rfl) (by decide) (by decide) hEL CC8.1) (g:=(mkF m 64 #[vr a1,vr a2,vi 0,vi (I cs.length),vi (((0:Int32) + 64) - 1),vi (((0:Int32) + 64) - 1)] [.ref a8,(.int ((I cs.length) - (((0:Int32) + 64) - 1))),.ref a1])) rfl (by rw [hml]; rfl) (argsL:=[.ref a1,(.int ((I cs.length) - (((0:Int32) + 64) - 1))),.ref a8]) (rest:=[]) (lenOf own_pdM rfl) rfl (Nat.le_of_eq rfl) (D 33 rfl) (fun _ _ => ⟨rfl,e8,(by show 1 + 2 + 4 ≤ 7; decide),(by show 400 + 40 + 40 ≤ 500; decide)⟩)
 dsimp only [Pt.U,Pt.locs,Pt.cells,Pt.slots] at X9 S9' hz9 C9 l9 y9 z9 st9 hQ9
 subst l9 y9 z9
 obtain ⟨rfl,Nq9,K9,t9,SB9,ht9,g9⟩ := hQ9
 have N9 := Fr.app N7 Nq9
 obtain ⟨t9',J9,-,-⟩ := J8.op g_b ⟨K9,t9,SB9,ht9⟩
 have hZ9 : Z.Warmed39 (s.setVm T9.vm).vm := State.Warmed39.trans hZ8 S9'.1
 have S9 := S8.trans S9' (Nat.le_trans hk8 K9.1)
 have CC9 := CC8.trans C9
 have CT := CC9.trans (CHv.at X9 hZ9 hEL CC9.1)
 obtain ⟨fs,hr,hrun,hended,hRW⟩ := X9.leaveW (s:=s) S9 (Nat.le_refl _) (v:=none) (fun _ => rfl)
 refine ⟨_,_,pre0 _ ?_,hrun,hended,_,_,rfl,?_,?_,⟨hRW.1,hRW.2.1,hRW.2.2.1,hRW.2.2.2.mono (by decide) (by decide)⟩⟩
 · skip
   refine iN X0.here hx rfl (D 0 rfl) rfl (iN X0.here hx rfl (D 1 rfl) rfl (iB X0.here hx rfl (D 2 rfl) rfl (bP X0.here hx rfl (D 3 rfl) ?_)))
   refine cY X0.here hx rfl (pc0 := 5) (pc':=17) rfl (D 4 rfl) rfl (tlt hc5_).2.2.1 (by decide) (by decide) (iN X0.here hx rfl (D 5 rfl) rfl (bP X0.here hx rfl (D 6 rfl) (iA X0.here hx rfl (D 7 rfl) rfl ?_)))
   refine iC X0.here hx rfl (D 8 rfl) (iB X0.here hx rfl (D 9 rfl) rfl (iS X0.here hx rfl (D 10 rfl) rfl (l':=#[vr a1,vr a2,vi 0,vi (I cs.length),vi (((0:Int32) + 64) - 1),.unset]) rfl (aN X0.here hx rfl (D 11 rfl) rfl rfl ?_)))
   refine iL X0.here hx rfl (D 12 rfl) rfl (st5.trans (st6 _ (fN X6.here hx rfl (D 15 rfl) rfl ((if0 _ _).trans (feq (hh_:¬ ((own_hs (cs.getD 63 0)) = 0))).1) ?_)))
   refine iL X6.here hx rfl (D 16 rfl) rfl (gT X6.here hx rfl (pc0 := 39) (pc':=46) rfl (D 17 rfl) (by decide) (by decide) (iS X6.here hx rfl (D 21 rfl) rfl (l':=#[vr a1,vr a2,vi 0,vi (I cs.length),vi (((0:Int32) + 64) - 1),vi (((0:Int32) + 64) - 1)]) rfl (aN X6.here hx rfl (D 22 rfl) rfl rfl ?_)))
   refine aN X6.here hx rfl (D 23 rfl) rfl rfl (iN X6.here hx rfl (D 24 rfl) rfl (iL X6.here hx rfl (D 25 rfl) rfl (st7.trans ?_)))
   refine XS.pop X7.here hx rfl (D 27 rfl) rfl rfl (aN X7.here hx rfl (D 28 rfl) rfl rfl (iN X7.here hx rfl (D 29 rfl) rfl (iL X7.here hx rfl (D 30 rfl) rfl ?_)))
   refine iB X7.here hx rfl (D 31 rfl) rfl (st8 _ (st9.trans ?_))
   exact X9.returnOut hx Bd.returns (D 34 rfl) hr
 · rw [← eC]
   refine ⟨rfl,N9,J9.2.2.1,t9',?_,J9.2.2.2.1,J9.2.1⟩
   exact J9.1
 · show CHr Z own_EL s.vm s.heap T9.vm T9.heap
   rw [hh]
   exact CT
def own_E (cs:List Int32) : Nat := if own_hs (cs.getD 63 0) = 0 then 64 else 63
theorem r14 (l:Launch) (Z:State) (a0:Array Value) (hw:zH Z a0) (hwS:∀ d ∈ Bundle.stringAtoms,d.before a0 Z = true) (ws:List Jvm.Cond) (a1:Addr) (a2:Addr) (t0:Addr) (w:Bool) (cs:List Int32) (h0:Heap) (n0:Nat) (Z0:n0 ≤ h0.size) (SB:own_SB Z h0 a1 false [] t0) (S:own_Sn Z h0 a2 w cs t0) (hwd:own_wd cs = w) (hC:own_C cs) (hl:cs.length ≤ 200) (hl6:64 < cs.length) (g_b:n0 ≤ a1) (g_t0:n0 ≤ t0) (O:Old Z n0 h0) (SWz:own_SW Z Z.heap) (DT:own_DT Z) (IF:own_IF Z) (hcnt:own_cnt ((I cs.length) - I (own_E cs))) :
   MetFree l y_29 (head1 (Jvm.Cond.code y_29 prog_4_method_4_code 6 none :: ws) (zr 10 7 500 148)) (fun a U => a = #[.ref a1,.ref a2,.int 0,(.int (I cs.length))] ∧ Z.Warmed39 U.vm ∧ U.heap = h0 ∧ CHv Z own_EL U.vm h0) (fun _ _ _ _ _ => True) (fun _ U o U' => ∃ v L,o = .returned v ∧ QS Z a1 t0 (own_wd (cs.take (own_E cs))) (cs.take (own_E cs) ++ own_suf ((I cs.length) - I (own_E cs))) h0 n0 v U'.heap L ∧ CHr Z own_EL U.vm U.heap U'.vm U'.heap ∧ ReturnedEndW U o U' L (zr 10 7 500 148).cells (zr 10 7 500 148).slots) := by
 by_cases hh_ : own_hs (cs.getD 63 0) = 0
 · have e : own_E cs = 64 := if_pos hh_
   rw [e] at hcnt ⊢
   exact r14_64 l Z a0 hw hwS ws a1 a2 t0 w cs h0 n0 Z0 SB S hwd hC hl hl6 g_b g_t0 O SWz DT IF hh_ hcnt
 · have e : own_E cs = 63 := if_neg hh_
   rw [e] at hcnt ⊢
   exact r14_63 l Z a0 hw hwS ws a1 a2 t0 w cs h0 n0 Z0 SB S hwd hC hl hl6 g_b g_t0 O SWz DT IF hh_ hcnt
def l5 : zl := [(0,.aload_n 0,1),(1,.invokevirtual 7,3),(4,.bipush 64,2),(6,.if_icmp .gt 5,3),(9,.aload_n 0,1),(10,.areturn,1),(11,.new 15,3),(14,.dup,1),(15,.bipush 96,2),(17,.invokespecial 17,3),(20,.astore_n 1,1),(21,.aload_n 1,1),(22,.aload_n 0,1),(23,.iconst 0,1),(24,.aload_n 0,1),(25,.invokevirtual 7,3),(28,.invokestatic 20,3),(31,.aload_n 1,1),(32,.invokevirtual 24,3),(35,.areturn,1)]
theorem D5 : zq prog_4_method_2_code l5 := zd (by decide +kernel)
theorem r5a (l:Launch) (Z:State) (a0:Array Value) (hw:zH Z a0) (ws:List Jvm.Cond) (a1:Addr) (w:Bool) (cs:List Int32) (h0:Heap) (n0:Nat) (Z0:n0 ≤ h0.size) (S:own_Str Z h0 a1 w cs) (hwd:own_wd cs = w) (hC:own_C cs) (hl6:cs.length ≤ 64) (SWh:own_SW Z h0) :
   zM l Z h0 ws y_41 prog_4_method_2_code 2 (some (.object "java/lang/String")) (zr 2 0 0 25) #[.ref a1] (QR (some (.ref a1)) h0 n0) := by
 refine zE pn_28 rfl fun p e s m below meth c s₁ Bd hx hby hml hown hZ X0 e0 => ?_
 have E_a1 := S.1
 have D := D5 Bd.bytes
 have N0 := Fr.nil n0
 obtain ⟨cq2,kq2,q2a,q2b,q2c⟩ := isOf hZ e0 E_a1
 obtain ⟨_,T2,Lc2,X2,hQ2,st2⟩ := zU X0 hx hZ hown (zW hw 30 rfl) (zW hw 31 rfl) (zW hw 33 rfl) (zW hw 32 rfl) (by decide) (own_slen (W:=0) hZ hw S SWh hC hwd (by omega) n0 (by decide) (by decide)) q2a q2c (g:=(mkF m 1 #[vr a1,.unset] [.ref a1])) rfl (by rw [hml]; rfl) (argsL:=[]) (rest:=[]) (lenOf pd_45_5 rfl) rfl (Nat.le_of_eq rfl) (D 1 rfl) rfl e0 (by decide:0 + 0 ≤ _) (by decide:0 + 0 ≤ _)
 obtain ⟨rfl,N2q,e2⟩ := hQ2
 have N2 := Fr.app N0 N2q
 refine zL Bd X2 (ef_62 m a1) (some (.ref a1)) nofun (by decide) (by decide) (fun fs hr => ?_) ?_
 · refine aN X0.here hx rfl (D 0 rfl) rfl rfl (st2.trans (bP X2.here hx rfl (D 2 rfl) (cN X2.here hx rfl (D 3 rfl) rfl (flt ((fun q => by have := (own_lt 64 _ (by decide) (by omega)).mp q; omega) : ¬ ((64:Int32) < (I cs.length)))).2.2.1 ?_)))
   refine aN X2.here hx rfl (D 4 rfl) rfl rfl ?_
   jvm_step X2.here [X2.here.top,hx,(D 5 rfl),X2.method',Bd.returns,Value.isRef,FieldType.isReference]
   first | (intro acts; rw [hr _ acts rfl rfl rfl]) | rw [hr _ _ rfl rfl rfl]
   exact Steps.refl _
 · show QR (some (.ref a1)) h0 n0 _ T2.heap _
   exact ⟨rfl,N2,e2⟩
theorem pd_5_12 : parseMethodDescriptor "(Ljava/lang/StringBuilder;Ljava/lang/String;II)V" = some ⟨[(.object "java/lang/StringBuilder"),(.object "java/lang/String"),.int,.int],none⟩ := by decide +kernel
theorem pd_5_37 : parseMethodDescriptor "()Ljava/lang/String;" = some ⟨[],some (.object "java/lang/String")⟩ := by decide +kernel
def Q5 (Z:State) (w:Bool) (cs:List Int32) (h0:Heap) (n0:Nat) (v:Option Value) (h:Heap) (L:List Loc) : Prop := ∃ o : Addr,v = some (.ref o) ∧ Fr n0 L ∧ Keep h0 h [] ∧ own_Str Z h o w cs
theorem own_E_le (cs:List Int32) : own_E cs ≤ 64 := by unfold own_E; split <;> omega
theorem own_suf_le {p:Int32} (hp:own_cnt p) : (own_suf p).length ≤ 21 := by rcases hp with rfl | rfl | rfl | rfl | rfl | rfl | rfl <;> decide
theorem r5b (l:Launch) (Z:State) (a0:Array Value) (hw:zH Z a0) (hwS:∀ d ∈ Bundle.stringAtoms,d.before a0 Z = true) (ws:List Jvm.Cond) (a1:Addr) (w:Bool) (cs:List Int32) (h0:Heap) (n0:Nat) (Z0:n0 ≤ h0.size) (S:own_Str Z h0 a1 w cs) (hwd:own_wd cs = w) (hC:own_C cs) (hl:cs.length ≤ 200) (hl6:64 < cs.length) (O:Old Z n0 h0) (SWz:own_SW Z Z.heap) (DT:own_DT Z) (IF:own_IF Z) (hcnt:own_cnt ((I cs.length) - I (own_E cs))) :
   MetFree l y_41 (head1 (Jvm.Cond.code y_41 prog_4_method_2_code 2 (some (.object "java/lang/String")) :: ws) (zr 11 11 904 165)) (fun a U => a = #[.ref a1] ∧ Z.Warmed39 U.vm ∧ U.heap = h0 ∧ CHv Z own_EL U.vm h0) (fun _ _ _ _ _ => True) (fun _ U o U' => ∃ v L,o = .returned v ∧ Q5 Z (own_wd (cs.take (own_E cs))) (cs.take (own_E cs) ++ own_suf ((I cs.length) - I (own_E cs))) h0 n0 v U'.heap L ∧ CHr Z own_EL U.vm U.heap U'.vm U'.heap ∧ ReturnedEndW U o U' L (zr 11 11 904 165).cells (zr 11 11 904 165).slots) := by
 refine MetFree.of_bodySF (plainFor_of_name pn_28) hisR ?_
 intro p e s m args below meth c s₁ Bd hml0 hP hK
 obtain ⟨rfl,hZ,hh,hC_⟩ := hP
 have hx := Bd.exec
 have hEL := own_EW hw
 have E_a1 := S.1
 have SWh := SWz.ext O.2
 have D := D5 Bd.bytes
 have hml : c.maxLocals = 2 := hml0
 have hown : s.vm.findClass "com/example/dolmetsch/dolmetsch/BriefText" = some m.cls := findClass_of_methodNamed Bd.named
 have X0 : Stand p l e (zr 11 11 904 165) s m #[.ref a1] below meth c s₁ [] 0 0 := Stand.of_body Bd
 have e0 : s₁.heap = h0 := by rw [← hh,Bd.state]; rfl
 have N0 := Fr.nil n0
 have pre0 := zP p e below s₁ (ef_62 m a1)
 obtain ⟨cq2,kq2,q2a,q2b,q2c⟩ := isOf hZ e0 E_a1
 obtain ⟨_,T2,Lc2,X2,hQ2,st2⟩ := zU X0 hx hZ hown (zW hw 30 rfl) (zW hw 31 rfl) (zW hw 33 rfl) (zW hw 32 rfl) (by decide) (own_slen (W:=0) hZ hw S SWh hC hwd hl n0 (by decide) (by decide)) q2a q2c (g:=(mkF m 1 #[vr a1,.unset] [.ref a1])) rfl (by rw [hml]; rfl) (argsL:=[]) (rest:=[]) (lenOf pd_45_5 rfl) rfl (Nat.le_of_eq rfl) (D 1 rfl) rfl e0 (by decide:0 + 0 ≤ _) (by decide:0 + 0 ≤ _)
 obtain ⟨rfl,N2q,e2⟩ := hQ2
 have N2 := Fr.app N0 N2q
 obtain ⟨T3,h3,X3,e3,E3,A3,D3,-,st3⟩ := newO X2 hx hZ hown (zW hw 58 rfl) (zW hw 59 rfl) (zW hw 60 rfl) e2 (g:=(mkF m 11 #[vr a1,.unset] [])) rfl (D 6 rfl) (by decide) (by decide)
 obtain ⟨b3,g3⟩ : ∃ z,z = h0.size := ⟨_,rfl⟩
 rw [← g3] at A3 D3 st3
 have F_value_b3 : Fld Z h3 b3 "java/lang/AbstractStringBuilder" "value" "[B" .null := D3 (Or.inl (zW hw 73 rfl)) (ty:=(.array .byte)) (by decide)
 have F_coder_b3 : Fld Z h3 b3 "java/lang/AbstractStringBuilder" "coder" "B" (.int 0) := D3 (Or.inl (zW hw 75 rfl)) (ty:=.byte) (by decide)
 have F_count_b3 : Fld Z h3 b3 "java/lang/AbstractStringBuilder" "count" "I" (.int 0) := D3 (Or.inl (zW hw 129 rfl)) (ty:=.int) (by decide)
 have F_maybeLatin1_b3 : Fld Z h3 b3 "java/lang/AbstractStringBuilder" "maybeLatin1" "Z" (.int 0) := D3 (Or.inl (zW hw 341 rfl)) (ty:=.boolean) (by decide)
 have E_b3 := A3
 have g_b3 : n0 ≤ b3 := Nat.le_trans (Z0) (Nat.le_of_eq g3.symm)
 have sz_b3 : h0.size ≤ b3 := (Nat.le_trans (Keep.refl h0 []).1 (Nat.le_of_eq g3.symm))
 have K3 : Keep h0 h3 [] := (Keep.refl h0 []).ext E3
 obtain ⟨_,_,⟨T4,L4,k4,n4⟩,-,X4,⟨Lc4,hQ4,l4,y4,z4⟩,st4⟩ := X3.specialBack hx (y:=y_63) rfl hown (zT hZ hw 61 rfl) (zT hZ hw 62 rfl) (zT hZ hw 63 rfl) (by decide) (backOf (W:=1) (r12 l Z a0 hw [] b3 _ _ h3 n0 (Nat.le_trans Z0 E3.1) E_b3 F_value_b3 g_b3 F_coder_b3 F_count_b3 F_maybeLatin1_b3 (SWh.ext E3)) hZ (zW hw 63 rfl) (zW hw 60 rfl) (by decide) (by decide)) (g:=(mkF m 17 #[vr a1,.unset] [.int 96,.ref b3,.ref b3])) rfl (by rw [hml]; rfl) (Steps.refl _) (a:=b3) (argsL:=[.int 96]) (rest:=[.ref b3]) (lenOf pd_12_11 rfl) rfl (Nat.le_of_eq rfl) (D 9 rfl) (fun _ _ => ⟨rfl,e3,(by decide:1 + 1 ≤ _),(by decide:4 + 96 ≤ _)⟩)
 dsimp only [Pt.U,Pt.locs,Pt.cells,Pt.slots] at X4 l4 y4 z4 st4 hQ4
 subst l4 y4 z4
 obtain ⟨rfl,N4q,K4,SB4⟩ := hQ4
 have S3 := S.keep0 K3
 have hab : a1 ≠ b3 := fun q => Nat.lt_irrefl _ (Nat.lt_of_lt_of_eq (q ▸ E_a1.lt) g3.symm)
 have S4 : own_Str Z T4.heap a1 w cs := S3.keep1 K4 E_b3 (by decide) (zW hw 59 rfl)
 obtain ⟨-,-,ta_,ka_,FV0,VA⟩ := id S
 have FV4 := (FV0.keep K3 nin0).keep K4 (ninS hab nin0)
 have Z4 := Nat.le_trans (Nat.le_trans Z0 K3.1) K4.1
 have O4 := (O.keep K3 all0).keep K4 (allS g_b3 all0)
 have N4 := Fr.app N2 N4q
 obtain ⟨cq5,kq5,q5a,q5b,q5c⟩ := isOf hZ rfl S4.1
 obtain ⟨_,T5,Lc5,X5,hQ5,st5⟩ := zU X4 hx hZ hown (zW hw 30 rfl) (zW hw 31 rfl) (zW hw 33 rfl) (zW hw 32 rfl) (by decide) (own_slen (W:=3) hZ hw S4 (SWz.ext O4.2) hC hwd hl n0 (by decide) (by decide)) q5a q5c (g:=(mkF m 25 #[vr a1,vr b3] [.ref a1,.int 0,.ref a1,.ref b3])) rfl (by rw [hml]; rfl) (argsL:=[]) (rest:=[.int 0,.ref a1,.ref b3]) (lenOf pd_45_5 rfl) rfl (Nat.le_of_eq rfl) (D 15 rfl) rfl rfl (by decide:2 + 0 ≤ _) (by decide:100 + 0 ≤ _)
 obtain ⟨rfl,N5q,e5⟩ := hQ5
 have N5 := Fr.app N4 N5q
 have CS5 : CHv Z own_EL s.vm T4.heap := (hC_.keep K3 all0).keep K4 (allS (Safe.exa hZ.alike E_b3 (by decide) (by decide)) all0)
 obtain ⟨_,_,⟨T6,L6,k6,n6⟩,-,X6,S6',hz6,⟨Lc6,hQ6,l6,y6,z6,C6⟩,st6⟩ := callSS (s:=s) X5 hx (y:=y_29) hown (zT hZ hw 76 rfl) (zT hZ hw 77 rfl) (zT hZ hw 28 rfl) (zT hZ hw 78 rfl) (by decide) (backOfSH (s:=s) (vm0 := s.vm) (W:=0) (r14 l Z a0 hw hwS [] b3 a1 h3.size w cs T4.heap n0 Z4 SB4 ⟨S4,fun x F => by cases own_fld_uniq F FV4; exact Nat.ne_of_lt (Nat.lt_of_lt_of_le VA.lt E3.1)⟩ hwd hC hl hl6 g_b3 (Nat.le_trans Z0 E3.1) O4 SWz DT IF hcnt) hZ (zW hw 78 rfl) (zW hw 28 rfl) (by decide) (by decide) hEL CS5) (g:=(mkF m 28 #[vr a1,vr b3] [(.int (I cs.length)),.int 0,.ref a1,.ref b3])) rfl (by rw [hml]; rfl) (argsL:=[.ref b3,.ref a1,.int 0,(.int (I cs.length))]) (rest:=[]) (lenOf pd_5_12 rfl) rfl (Nat.le_of_eq rfl) (D 16 rfl) (fun _ _ => ⟨rfl,e5,(by show 1 + 1 + 7 ≤ 11; decide),(by show 4 + 96 + 500 ≤ 904; decide)⟩)
 dsimp only [Pt.U,Pt.locs,Pt.cells,Pt.slots] at X6 S6' hz6 C6 l6 y6 z6 st6 hQ6
 subst l6 y6 z6
 obtain ⟨rfl,N6q,K6,t6,SB6,ht6,g6⟩ := hQ6
 have N6 := Fr.app N5 N6q
 have hZ6 : Z.Warmed39 (s.setVm T6.vm).vm := State.Warmed39.trans hZ S6'.1
 have hown6 : (s.setVm T6.vm).vm.findClass "com/example/dolmetsch/dolmetsch/BriefText" = some m.cls := by show (T6.vm).findClass _ = _; rw [S6'.1.alike.findClass]; exact hown
 have KS4 : CHr Z own_EL s.vm h0 s.vm T4.heap := (CHr.keep K3 all0 hC_).trans (CHr.keep K4 (allS (Safe.exa hZ.alike E_b3 (by decide) (by decide)) all0) (hC_.keep K3 all0))
 have CC6 := KS4.trans C6
 have O6 := O4.keep K6 (allS g_b3 (allS (Nat.le_trans Z0 E3.1) all0))
 have hs6 : (cs.take (own_E cs) ++ own_suf ((I cs.length) - I (own_E cs))).length < 96 := by rw [List.length_append,List.length_take]; have := own_suf_le hcnt; have := own_E_le cs; omega
 obtain ⟨cq7,kq7,q7a,q7b,q7c⟩ := isOf hZ6 rfl SB6.1
 obtain ⟨_,T7,Lc7,X7,hQ7,st7⟩ := zU X6 hx hZ6 hown6 (zW hw 218 rfl) (zW hw 219 rfl) (zW hw 221 rfl) (zW hw 220 rfl) (by decide) (backOf (W:=0) (r41 l Z a0 hw [] b3 t6 _ _ T6.heap n0 (Nat.le_trans Z4 K6.1) SB6 (SWz.ext O6.2) hs6) hZ6 (zW hw 222 rfl) (zW hw 60 rfl) (by decide) (by decide)) q7a q7c (g:=(mkF m 32 #[vr a1,vr b3] [.ref b3])) rfl (by rw [hml]; rfl) (argsL:=[]) (rest:=[]) (lenOf pd_5_37 rfl) rfl (Nat.le_of_eq rfl) (D 18 rfl) rfl rfl (by show 1 + 1 + 7 + 2 ≤ 11; decide) (by show 4 + 96 + 500 + 204 ≤ 904; decide)
 obtain ⟨rfl,N7q,K7,S7_⟩ := hQ7
 have N7 := Fr.app N6 N7q
 have CC7 := CC6.trans (CHr.keep K7 all0 CC6.1)
 have CT := CC7.trans (CHv.at X7 hZ6 hEL CC7.1)
 obtain ⟨fs,hr,hrun,hended,hRW⟩ := X7.leaveW (s:=s) S6' K7.1 (v:=some (.ref T6.heap.size)) (fun h => by rw [Bd.returns] at h; cases h)
 refine ⟨_,_,pre0 _ ?_,hrun,hended,_,_,rfl,?_,?_,⟨hRW.1,hRW.2.1,hRW.2.2.1,hRW.2.2.2.mono (by decide) (by decide)⟩⟩
 · refine aN X0.here hx rfl (D 0 rfl) rfl rfl (st2.trans (bP X2.here hx rfl (D 2 rfl) (cY X2.here hx rfl (pc0 := 6) (pc':=11) rfl (D 3 rfl) rfl (tlt (((own_lt 64 _ (by decide) (by omega)).mpr hl6) : (64:Int32) < (I cs.length))).2.2.1 (by decide) (by decide) ?_)))
   refine st3 _ (XS.dup X3.here hx rfl (D 7 rfl) rfl rfl (bP X3.here hx rfl (D 8 rfl) (st4.trans ?_)))
   refine XS.astoreN X4.here hx rfl (D 10 rfl) rfl rfl (l':=#[vr a1,vr b3]) rfl (aN X4.here hx rfl (D 11 rfl) rfl rfl (aN X4.here hx rfl (D 12 rfl) rfl rfl (iC X4.here hx rfl (D 13 rfl) ?_)))
   refine aN X4.here hx rfl (D 14 rfl) rfl rfl (st5.trans (st6.trans (aN X6.here hx rfl (D 17 rfl) rfl rfl ?_)))
   refine st7.trans ?_
   jvm_step X7.here [X7.here.top,hx,(D 19 rfl),X7.method',Bd.returns,Value.isRef,FieldType.isReference]
   first | (intro acts; rw [hr _ acts rfl rfl rfl]) | rw [hr _ _ rfl rfl rfl]
   exact Steps.refl _
 · show Q5 Z (own_wd (cs.take (own_E cs))) (cs.take (own_E cs) ++ own_suf ((I cs.length) - I (own_E cs))) h0 n0 _ T7.heap _
   refine ⟨T6.heap.size,rfl,N7,?_,S7_⟩
   exact ((K3.trans K4 (allS (Or.inr sz_b3) all0)).trans K6 (allS (Or.inr sz_b3) (allS (Or.inr E3.1) all0))).trans K7 all0
 · show CHr Z own_EL s.vm s.heap T7.vm T7.heap
   rw [hh]
   exact CT
def own_k8 (p:Int32) : Prop := p = 0 ∨ p = 1 ∨ p = 2 ∨ p = 3 ∨ p = 4 ∨ p = 5 ∨ p = 6 ∨ p = 7
def own_tn (p:Int32) : Nat := if p = 0 then 0 else if p = 1 then 1 else if p = 2 then 63 else if p = 3 then 64 else if p = 4 then 65 else if p = 5 then 66 else if p = 6 then 75 else 164
def QC (Z:State) (n:Nat) (h0:Heap) (n0:Nat) (v:Option Value) (h:Heap) (L:List Loc) : Prop := v = some (.ref h0.size) ∧ Fr n0 L ∧ Keep h0 h [] ∧ ∃ k,Arv Z h h0.size k .char (I n) ((List.replicate n (0:Int32)).map Value.int) (.int 0)
def own_L4 (p:Int32) : Prop := p = 82 ∨ p = 83 ∨ p = 84 ∨ p = 85
def l1 : zl := [(0,.iload_n 0,1),(1,.ifCond .ne 7,3),(4,.iconst 0,1),(5,.newarray .char,2),(7,.areturn,1),(8,.iload_n 0,1),(9,.iconst 1,1),(10,.if_icmp .ne 7,3),(13,.iconst 1,1),(14,.newarray .char,2),(16,.areturn,1),(17,.iload_n 0,1),(18,.iconst 2,1),(19,.if_icmp .ne 8,3),(22,.bipush 63,2),(24,.newarray .char,2),(26,.areturn,1),(27,.iload_n 0,1),(28,.iconst 3,1),(29,.if_icmp .ne 8,3),(32,.bipush 64,2),(34,.newarray .char,2),(36,.areturn,1),(37,.iload_n 0,1),(38,.iconst 4,1),(39,.if_icmp .ne 8,3),(42,.bipush 65,2),(44,.newarray .char,2),(46,.areturn,1),(47,.iload_n 0,1),(48,.iconst 5,1),(49,.if_icmp .ne 8,3),(52,.bipush 66,2),(54,.newarray .char,2),(56,.areturn,1),(57,.iload_n 0,1),(58,.bipush 6,2),(60,.if_icmp .ne 8,3),(63,.bipush 75,2),(65,.newarray .char,2),(67,.areturn,1),(68,.sipush 164,3),(71,.newarray .char,2),(73,.areturn,1)]
theorem D1 : zq method_4_code l1 := zd (by decide +kernel)
theorem pn_1 : plainName "com/example/dolmetsch/dolmetsch/BriefTextOfPinLaw" = true := by first | (simp [plainName,overriddenIn]; done) | decide +kernel
theorem r1_0 (l:Launch) (Z:State) (a0:Array Value) (hw:zH Z a0) (ws:List Jvm.Cond) (h0:Heap) (n0:Nat) (Z0:n0 ≤ h0.size) :
   zM l Z h0 ws y_2 method_4_code 1 (some (.array .char)) (zr 0 1 164 0) #[.int 0] (QC Z 0 h0 n0) := by
 refine zE pn_1 rfl fun p e s m below meth c s₁ Bd hx hby hml hown hZ X0 e0 => ?_
 have D := D1 Bd.bytes
 have N0 := Fr.nil n0
 obtain ⟨T2,h2,k2,X2,e2,E2,A2,st2⟩ := newP X0 hx hZ (zW hw 4 rfl) e0 (g:=(mkF m 5 #[vi 0] [.int 0])) rfl (D 3 rfl) rfl (by decide) (cap:=0) (by decide) (by decide) (by decide) (by decide)
 obtain ⟨b2,g2⟩ : ∃ z,z = h0.size := ⟨_,rfl⟩
 rw [← g2] at A2 st2
 have V_b2 : Arv Z h2 b2 k2 .char (I 0) ([] ++ (List.replicate (0) (Value.int 0))) (.int 0) := (Arv.new A2 (by decide)).pad (pad_rep [] (.int 0) 0)
 have g_b2 : n0 ≤ b2 := Nat.le_trans Z0 (Nat.le_of_eq g2.symm)
 have sz_b2 : h0.size ≤ b2 := (Nat.le_trans (Keep.refl h0 []).1 (Nat.le_of_eq g2.symm))
 have K2 : Keep h0 h2 [] := (Keep.refl h0 []).ext E2
 refine zL Bd X2 (ef_31 m (0:Int32)) (some (.ref b2)) nofun (by decide) (by decide) (fun fs hr => ?_) ?_
 · refine iN X0.here hx rfl (D 0 rfl) rfl (fN X0.here hx rfl (D 1 rfl) rfl ((if0 _ _).trans (teq (by decide)).2) (iC X0.here hx rfl (D 2 rfl) (st2 _ ?_)))
   jvm_step X2.here [X2.here.top,hx,(D 4 rfl),X2.method',Bd.returns,Value.isRef,FieldType.isReference]
   first | (intro acts; rw [hr _ acts rfl rfl rfl]) | rw [hr _ _ rfl rfl rfl]
   exact Steps.refl _
 · show QC Z 0 h0 n0 _ T2.heap _
   rw [e2]
   subst g2
   exact ⟨rfl,N0,K2,k2,by rw [List.map_replicate]; exact V_b2⟩
theorem r1_1 (l:Launch) (Z:State) (a0:Array Value) (hw:zH Z a0) (ws:List Jvm.Cond) (h0:Heap) (n0:Nat) (Z0:n0 ≤ h0.size) :
   zM l Z h0 ws y_2 method_4_code 1 (some (.array .char)) (zr 0 1 164 0) #[.int 1] (QC Z 1 h0 n0) := by
 refine zE pn_1 rfl fun p e s m below meth c s₁ Bd hx hby hml hown hZ X0 e0 => ?_
 have D := D1 Bd.bytes
 have N0 := Fr.nil n0
 obtain ⟨T2,h2,k2,X2,e2,E2,A2,st2⟩ := newP X0 hx hZ (zW hw 4 rfl) e0 (g:=(mkF m 14 #[vi 1] [.int 1])) rfl (D 9 rfl) rfl (by decide) (cap:=1) (by decide) (by decide) (by decide) (by decide)
 obtain ⟨b2,g2⟩ : ∃ z,z = h0.size := ⟨_,rfl⟩
 rw [← g2] at A2 st2
 have V_b2 : Arv Z h2 b2 k2 .char (I 1) ([] ++ (List.replicate (1) (Value.int 0))) (.int 0) := (Arv.new A2 (by decide)).pad (pad_rep [] (.int 0) 1)
 have g_b2 : n0 ≤ b2 := Nat.le_trans Z0 (Nat.le_of_eq g2.symm)
 have sz_b2 : h0.size ≤ b2 := (Nat.le_trans (Keep.refl h0 []).1 (Nat.le_of_eq g2.symm))
 have K2 : Keep h0 h2 [] := (Keep.refl h0 []).ext E2
 refine zL Bd X2 (ef_31 m (1:Int32)) (some (.ref b2)) nofun (by decide) (by decide) (fun fs hr => ?_) ?_
 · refine iN X0.here hx rfl (D 0 rfl) rfl (fY X0.here hx rfl (pc0 := 1) (pc':=8) rfl (D 1 rfl) rfl ((if0 _ _).trans (feq (by decide)).2) (by decide) (by decide) (iN X0.here hx rfl (D 5 rfl) rfl (iC X0.here hx rfl (D 6 rfl) ?_)))
   refine cN X0.here hx rfl (D 7 rfl) rfl (teq (by decide)).2 (iC X0.here hx rfl (D 8 rfl) (st2 _ ?_))
   jvm_step X2.here [X2.here.top,hx,(D 10 rfl),X2.method',Bd.returns,Value.isRef,FieldType.isReference]
   first | (intro acts; rw [hr _ acts rfl rfl rfl]) | rw [hr _ _ rfl rfl rfl]
   exact Steps.refl _
 · show QC Z 1 h0 n0 _ T2.heap _
   rw [e2]
   subst g2
   exact ⟨rfl,N0,K2,k2,by rw [List.map_replicate]; exact V_b2⟩
theorem r1_2 (l:Launch) (Z:State) (a0:Array Value) (hw:zH Z a0) (ws:List Jvm.Cond) (h0:Heap) (n0:Nat) (Z0:n0 ≤ h0.size) :
   zM l Z h0 ws y_2 method_4_code 1 (some (.array .char)) (zr 0 1 164 0) #[.int 2] (QC Z 63 h0 n0) := by
 refine zE pn_1 rfl fun p e s m below meth c s₁ Bd hx hby hml hown hZ X0 e0 => ?_
 have D := D1 Bd.bytes
 have N0 := Fr.nil n0
 obtain ⟨T2,h2,k2,X2,e2,E2,A2,st2⟩ := newP X0 hx hZ (zW hw 4 rfl) e0 (g:=(mkF m 24 #[vi 2] [.int 63])) rfl (D 15 rfl) rfl (by decide) (cap:=63) (by decide) (by decide) (by decide) (by decide)
 obtain ⟨b2,g2⟩ : ∃ z,z = h0.size := ⟨_,rfl⟩
 rw [← g2] at A2 st2
 have V_b2 : Arv Z h2 b2 k2 .char (I 63) ([] ++ (List.replicate (63) (Value.int 0))) (.int 0) := (Arv.new A2 (by decide)).pad (pad_rep [] (.int 0) 63)
 have g_b2 : n0 ≤ b2 := Nat.le_trans Z0 (Nat.le_of_eq g2.symm)
 have sz_b2 : h0.size ≤ b2 := (Nat.le_trans (Keep.refl h0 []).1 (Nat.le_of_eq g2.symm))
 have K2 : Keep h0 h2 [] := (Keep.refl h0 []).ext E2
 refine zL Bd X2 (ef_31 m (2:Int32)) (some (.ref b2)) nofun (by decide) (by decide) (fun fs hr => ?_) ?_
 · refine iN X0.here hx rfl (D 0 rfl) rfl (fY X0.here hx rfl (pc0 := 1) (pc':=8) rfl (D 1 rfl) rfl ((if0 _ _).trans (feq (by decide)).2) (by decide) (by decide) (iN X0.here hx rfl (D 5 rfl) rfl (iC X0.here hx rfl (D 6 rfl) ?_)))
   refine cY X0.here hx rfl (pc0 := 10) (pc':=17) rfl (D 7 rfl) rfl (feq (by decide)).2 (by decide) (by decide) (iN X0.here hx rfl (D 11 rfl) rfl (iC X0.here hx rfl (D 12 rfl) (cN X0.here hx rfl (D 13 rfl) rfl (teq (by decide)).2 ?_)))
   refine bP X0.here hx rfl (D 14 rfl) (st2 _ ?_)
   jvm_step X2.here [X2.here.top,hx,(D 16 rfl),X2.method',Bd.returns,Value.isRef,FieldType.isReference]
   first | (intro acts; rw [hr _ acts rfl rfl rfl]) | rw [hr _ _ rfl rfl rfl]
   exact Steps.refl _
 · show QC Z 63 h0 n0 _ T2.heap _
   rw [e2]
   subst g2
   exact ⟨rfl,N0,K2,k2,by rw [List.map_replicate]; exact V_b2⟩
theorem r1_3 (l:Launch) (Z:State) (a0:Array Value) (hw:zH Z a0) (ws:List Jvm.Cond) (h0:Heap) (n0:Nat) (Z0:n0 ≤ h0.size) :
   zM l Z h0 ws y_2 method_4_code 1 (some (.array .char)) (zr 0 1 164 0) #[.int 3] (QC Z 64 h0 n0) := by
 refine zE pn_1 rfl fun p e s m below meth c s₁ Bd hx hby hml hown hZ X0 e0 => ?_
 have D := D1 Bd.bytes
 have N0 := Fr.nil n0
 obtain ⟨T2,h2,k2,X2,e2,E2,A2,st2⟩ := newP X0 hx hZ (zW hw 4 rfl) e0 (g:=(mkF m 34 #[vi 3] [.int 64])) rfl (D 21 rfl) rfl (by decide) (cap:=64) (by decide) (by decide) (by decide) (by decide)
 obtain ⟨b2,g2⟩ : ∃ z,z = h0.size := ⟨_,rfl⟩
 rw [← g2] at A2 st2
 have V_b2 : Arv Z h2 b2 k2 .char (I 64) ([] ++ (List.replicate (64) (Value.int 0))) (.int 0) := (Arv.new A2 (by decide)).pad (pad_rep [] (.int 0) 64)
 have g_b2 : n0 ≤ b2 := Nat.le_trans Z0 (Nat.le_of_eq g2.symm)
 have sz_b2 : h0.size ≤ b2 := (Nat.le_trans (Keep.refl h0 []).1 (Nat.le_of_eq g2.symm))
 have K2 : Keep h0 h2 [] := (Keep.refl h0 []).ext E2
 refine zL Bd X2 (ef_31 m (3:Int32)) (some (.ref b2)) nofun (by decide) (by decide) (fun fs hr => ?_) ?_
 · refine iN X0.here hx rfl (D 0 rfl) rfl (fY X0.here hx rfl (pc0 := 1) (pc':=8) rfl (D 1 rfl) rfl ((if0 _ _).trans (feq (by decide)).2) (by decide) (by decide) (iN X0.here hx rfl (D 5 rfl) rfl (iC X0.here hx rfl (D 6 rfl) ?_)))
   refine cY X0.here hx rfl (pc0 := 10) (pc':=17) rfl (D 7 rfl) rfl (feq (by decide)).2 (by decide) (by decide) (iN X0.here hx rfl (D 11 rfl) rfl (iC X0.here hx rfl (D 12 rfl) (cY X0.here hx rfl (pc0 := 19) (pc':=27) rfl (D 13 rfl) rfl (feq (by decide)).2 (by decide) (by decide) ?_)))
   refine iN X0.here hx rfl (D 17 rfl) rfl (iC X0.here hx rfl (D 18 rfl) (cN X0.here hx rfl (D 19 rfl) rfl (teq (by decide)).2 (bP X0.here hx rfl (D 20 rfl) ?_)))
   refine st2 _ ?_
   jvm_step X2.here [X2.here.top,hx,(D 22 rfl),X2.method',Bd.returns,Value.isRef,FieldType.isReference]
   first | (intro acts; rw [hr _ acts rfl rfl rfl]) | rw [hr _ _ rfl rfl rfl]
   exact Steps.refl _
 · show QC Z 64 h0 n0 _ T2.heap _
   rw [e2]
   subst g2
   exact ⟨rfl,N0,K2,k2,by rw [List.map_replicate]; exact V_b2⟩
theorem r1_4 (l:Launch) (Z:State) (a0:Array Value) (hw:zH Z a0) (ws:List Jvm.Cond) (h0:Heap) (n0:Nat) (Z0:n0 ≤ h0.size) :
   zM l Z h0 ws y_2 method_4_code 1 (some (.array .char)) (zr 0 1 164 0) #[.int 4] (QC Z 65 h0 n0) := by
 refine zE pn_1 rfl fun p e s m below meth c s₁ Bd hx hby hml hown hZ X0 e0 => ?_
 have D := D1 Bd.bytes
 have N0 := Fr.nil n0
 obtain ⟨T2,h2,k2,X2,e2,E2,A2,st2⟩ := newP X0 hx hZ (zW hw 4 rfl) e0 (g:=(mkF m 44 #[vi 4] [.int 65])) rfl (D 27 rfl) rfl (by decide) (cap:=65) (by decide) (by decide) (by decide) (by decide)
 obtain ⟨b2,g2⟩ : ∃ z,z = h0.size := ⟨_,rfl⟩
 rw [← g2] at A2 st2
 have V_b2 : Arv Z h2 b2 k2 .char (I 65) ([] ++ (List.replicate (65) (Value.int 0))) (.int 0) := (Arv.new A2 (by decide)).pad (pad_rep [] (.int 0) 65)
 have g_b2 : n0 ≤ b2 := Nat.le_trans Z0 (Nat.le_of_eq g2.symm)
 have sz_b2 : h0.size ≤ b2 := (Nat.le_trans (Keep.refl h0 []).1 (Nat.le_of_eq g2.symm))
 have K2 : Keep h0 h2 [] := (Keep.refl h0 []).ext E2
 refine zL Bd X2 (ef_31 m (4:Int32)) (some (.ref b2)) nofun (by decide) (by decide) (fun fs hr => ?_) ?_
 · refine iN X0.here hx rfl (D 0 rfl) rfl (fY X0.here hx rfl (pc0 := 1) (pc':=8) rfl (D 1 rfl) rfl ((if0 _ _).trans (feq (by decide)).2) (by decide) (by decide) (iN X0.here hx rfl (D 5 rfl) rfl (iC X0.here hx rfl (D 6 rfl) ?_)))
   refine cY X0.here hx rfl (pc0 := 10) (pc':=17) rfl (D 7 rfl) rfl (feq (by decide)).2 (by decide) (by decide) (iN X0.here hx rfl (D 11 rfl) rfl (iC X0.here hx rfl (D 12 rfl) (cY X0.here hx rfl (pc0 := 19) (pc':=27) rfl (D 13 rfl) rfl (feq (by decide)).2 (by decide) (by decide) ?_)))
   refine iN X0.here hx rfl (D 17 rfl) rfl (iC X0.here hx rfl (D 18 rfl) (cY X0.here hx rfl (pc0 := 29) (pc':=37) rfl (D 19 rfl) rfl (feq (by decide)).2 (by decide) (by decide) (iN X0.here hx rfl (D 23 rfl) rfl ?_)))
   refine iC X0.here hx rfl (D 24 rfl) (cN X0.here hx rfl (D 25 rfl) rfl (teq (by decide)).2 (bP X0.here hx rfl (D 26 rfl) (st2 _ ?_)))
   jvm_step X2.here [X2.here.top,hx,(D 28 rfl),X2.method',Bd.returns,Value.isRef,FieldType.isReference]
   first | (intro acts; rw [hr _ acts rfl rfl rfl]) | rw [hr _ _ rfl rfl rfl]
   exact Steps.refl _
 · show QC Z 65 h0 n0 _ T2.heap _
   rw [e2]
   subst g2
   exact ⟨rfl,N0,K2,k2,by rw [List.map_replicate]; exact V_b2⟩
theorem r1_5 (l:Launch) (Z:State) (a0:Array Value) (hw:zH Z a0) (ws:List Jvm.Cond) (h0:Heap) (n0:Nat) (Z0:n0 ≤ h0.size) :
   zM l Z h0 ws y_2 method_4_code 1 (some (.array .char)) (zr 0 1 164 0) #[.int 5] (QC Z 66 h0 n0) := by
 refine zE pn_1 rfl fun p e s m below meth c s₁ Bd hx hby hml hown hZ X0 e0 => ?_
 have D := D1 Bd.bytes
 have N0 := Fr.nil n0
 obtain ⟨T2,h2,k2,X2,e2,E2,A2,st2⟩ := newP X0 hx hZ (zW hw 4 rfl) e0 (g:=(mkF m 54 #[vi 5] [.int 66])) rfl (D 33 rfl) rfl (by decide) (cap:=66) (by decide) (by decide) (by decide) (by decide)
 obtain ⟨b2,g2⟩ : ∃ z,z = h0.size := ⟨_,rfl⟩
 rw [← g2] at A2 st2
 have V_b2 : Arv Z h2 b2 k2 .char (I 66) ([] ++ (List.replicate (66) (Value.int 0))) (.int 0) := (Arv.new A2 (by decide)).pad (pad_rep [] (.int 0) 66)
 have g_b2 : n0 ≤ b2 := Nat.le_trans Z0 (Nat.le_of_eq g2.symm)
 have sz_b2 : h0.size ≤ b2 := (Nat.le_trans (Keep.refl h0 []).1 (Nat.le_of_eq g2.symm))
 have K2 : Keep h0 h2 [] := (Keep.refl h0 []).ext E2
 refine zL Bd X2 (ef_31 m (5:Int32)) (some (.ref b2)) nofun (by decide) (by decide) (fun fs hr => ?_) ?_
 · refine iN X0.here hx rfl (D 0 rfl) rfl (fY X0.here hx rfl (pc0 := 1) (pc':=8) rfl (D 1 rfl) rfl ((if0 _ _).trans (feq (by decide)).2) (by decide) (by decide) (iN X0.here hx rfl (D 5 rfl) rfl (iC X0.here hx rfl (D 6 rfl) ?_)))
   refine cY X0.here hx rfl (pc0 := 10) (pc':=17) rfl (D 7 rfl) rfl (feq (by decide)).2 (by decide) (by decide) (iN X0.here hx rfl (D 11 rfl) rfl (iC X0.here hx rfl (D 12 rfl) (cY X0.here hx rfl (pc0 := 19) (pc':=27) rfl (D 13 rfl) rfl (feq (by decide)).2 (by decide) (by decide) ?_)))
   refine iN X0.here hx rfl (D 17 rfl) rfl (iC X0.here hx rfl (D 18 rfl) (cY X0.here hx rfl (pc0 := 29) (pc':=37) rfl (D 19 rfl) rfl (feq (by decide)).2 (by decide) (by decide) (iN X0.here hx rfl (D 23 rfl) rfl ?_)))
   refine iC X0.here hx rfl (D 24 rfl) (cY X0.here hx rfl (pc0 := 39) (pc':=47) rfl (D 25 rfl) rfl (feq (by decide)).2 (by decide) (by decide) (iN X0.here hx rfl (D 29 rfl) rfl (iC X0.here hx rfl (D 30 rfl) ?_)))
   refine cN X0.here hx rfl (D 31 rfl) rfl (teq (by decide)).2 (bP X0.here hx rfl (D 32 rfl) (st2 _ ?_))
   jvm_step X2.here [X2.here.top,hx,(D 34 rfl),X2.method',Bd.returns,Value.isRef,FieldType.isReference]
   first | (intro acts; rw [hr _ acts rfl rfl rfl]) | rw [hr _ _ rfl rfl rfl]
   exact Steps.refl _
 · show QC Z 66 h0 n0 _ T2.heap _
   rw [e2]
   subst g2
   exact ⟨rfl,N0,K2,k2,by rw [List.map_replicate]; exact V_b2⟩
theorem r1_6 (l:Launch) (Z:State) (a0:Array Value) (hw:zH Z a0) (ws:List Jvm.Cond) (h0:Heap) (n0:Nat) (Z0:n0 ≤ h0.size) :
   zM l Z h0 ws y_2 method_4_code 1 (some (.array .char)) (zr 0 1 164 0) #[.int 6] (QC Z 75 h0 n0) := by
 refine zE pn_1 rfl fun p e s m below meth c s₁ Bd hx hby hml hown hZ X0 e0 => ?_
 have D := D1 Bd.bytes
 have N0 := Fr.nil n0
 obtain ⟨T2,h2,k2,X2,e2,E2,A2,st2⟩ := newP X0 hx hZ (zW hw 4 rfl) e0 (g:=(mkF m 65 #[vi 6] [.int 75])) rfl (D 39 rfl) rfl (by decide) (cap:=75) (by decide) (by decide) (by decide) (by decide)
 obtain ⟨b2,g2⟩ : ∃ z,z = h0.size := ⟨_,rfl⟩
 rw [← g2] at A2 st2
 have V_b2 : Arv Z h2 b2 k2 .char (I 75) ([] ++ (List.replicate (75) (Value.int 0))) (.int 0) := (Arv.new A2 (by decide)).pad (pad_rep [] (.int 0) 75)
 have g_b2 : n0 ≤ b2 := Nat.le_trans Z0 (Nat.le_of_eq g2.symm)
 have sz_b2 : h0.size ≤ b2 := (Nat.le_trans (Keep.refl h0 []).1 (Nat.le_of_eq g2.symm))
 have K2 : Keep h0 h2 [] := (Keep.refl h0 []).ext E2
 refine zL Bd X2 (ef_31 m (6:Int32)) (some (.ref b2)) nofun (by decide) (by decide) (fun fs hr => ?_) ?_
 · refine iN X0.here hx rfl (D 0 rfl) rfl (fY X0.here hx rfl (pc0 := 1) (pc':=8) rfl (D 1 rfl) rfl ((if0 _ _).trans (feq (by decide)).2) (by decide) (by decide) (iN X0.here hx rfl (D 5 rfl) rfl (iC X0.here hx rfl (D 6 rfl) ?_)))
   refine cY X0.here hx rfl (pc0 := 10) (pc':=17) rfl (D 7 rfl) rfl (feq (by decide)).2 (by decide) (by decide) (iN X0.here hx rfl (D 11 rfl) rfl (iC X0.here hx rfl (D 12 rfl) (cY X0.here hx rfl (pc0 := 19) (pc':=27) rfl (D 13 rfl) rfl (feq (by decide)).2 (by decide) (by decide) ?_)))
   refine iN X0.here hx rfl (D 17 rfl) rfl (iC X0.here hx rfl (D 18 rfl) (cY X0.here hx rfl (pc0 := 29) (pc':=37) rfl (D 19 rfl) rfl (feq (by decide)).2 (by decide) (by decide) (iN X0.here hx rfl (D 23 rfl) rfl ?_)))
   refine iC X0.here hx rfl (D 24 rfl) (cY X0.here hx rfl (pc0 := 39) (pc':=47) rfl (D 25 rfl) rfl (feq (by decide)).2 (by decide) (by decide) (iN X0.here hx rfl (D 29 rfl) rfl (iC X0.here hx rfl (D 30 rfl) ?_)))
   refine cY X0.here hx rfl (pc0 := 49) (pc':=57) rfl (D 31 rfl) rfl (feq (by decide)).2 (by decide) (by decide) (iN X0.here hx rfl (D 35 rfl) rfl (bP X0.here hx rfl (D 36 rfl) (cN X0.here hx rfl (D 37 rfl) rfl (teq (by decide)).2 ?_)))
   refine bP X0.here hx rfl (D 38 rfl) (st2 _ ?_)
   jvm_step X2.here [X2.here.top,hx,(D 40 rfl),X2.method',Bd.returns,Value.isRef,FieldType.isReference]
   first | (intro acts; rw [hr _ acts rfl rfl rfl]) | rw [hr _ _ rfl rfl rfl]
   exact Steps.refl _
 · show QC Z 75 h0 n0 _ T2.heap _
   rw [e2]
   subst g2
   exact ⟨rfl,N0,K2,k2,by rw [List.map_replicate]; exact V_b2⟩
theorem r1_7 (l:Launch) (Z:State) (a0:Array Value) (hw:zH Z a0) (ws:List Jvm.Cond) (h0:Heap) (n0:Nat) (Z0:n0 ≤ h0.size) :
   zM l Z h0 ws y_2 method_4_code 1 (some (.array .char)) (zr 0 1 164 0) #[.int 7] (QC Z 164 h0 n0) := by
 refine zE pn_1 rfl fun p e s m below meth c s₁ Bd hx hby hml hown hZ X0 e0 => ?_
 have D := D1 Bd.bytes
 have N0 := Fr.nil n0
 obtain ⟨T2,h2,k2,X2,e2,E2,A2,st2⟩ := newP X0 hx hZ (zW hw 4 rfl) e0 (g:=(mkF m 71 #[vi 7] [.int 164])) rfl (D 42 rfl) rfl (by decide) (cap:=164) (by decide) (by decide) (by decide) (by decide)
 obtain ⟨b2,g2⟩ : ∃ z,z = h0.size := ⟨_,rfl⟩
 rw [← g2] at A2 st2
 have V_b2 : Arv Z h2 b2 k2 .char (I 164) ([] ++ (List.replicate (164) (Value.int 0))) (.int 0) := (Arv.new A2 (by decide)).pad (pad_rep [] (.int 0) 164)
 have g_b2 : n0 ≤ b2 := Nat.le_trans Z0 (Nat.le_of_eq g2.symm)
 have sz_b2 : h0.size ≤ b2 := (Nat.le_trans (Keep.refl h0 []).1 (Nat.le_of_eq g2.symm))
 have K2 : Keep h0 h2 [] := (Keep.refl h0 []).ext E2
 refine zL Bd X2 (ef_31 m (7:Int32)) (some (.ref b2)) nofun (by decide) (by decide) (fun fs hr => ?_) ?_
 · refine iN X0.here hx rfl (D 0 rfl) rfl (fY X0.here hx rfl (pc0 := 1) (pc':=8) rfl (D 1 rfl) rfl ((if0 _ _).trans (feq (by decide)).2) (by decide) (by decide) (iN X0.here hx rfl (D 5 rfl) rfl (iC X0.here hx rfl (D 6 rfl) ?_)))
   refine cY X0.here hx rfl (pc0 := 10) (pc':=17) rfl (D 7 rfl) rfl (feq (by decide)).2 (by decide) (by decide) (iN X0.here hx rfl (D 11 rfl) rfl (iC X0.here hx rfl (D 12 rfl) (cY X0.here hx rfl (pc0 := 19) (pc':=27) rfl (D 13 rfl) rfl (feq (by decide)).2 (by decide) (by decide) ?_)))
   refine iN X0.here hx rfl (D 17 rfl) rfl (iC X0.here hx rfl (D 18 rfl) (cY X0.here hx rfl (pc0 := 29) (pc':=37) rfl (D 19 rfl) rfl (feq (by decide)).2 (by decide) (by decide) (iN X0.here hx rfl (D 23 rfl) rfl ?_)))
   refine iC X0.here hx rfl (D 24 rfl) (cY X0.here hx rfl (pc0 := 39) (pc':=47) rfl (D 25 rfl) rfl (feq (by decide)).2 (by decide) (by decide) (iN X0.here hx rfl (D 29 rfl) rfl (iC X0.here hx rfl (D 30 rfl) ?_)))
   refine cY X0.here hx rfl (pc0 := 49) (pc':=57) rfl (D 31 rfl) rfl (feq (by decide)).2 (by decide) (by decide) (iN X0.here hx rfl (D 35 rfl) rfl (bP X0.here hx rfl (D 36 rfl) (cY X0.here hx rfl (pc0 := 60) (pc':=68) rfl (D 37 rfl) rfl (feq (by decide)).2 (by decide) (by decide) ?_)))
   refine XS.sipush X0.here hx rfl (D 41 rfl) (st2 _ ?_)
   jvm_step X2.here [X2.here.top,hx,(D 43 rfl),X2.method',Bd.returns,Value.isRef,FieldType.isReference]
   first | (intro acts; rw [hr _ acts rfl rfl rfl]) | rw [hr _ _ rfl rfl rfl]
   exact Steps.refl _
 · show QC Z 164 h0 n0 _ T2.heap _
   rw [e2]
   subst g2
   exact ⟨rfl,N0,K2,k2,by rw [List.map_replicate]; exact V_b2⟩
theorem r1 (l:Launch) (Z:State) (a0:Array Value) (hw:zH Z a0) (ws:List Jvm.Cond) (p1:Int32) (h0:Heap) (n0:Nat) (Z0:n0 ≤ h0.size) (hp:own_k8 p1) :
   zM l Z h0 ws y_2 method_4_code 1 (some (.array .char)) (zr 0 1 164 0) #[.int p1] (QC Z (own_tn p1) h0 n0) := by
 rcases hp with rfl | rfl | rfl | rfl | rfl | rfl | rfl | rfl
 · exact r1_0 l Z a0 hw ws h0 n0 Z0
 · exact r1_1 l Z a0 hw ws h0 n0 Z0
 · exact r1_2 l Z a0 hw ws h0 n0 Z0
 · exact r1_3 l Z a0 hw ws h0 n0 Z0
 · exact r1_4 l Z a0 hw ws h0 n0 Z0
 · exact r1_5 l Z a0 hw ws h0 n0 Z0
 · exact r1_6 l Z a0 hw ws h0 n0 Z0
 · exact r1_7 l Z a0 hw ws h0 n0 Z0
def l51 : zl := [(0,.iload_n 0,1),(1,.bipush 82,2),(3,.if_icmp .ne 8,3),(6,.bipush 82,2),(8,.newarray .char,2),(10,.areturn,1),(11,.iload_n 0,1),(12,.bipush 83,2),(14,.if_icmp .ne 8,3),(17,.bipush 83,2),(19,.newarray .char,2),(21,.areturn,1),(22,.iload_n 0,1),(23,.bipush 84,2),(25,.if_icmp .ne 8,3),(28,.bipush 84,2),(30,.newarray .char,2),(32,.areturn,1),(33,.bipush 85,2),(35,.newarray .char,2),(37,.areturn,1)]
theorem D51 : zq method_5_code l51 := zd (by decide +kernel)
theorem r51_82 (l:Launch) (Z:State) (a0:Array Value) (hw:zH Z a0) (ws:List Jvm.Cond) (h0:Heap) (n0:Nat) (Z0:n0 ≤ h0.size) :
   zM l Z h0 ws y_10 method_5_code 1 (some (.array .char)) (zr 0 1 85 0) #[.int 82] (QC Z 82 h0 n0) := by
 refine zE pn_1 rfl fun p e s m below meth c s₁ Bd hx hby hml hown hZ X0 e0 => ?_
 have D := D51 Bd.bytes
 have N0 := Fr.nil n0
 obtain ⟨T2,h2,k2,X2,e2,E2,A2,st2⟩ := newP X0 hx hZ (zW hw 4 rfl) e0 (g:=(mkF m 8 #[vi 82] [.int 82])) rfl (D 4 rfl) rfl (by decide) (cap:=82) (by decide) (by decide) (by decide) (by decide)
 obtain ⟨b2,g2⟩ : ∃ z,z = h0.size := ⟨_,rfl⟩
 rw [← g2] at A2 st2
 have V_b2 : Arv Z h2 b2 k2 .char (I 82) ([] ++ (List.replicate (82) (Value.int 0))) (.int 0) := (Arv.new A2 (by decide)).pad (pad_rep [] (.int 0) 82)
 have g_b2 : n0 ≤ b2 := Nat.le_trans Z0 (Nat.le_of_eq g2.symm)
 have sz_b2 : h0.size ≤ b2 := (Nat.le_trans (Keep.refl h0 []).1 (Nat.le_of_eq g2.symm))
 have K2 : Keep h0 h2 [] := (Keep.refl h0 []).ext E2
 refine zL Bd X2 (ef_31 m (82:Int32)) (some (.ref b2)) nofun (by decide) (by decide) (fun fs hr => ?_) ?_
 · refine iN X0.here hx rfl (D 0 rfl) rfl (bP X0.here hx rfl (D 1 rfl) (cN X0.here hx rfl (D 2 rfl) rfl (teq (by decide)).2 (bP X0.here hx rfl (D 3 rfl) ?_)))
   refine st2 _ ?_
   jvm_step X2.here [X2.here.top,hx,(D 5 rfl),X2.method',Bd.returns,Value.isRef,FieldType.isReference]
   first | (intro acts; rw [hr _ acts rfl rfl rfl]) | rw [hr _ _ rfl rfl rfl]
   exact Steps.refl _
 · show QC Z 82 h0 n0 _ T2.heap _
   rw [e2]
   subst g2
   exact ⟨rfl,N0,K2,k2,by rw [List.map_replicate]; exact V_b2⟩
theorem r51_83 (l:Launch) (Z:State) (a0:Array Value) (hw:zH Z a0) (ws:List Jvm.Cond) (h0:Heap) (n0:Nat) (Z0:n0 ≤ h0.size) :
   zM l Z h0 ws y_10 method_5_code 1 (some (.array .char)) (zr 0 1 85 0) #[.int 83] (QC Z 83 h0 n0) := by
 refine zE pn_1 rfl fun p e s m below meth c s₁ Bd hx hby hml hown hZ X0 e0 => ?_
 have D := D51 Bd.bytes
 have N0 := Fr.nil n0
 obtain ⟨T2,h2,k2,X2,e2,E2,A2,st2⟩ := newP X0 hx hZ (zW hw 4 rfl) e0 (g:=(mkF m 19 #[vi 83] [.int 83])) rfl (D 10 rfl) rfl (by decide) (cap:=83) (by decide) (by decide) (by decide) (by decide)
 obtain ⟨b2,g2⟩ : ∃ z,z = h0.size := ⟨_,rfl⟩
 rw [← g2] at A2 st2
 have V_b2 : Arv Z h2 b2 k2 .char (I 83) ([] ++ (List.replicate (83) (Value.int 0))) (.int 0) := (Arv.new A2 (by decide)).pad (pad_rep [] (.int 0) 83)
 have g_b2 : n0 ≤ b2 := Nat.le_trans Z0 (Nat.le_of_eq g2.symm)
 have sz_b2 : h0.size ≤ b2 := (Nat.le_trans (Keep.refl h0 []).1 (Nat.le_of_eq g2.symm))
 have K2 : Keep h0 h2 [] := (Keep.refl h0 []).ext E2
 refine zL Bd X2 (ef_31 m (83:Int32)) (some (.ref b2)) nofun (by decide) (by decide) (fun fs hr => ?_) ?_
 · refine iN X0.here hx rfl (D 0 rfl) rfl (bP X0.here hx rfl (D 1 rfl) (cY X0.here hx rfl (pc0 := 3) (pc':=11) rfl (D 2 rfl) rfl (feq (by decide)).2 (by decide) (by decide) (iN X0.here hx rfl (D 6 rfl) rfl ?_)))
   refine bP X0.here hx rfl (D 7 rfl) (cN X0.here hx rfl (D 8 rfl) rfl (teq (by decide)).2 (bP X0.here hx rfl (D 9 rfl) (st2 _ ?_)))
   jvm_step X2.here [X2.here.top,hx,(D 11 rfl),X2.method',Bd.returns,Value.isRef,FieldType.isReference]
   first | (intro acts; rw [hr _ acts rfl rfl rfl]) | rw [hr _ _ rfl rfl rfl]
   exact Steps.refl _
 · show QC Z 83 h0 n0 _ T2.heap _
   rw [e2]
   subst g2
   exact ⟨rfl,N0,K2,k2,by rw [List.map_replicate]; exact V_b2⟩
theorem r51_84 (l:Launch) (Z:State) (a0:Array Value) (hw:zH Z a0) (ws:List Jvm.Cond) (h0:Heap) (n0:Nat) (Z0:n0 ≤ h0.size) :
   zM l Z h0 ws y_10 method_5_code 1 (some (.array .char)) (zr 0 1 85 0) #[.int 84] (QC Z 84 h0 n0) := by
 refine zE pn_1 rfl fun p e s m below meth c s₁ Bd hx hby hml hown hZ X0 e0 => ?_
 have D := D51 Bd.bytes
 have N0 := Fr.nil n0
 obtain ⟨T2,h2,k2,X2,e2,E2,A2,st2⟩ := newP X0 hx hZ (zW hw 4 rfl) e0 (g:=(mkF m 30 #[vi 84] [.int 84])) rfl (D 16 rfl) rfl (by decide) (cap:=84) (by decide) (by decide) (by decide) (by decide)
 obtain ⟨b2,g2⟩ : ∃ z,z = h0.size := ⟨_,rfl⟩
 rw [← g2] at A2 st2
 have V_b2 : Arv Z h2 b2 k2 .char (I 84) ([] ++ (List.replicate (84) (Value.int 0))) (.int 0) := (Arv.new A2 (by decide)).pad (pad_rep [] (.int 0) 84)
 have g_b2 : n0 ≤ b2 := Nat.le_trans Z0 (Nat.le_of_eq g2.symm)
 have sz_b2 : h0.size ≤ b2 := (Nat.le_trans (Keep.refl h0 []).1 (Nat.le_of_eq g2.symm))
 have K2 : Keep h0 h2 [] := (Keep.refl h0 []).ext E2
 refine zL Bd X2 (ef_31 m (84:Int32)) (some (.ref b2)) nofun (by decide) (by decide) (fun fs hr => ?_) ?_
 · refine iN X0.here hx rfl (D 0 rfl) rfl (bP X0.here hx rfl (D 1 rfl) (cY X0.here hx rfl (pc0 := 3) (pc':=11) rfl (D 2 rfl) rfl (feq (by decide)).2 (by decide) (by decide) (iN X0.here hx rfl (D 6 rfl) rfl ?_)))
   refine bP X0.here hx rfl (D 7 rfl) (cY X0.here hx rfl (pc0 := 14) (pc':=22) rfl (D 8 rfl) rfl (feq (by decide)).2 (by decide) (by decide) (iN X0.here hx rfl (D 12 rfl) rfl (bP X0.here hx rfl (D 13 rfl) ?_)))
   refine cN X0.here hx rfl (D 14 rfl) rfl (teq (by decide)).2 (bP X0.here hx rfl (D 15 rfl) (st2 _ ?_))
   jvm_step X2.here [X2.here.top,hx,(D 17 rfl),X2.method',Bd.returns,Value.isRef,FieldType.isReference]
   first | (intro acts; rw [hr _ acts rfl rfl rfl]) | rw [hr _ _ rfl rfl rfl]
   exact Steps.refl _
 · show QC Z 84 h0 n0 _ T2.heap _
   rw [e2]
   subst g2
   exact ⟨rfl,N0,K2,k2,by rw [List.map_replicate]; exact V_b2⟩
theorem r51_85 (l:Launch) (Z:State) (a0:Array Value) (hw:zH Z a0) (ws:List Jvm.Cond) (h0:Heap) (n0:Nat) (Z0:n0 ≤ h0.size) :
   zM l Z h0 ws y_10 method_5_code 1 (some (.array .char)) (zr 0 1 85 0) #[.int 85] (QC Z 85 h0 n0) := by
 refine zE pn_1 rfl fun p e s m below meth c s₁ Bd hx hby hml hown hZ X0 e0 => ?_
 have D := D51 Bd.bytes
 have N0 := Fr.nil n0
 obtain ⟨T2,h2,k2,X2,e2,E2,A2,st2⟩ := newP X0 hx hZ (zW hw 4 rfl) e0 (g:=(mkF m 35 #[vi 85] [.int 85])) rfl (D 19 rfl) rfl (by decide) (cap:=85) (by decide) (by decide) (by decide) (by decide)
 obtain ⟨b2,g2⟩ : ∃ z,z = h0.size := ⟨_,rfl⟩
 rw [← g2] at A2 st2
 have V_b2 : Arv Z h2 b2 k2 .char (I 85) ([] ++ (List.replicate (85) (Value.int 0))) (.int 0) := (Arv.new A2 (by decide)).pad (pad_rep [] (.int 0) 85)
 have g_b2 : n0 ≤ b2 := Nat.le_trans Z0 (Nat.le_of_eq g2.symm)
 have sz_b2 : h0.size ≤ b2 := (Nat.le_trans (Keep.refl h0 []).1 (Nat.le_of_eq g2.symm))
 have K2 : Keep h0 h2 [] := (Keep.refl h0 []).ext E2
 refine zL Bd X2 (ef_31 m (85:Int32)) (some (.ref b2)) nofun (by decide) (by decide) (fun fs hr => ?_) ?_
 · refine iN X0.here hx rfl (D 0 rfl) rfl (bP X0.here hx rfl (D 1 rfl) (cY X0.here hx rfl (pc0 := 3) (pc':=11) rfl (D 2 rfl) rfl (feq (by decide)).2 (by decide) (by decide) (iN X0.here hx rfl (D 6 rfl) rfl ?_)))
   refine bP X0.here hx rfl (D 7 rfl) (cY X0.here hx rfl (pc0 := 14) (pc':=22) rfl (D 8 rfl) rfl (feq (by decide)).2 (by decide) (by decide) (iN X0.here hx rfl (D 12 rfl) rfl (bP X0.here hx rfl (D 13 rfl) ?_)))
   refine cY X0.here hx rfl (pc0 := 25) (pc':=33) rfl (D 14 rfl) rfl (feq (by decide)).2 (by decide) (by decide) (bP X0.here hx rfl (D 18 rfl) (st2 _ ?_))
   jvm_step X2.here [X2.here.top,hx,(D 20 rfl),X2.method',Bd.returns,Value.isRef,FieldType.isReference]
   first | (intro acts; rw [hr _ acts rfl rfl rfl]) | rw [hr _ _ rfl rfl rfl]
   exact Steps.refl _
 · show QC Z 85 h0 n0 _ T2.heap _
   rw [e2]
   subst g2
   exact ⟨rfl,N0,K2,k2,by rw [List.map_replicate]; exact V_b2⟩
theorem r51 (l:Launch) (Z:State) (a0:Array Value) (hw:zH Z a0) (ws:List Jvm.Cond) (p1:Int32) (n:Nat) (h0:Heap) (n0:Nat) (Z0:n0 ≤ h0.size) (hp:own_L4 p1) (hn:p1 = I n) (hn9:n < 100) :
   zM l Z h0 ws y_10 method_5_code 1 (some (.array .char)) (zr 0 1 85 0) #[.int p1] (QC Z n h0 n0) := by
 rcases hp with rfl | rfl | rfl | rfl
 · obtain rfl : 82 = n := (own_eq 82 n (by decide) (by omega)).mp hn
   exact r51_82 l Z a0 hw ws h0 n0 Z0
 · obtain rfl : 83 = n := (own_eq 83 n (by decide) (by omega)).mp hn
   exact r51_83 l Z a0 hw ws h0 n0 Z0
 · obtain rfl : 84 = n := (own_eq 84 n (by decide) (by omega)).mp hn
   exact r51_84 l Z a0 hw ws h0 n0 Z0
 · obtain rfl : 85 = n := (own_eq 85 n (by decide) (by omega)).mp hn
   exact r51_85 l Z a0 hw ws h0 n0 Z0
def own_cw : List Int32 := [32,109,111,114,101,32,99,104,97,114,97,99,116,101,114]
def own_wset (vs:List Value) (i:Nat) : List Int32 → List Value
 | [] => vs
 | c :: cs => own_wset (vs.set i (.int c)) (i + 1) cs
def Q52 (Z:State) (a1:Addr) (kd:ClassId) (n i:Nat) (vs:List Value) (h0:Heap) (n0:Nat) (v:Option Value) (h:Heap) (L:List Loc) : Prop := v = some (.int (I (i + 15))) ∧ Fr n0 L ∧ Keep h0 h [a1] ∧ Arv Z h a1 kd .char (I n) (own_wset vs i own_cw) (.int 0)
def l52 : zl := [(0,.aload_n 0,1),(1,.iload_n 1,1),(2,.bipush 32,2),(4,.castore,1),(5,.aload_n 0,1),(6,.iload_n 1,1),(7,.iconst 1,1),(8,.iadd,1),(9,.bipush 109,2),(11,.castore,1),(12,.aload_n 0,1),(13,.iload_n 1,1),(14,.iconst 2,1),(15,.iadd,1),(16,.bipush 111,2),(18,.castore,1),(19,.aload_n 0,1),(20,.iload_n 1,1),(21,.iconst 3,1),(22,.iadd,1),(23,.bipush 114,2),(25,.castore,1),(26,.aload_n 0,1),(27,.iload_n 1,1),(28,.iconst 4,1),(29,.iadd,1),(30,.bipush 101,2),(32,.castore,1),(33,.aload_n 0,1),(34,.iload_n 1,1),(35,.iconst 5,1),(36,.iadd,1),(37,.bipush 32,2),(39,.castore,1),(40,.aload_n 0,1),(41,.iload_n 1,1),(42,.bipush 6,2),(44,.iadd,1),(45,.bipush 99,2),(47,.castore,1),(48,.aload_n 0,1),(49,.iload_n 1,1),(50,.bipush 7,2),(52,.iadd,1),(53,.bipush 104,2),(55,.castore,1),(56,.aload_n 0,1),(57,.iload_n 1,1),(58,.bipush 8,2),(60,.iadd,1),(61,.bipush 97,2),(63,.castore,1),(64,.aload_n 0,1),(65,.iload_n 1,1),(66,.bipush 9,2),(68,.iadd,1),(69,.bipush 114,2),(71,.castore,1),(72,.aload_n 0,1),(73,.iload_n 1,1),(74,.bipush 10,2),(76,.iadd,1),(77,.bipush 97,2),(79,.castore,1),(80,.aload_n 0,1),(81,.iload_n 1,1),(82,.bipush 11,2),(84,.iadd,1),(85,.bipush 99,2),(87,.castore,1),(88,.aload_n 0,1),(89,.iload_n 1,1),(90,.bipush 12,2),(92,.iadd,1),(93,.bipush 116,2),(95,.castore,1),(96,.aload_n 0,1),(97,.iload_n 1,1),(98,.bipush 13,2),(100,.iadd,1),(101,.bipush 101,2),(103,.castore,1),(104,.aload_n 0,1),(105,.iload_n 1,1),(106,.bipush 14,2),(108,.iadd,1),(109,.bipush 114,2),(111,.castore,1),(112,.iload_n 1,1),(113,.bipush 15,2),(115,.iadd,1),(116,.ireturn,1)]
theorem D52 : zq method_3_code l52 := zd (by decide +kernel)
theorem own_b15 {i n:Nat} (hi:i + 15 ≤ n) (hn:n < 100) (k:Nat) (hk:k < 15) : i + k < 2147483648 ∧ i + k < n := by omega
theorem r52 (l:Launch) (Z:State) (a0:Array Value) (hw:zH Z a0) (ws:List Jvm.Cond) (a1:Addr) (kd:ClassId) (n i:Nat) (vs:List Value) (h0:Heap) (n0:Nat) (Z0:n0 ≤ h0.size) (V:Arv Z h0 a1 kd .char (I n) vs (.int 0)) (hvs:vs.length = n) (hi:i + 15 ≤ n) (hn:n < 100) (g_a1:n0 ≤ a1) :
   zM l Z h0 ws y_46 method_3_code 2 (some .int) (zr 0 0 0 0) #[.ref a1,(.int (I i))] (Q52 Z a1 kd n i vs h0 n0) := by
 refine zE pn_1 rfl fun p e s m below meth c s₁ Bd hx hby hml hown hZ X0 e0 => ?_
 have hnB : n < 2147483648 := by omega
 obtain ⟨clV,ArV,qV,SV,NV,HV,GV⟩ := id V
 have SzV : clV.slots.size = n := by rw [SV]; exact own_cl n hnB
 have D := D52 Bd.bytes
 have N0 := Fr.nil n0
 have hp_3 : (I i) = I (i) := rfl
 have x_3 : ((I i)).toNatClampNeg = i := by rw [hp_3]; exact own_cl _ (own_b15 hi hn 0 (by decide)).1
 have hn_3 : ¬ ((I i) < 0 ∨ clV.slots.size ≤ ((I i)).toNatClampNeg) := by rw [x_3,SzV,hp_3]; exact fun q => q.elim (own_nn _ (own_b15 hi hn 0 (by decide)).1) (Nat.not_le_of_lt (own_b15 hi hn 0 (by decide)).2)
 obtain ⟨T3,h3,X3,e3,W3,st3⟩ := stC X0 hx hZ e0 ArV (j:=(I i)) hn_3 (g:=(mkF m 4 #[vr a1,vi (I i)] [.int 32,(.int (I i)),.ref a1])) rfl rfl (D 3 rfl)
 have N3 := Fr.snoc X3 N0 g_a1
 have V3 := Arv.set ArV qV SV NV HV GV (fits_nar_char _) W3 (i) x_3 (by rw [hvs]; exact (own_b15 hi hn 0 (by decide)).2)
 obtain ⟨clV3,ArV3,qV3,SV3,NV3,HV3,GV3⟩ := id V3
 have SzV3 : clV3.slots.size = n := by rw [SV3]; exact own_cl n hnB
 have K3 : Keep h0 h3 [a1] := (Keep.refl h0 [a1]).wr W3 (Or.inl (List.mem_of_getElem? (i:=0) rfl))
 have hp_4 : ((I i) + 1) = I (i + 1) := (Int32.ofNat_add _ _).symm
 have x_4 : (((I i) + 1)).toNatClampNeg = i + 1 := by rw [hp_4]; exact own_cl _ (own_b15 hi hn 1 (by decide)).1
 have hn_4 : ¬ (((I i) + 1) < 0 ∨ clV3.slots.size ≤ (((I i) + 1)).toNatClampNeg) := by rw [x_4,SzV3,hp_4]; exact fun q => q.elim (own_nn _ (own_b15 hi hn 1 (by decide)).1) (Nat.not_le_of_lt (own_b15 hi hn 1 (by decide)).2)
 obtain ⟨T4,h4,X4,e4,W4,st4⟩ := stC X3 hx hZ e3 ArV3 (j:=((I i) + 1)) hn_4 (g:=(mkF m 11 #[vr a1,vi (I i)] [.int 109,(.int ((I i) + 1)),.ref a1])) rfl rfl (D 9 rfl)
 have N4 := Fr.snoc X4 N3 g_a1
 have V4 := Arv.set ArV3 qV3 SV3 NV3 HV3 GV3 (fits_nar_char _) W4 (i + 1) x_4 (by rw [List.length_set]; rw [hvs]; exact (own_b15 hi hn 1 (by decide)).2)
 obtain ⟨clV4,ArV4,qV4,SV4,NV4,HV4,GV4⟩ := id V4
 have SzV4 : clV4.slots.size = n := by rw [SV4]; exact own_cl n hnB
 have K4 : Keep h0 h4 [a1] := K3.wr W4 (Or.inl (List.mem_of_getElem? (i:=0) rfl))
 have hp_5 : ((I i) + 2) = I (i + 2) := (Int32.ofNat_add _ _).symm
 have x_5 : (((I i) + 2)).toNatClampNeg = i + 2 := by rw [hp_5]; exact own_cl _ (own_b15 hi hn 2 (by decide)).1
 have hn_5 : ¬ (((I i) + 2) < 0 ∨ clV4.slots.size ≤ (((I i) + 2)).toNatClampNeg) := by rw [x_5,SzV4,hp_5]; exact fun q => q.elim (own_nn _ (own_b15 hi hn 2 (by decide)).1) (Nat.not_le_of_lt (own_b15 hi hn 2 (by decide)).2)
 obtain ⟨T5,h5,X5,e5,W5,st5⟩ := stC X4 hx hZ e4 ArV4 (j:=((I i) + 2)) hn_5 (g:=(mkF m 18 #[vr a1,vi (I i)] [.int 111,(.int ((I i) + 2)),.ref a1])) rfl rfl (D 15 rfl)
 have N5 := Fr.snoc X5 N4 g_a1
 have V5 := Arv.set ArV4 qV4 SV4 NV4 HV4 GV4 (fits_nar_char _) W5 (i + 2) x_5 (by rw [List.length_set,List.length_set]; rw [hvs]; exact (own_b15 hi hn 2 (by decide)).2)
 obtain ⟨clV5,ArV5,qV5,SV5,NV5,HV5,GV5⟩ := id V5
 have SzV5 : clV5.slots.size = n := by rw [SV5]; exact own_cl n hnB
 have K5 : Keep h0 h5 [a1] := K4.wr W5 (Or.inl (List.mem_of_getElem? (i:=0) rfl))
 have hp_6 : ((I i) + 3) = I (i + 3) := (Int32.ofNat_add _ _).symm
 have x_6 : (((I i) + 3)).toNatClampNeg = i + 3 := by rw [hp_6]; exact own_cl _ (own_b15 hi hn 3 (by decide)).1
 have hn_6 : ¬ (((I i) + 3) < 0 ∨ clV5.slots.size ≤ (((I i) + 3)).toNatClampNeg) := by rw [x_6,SzV5,hp_6]; exact fun q => q.elim (own_nn _ (own_b15 hi hn 3 (by decide)).1) (Nat.not_le_of_lt (own_b15 hi hn 3 (by decide)).2)
 obtain ⟨T6,h6,X6,e6,W6,st6⟩ := stC X5 hx hZ e5 ArV5 (j:=((I i) + 3)) hn_6 (g:=(mkF m 25 #[vr a1,vi (I i)] [.int 114,(.int ((I i) + 3)),.ref a1])) rfl rfl (D 21 rfl)
 have N6 := Fr.snoc X6 N5 g_a1
 have V6 := Arv.set ArV5 qV5 SV5 NV5 HV5 GV5 (fits_nar_char _) W6 (i + 3) x_6 (by rw [List.length_set,List.length_set,List.length_set]; rw [hvs]; exact (own_b15 hi hn 3 (by decide)).2)
 obtain ⟨clV6,ArV6,qV6,SV6,NV6,HV6,GV6⟩ := id V6
 have SzV6 : clV6.slots.size = n := by rw [SV6]; exact own_cl n hnB
 have K6 : Keep h0 h6 [a1] := K5.wr W6 (Or.inl (List.mem_of_getElem? (i:=0) rfl))
 have hp_7 : ((I i) + 4) = I (i + 4) := (Int32.ofNat_add _ _).symm
 have x_7 : (((I i) + 4)).toNatClampNeg = i + 4 := by rw [hp_7]; exact own_cl _ (own_b15 hi hn 4 (by decide)).1
 have hn_7 : ¬ (((I i) + 4) < 0 ∨ clV6.slots.size ≤ (((I i) + 4)).toNatClampNeg) := by rw [x_7,SzV6,hp_7]; exact fun q => q.elim (own_nn _ (own_b15 hi hn 4 (by decide)).1) (Nat.not_le_of_lt (own_b15 hi hn 4 (by decide)).2)
 obtain ⟨T7,h7,X7,e7,W7,st7⟩ := stC X6 hx hZ e6 ArV6 (j:=((I i) + 4)) hn_7 (g:=(mkF m 32 #[vr a1,vi (I i)] [.int 101,(.int ((I i) + 4)),.ref a1])) rfl rfl (D 27 rfl)
 have N7 := Fr.snoc X7 N6 g_a1
 have V7 := Arv.set ArV6 qV6 SV6 NV6 HV6 GV6 (fits_nar_char _) W7 (i + 4) x_7 (by rw [List.length_set,List.length_set,List.length_set,List.length_set]; rw [hvs]; exact (own_b15 hi hn 4 (by decide)).2)
 obtain ⟨clV7,ArV7,qV7,SV7,NV7,HV7,GV7⟩ := id V7
 have SzV7 : clV7.slots.size = n := by rw [SV7]; exact own_cl n hnB
 have K7 : Keep h0 h7 [a1] := K6.wr W7 (Or.inl (List.mem_of_getElem? (i:=0) rfl))
 have hp_8 : ((I i) + 5) = I (i + 5) := (Int32.ofNat_add _ _).symm
 have x_8 : (((I i) + 5)).toNatClampNeg = i + 5 := by rw [hp_8]; exact own_cl _ (own_b15 hi hn 5 (by decide)).1
 have hn_8 : ¬ (((I i) + 5) < 0 ∨ clV7.slots.size ≤ (((I i) + 5)).toNatClampNeg) := by rw [x_8,SzV7,hp_8]; exact fun q => q.elim (own_nn _ (own_b15 hi hn 5 (by decide)).1) (Nat.not_le_of_lt (own_b15 hi hn 5 (by decide)).2)
 obtain ⟨T8,h8,X8,e8,W8,st8⟩ := stC X7 hx hZ e7 ArV7 (j:=((I i) + 5)) hn_8 (g:=(mkF m 39 #[vr a1,vi (I i)] [.int 32,(.int ((I i) + 5)),.ref a1])) rfl rfl (D 33 rfl)
 have N8 := Fr.snoc X8 N7 g_a1
 have V8 := Arv.set ArV7 qV7 SV7 NV7 HV7 GV7 (fits_nar_char _) W8 (i + 5) x_8 (by rw [List.length_set,List.length_set,List.length_set,List.length_set,List.length_set]; rw [hvs]; exact (own_b15 hi hn 5 (by decide)).2)
 obtain ⟨clV8,ArV8,qV8,SV8,NV8,HV8,GV8⟩ := id V8
 have SzV8 : clV8.slots.size = n := by rw [SV8]; exact own_cl n hnB
 have K8 : Keep h0 h8 [a1] := K7.wr W8 (Or.inl (List.mem_of_getElem? (i:=0) rfl))
 have hp_9 : ((I i) + 6) = I (i + 6) := (Int32.ofNat_add _ _).symm
 have x_9 : (((I i) + 6)).toNatClampNeg = i + 6 := by rw [hp_9]; exact own_cl _ (own_b15 hi hn 6 (by decide)).1
 have hn_9 : ¬ (((I i) + 6) < 0 ∨ clV8.slots.size ≤ (((I i) + 6)).toNatClampNeg) := by rw [x_9,SzV8,hp_9]; exact fun q => q.elim (own_nn _ (own_b15 hi hn 6 (by decide)).1) (Nat.not_le_of_lt (own_b15 hi hn 6 (by decide)).2)
 obtain ⟨T9,h9,X9,e9,W9,st9⟩ := stC X8 hx hZ e8 ArV8 (j:=((I i) + 6)) hn_9 (g:=(mkF m 47 #[vr a1,vi (I i)] [.int 99,(.int ((I i) + 6)),.ref a1])) rfl rfl (D 39 rfl)
 have N9 := Fr.snoc X9 N8 g_a1
 have V9 := Arv.set ArV8 qV8 SV8 NV8 HV8 GV8 (fits_nar_char _) W9 (i + 6) x_9 (by rw [List.length_set,List.length_set,List.length_set,List.length_set,List.length_set,List.length_set]; rw [hvs]; exact (own_b15 hi hn 6 (by decide)).2)
 obtain ⟨clV9,ArV9,qV9,SV9,NV9,HV9,GV9⟩ := id V9
 have SzV9 : clV9.slots.size = n := by rw [SV9]; exact own_cl n hnB
 have K9 : Keep h0 h9 [a1] := K8.wr W9 (Or.inl (List.mem_of_getElem? (i:=0) rfl))
 have hp_10 : ((I i) + 7) = I (i + 7) := (Int32.ofNat_add _ _).symm
 have x_10 : (((I i) + 7)).toNatClampNeg = i + 7 := by rw [hp_10]; exact own_cl _ (own_b15 hi hn 7 (by decide)).1
 have hn_10 : ¬ (((I i) + 7) < 0 ∨ clV9.slots.size ≤ (((I i) + 7)).toNatClampNeg) := by rw [x_10,SzV9,hp_10]; exact fun q => q.elim (own_nn _ (own_b15 hi hn 7 (by decide)).1) (Nat.not_le_of_lt (own_b15 hi hn 7 (by decide)).2)
 obtain ⟨T10,h10,X10,e10,W10,st10⟩ := stC X9 hx hZ e9 ArV9 (j:=((I i) + 7)) hn_10 (g:=(mkF m 55 #[vr a1,vi (I i)] [.int 104,(.int ((I i) + 7)),.ref a1])) rfl rfl (D 45 rfl)
 have N10 := Fr.snoc X10 N9 g_a1
 have V10 := Arv.set ArV9 qV9 SV9 NV9 HV9 GV9 (fits_nar_char _) W10 (i + 7) x_10 (by rw [List.length_set,List.length_set,List.length_set,List.length_set,List.length_set,List.length_set,List.length_set]; rw [hvs]; exact (own_b15 hi hn 7 (by decide)).2)
 obtain ⟨clV10,ArV10,qV10,SV10,NV10,HV10,GV10⟩ := id V10
 have SzV10 : clV10.slots.size = n := by rw [SV10]; exact own_cl n hnB
 have K10 : Keep h0 h10 [a1] := K9.wr W10 (Or.inl (List.mem_of_getElem? (i:=0) rfl))
 have hp_11 : ((I i) + 8) = I (i + 8) := (Int32.ofNat_add _ _).symm
 have x_11 : (((I i) + 8)).toNatClampNeg = i + 8 := by rw [hp_11]; exact own_cl _ (own_b15 hi hn 8 (by decide)).1
 have hn_11 : ¬ (((I i) + 8) < 0 ∨ clV10.slots.size ≤ (((I i) + 8)).toNatClampNeg) := by rw [x_11,SzV10,hp_11]; exact fun q => q.elim (own_nn _ (own_b15 hi hn 8 (by decide)).1) (Nat.not_le_of_lt (own_b15 hi hn 8 (by decide)).2)
 obtain ⟨T11,h11,X11,e11,W11,st11⟩ := stC X10 hx hZ e10 ArV10 (j:=((I i) + 8)) hn_11 (g:=(mkF m 63 #[vr a1,vi (I i)] [.int 97,(.int ((I i) + 8)),.ref a1])) rfl rfl (D 51 rfl)
 have N11 := Fr.snoc X11 N10 g_a1
 have V11 := Arv.set ArV10 qV10 SV10 NV10 HV10 GV10 (fits_nar_char _) W11 (i + 8) x_11 (by rw [List.length_set,List.length_set,List.length_set,List.length_set,List.length_set,List.length_set,List.length_set,List.length_set]; rw [hvs]; exact (own_b15 hi hn 8 (by decide)).2)
 obtain ⟨clV11,ArV11,qV11,SV11,NV11,HV11,GV11⟩ := id V11
 have SzV11 : clV11.slots.size = n := by rw [SV11]; exact own_cl n hnB
 have K11 : Keep h0 h11 [a1] := K10.wr W11 (Or.inl (List.mem_of_getElem? (i:=0) rfl))
 have hp_12 : ((I i) + 9) = I (i + 9) := (Int32.ofNat_add _ _).symm
 have x_12 : (((I i) + 9)).toNatClampNeg = i + 9 := by rw [hp_12]; exact own_cl _ (own_b15 hi hn 9 (by decide)).1
 have hn_12 : ¬ (((I i) + 9) < 0 ∨ clV11.slots.size ≤ (((I i) + 9)).toNatClampNeg) := by rw [x_12,SzV11,hp_12]; exact fun q => q.elim (own_nn _ (own_b15 hi hn 9 (by decide)).1) (Nat.not_le_of_lt (own_b15 hi hn 9 (by decide)).2)
 obtain ⟨T12,h12,X12,e12,W12,st12⟩ := stC X11 hx hZ e11 ArV11 (j:=((I i) + 9)) hn_12 (g:=(mkF m 71 #[vr a1,vi (I i)] [.int 114,(.int ((I i) + 9)),.ref a1])) rfl rfl (D 57 rfl)
 have N12 := Fr.snoc X12 N11 g_a1
 have V12 := Arv.set ArV11 qV11 SV11 NV11 HV11 GV11 (fits_nar_char _) W12 (i + 9) x_12 (by rw [List.length_set,List.length_set,List.length_set,List.length_set,List.length_set,List.length_set,List.length_set,List.length_set,List.length_set]; rw [hvs]; exact (own_b15 hi hn 9 (by decide)).2)
 obtain ⟨clV12,ArV12,qV12,SV12,NV12,HV12,GV12⟩ := id V12
 have SzV12 : clV12.slots.size = n := by rw [SV12]; exact own_cl n hnB
 have K12 : Keep h0 h12 [a1] := K11.wr W12 (Or.inl (List.mem_of_getElem? (i:=0) rfl))
 have hp_13 : ((I i) + 10) = I (i + 10) := (Int32.ofNat_add _ _).symm
 have x_13 : (((I i) + 10)).toNatClampNeg = i + 10 := by rw [hp_13]; exact own_cl _ (own_b15 hi hn 10 (by decide)).1
 have hn_13 : ¬ (((I i) + 10) < 0 ∨ clV12.slots.size ≤ (((I i) + 10)).toNatClampNeg) := by rw [x_13,SzV12,hp_13]; exact fun q => q.elim (own_nn _ (own_b15 hi hn 10 (by decide)).1) (Nat.not_le_of_lt (own_b15 hi hn 10 (by decide)).2)
 obtain ⟨T13,h13,X13,e13,W13,st13⟩ := stC X12 hx hZ e12 ArV12 (j:=((I i) + 10)) hn_13 (g:=(mkF m 79 #[vr a1,vi (I i)] [.int 97,(.int ((I i) + 10)),.ref a1])) rfl rfl (D 63 rfl)
 have N13 := Fr.snoc X13 N12 g_a1
 have V13 := Arv.set ArV12 qV12 SV12 NV12 HV12 GV12 (fits_nar_char _) W13 (i + 10) x_13 (by rw [List.length_set,List.length_set,List.length_set,List.length_set,List.length_set,List.length_set,List.length_set,List.length_set,List.length_set,List.length_set]; rw [hvs]; exact (own_b15 hi hn 10 (by decide)).2)
 obtain ⟨clV13,ArV13,qV13,SV13,NV13,HV13,GV13⟩ := id V13
 have SzV13 : clV13.slots.size = n := by rw [SV13]; exact own_cl n hnB
 have K13 : Keep h0 h13 [a1] := K12.wr W13 (Or.inl (List.mem_of_getElem? (i:=0) rfl))
 have hp_14 : ((I i) + 11) = I (i + 11) := (Int32.ofNat_add _ _).symm
 have x_14 : (((I i) + 11)).toNatClampNeg = i + 11 := by rw [hp_14]; exact own_cl _ (own_b15 hi hn 11 (by decide)).1
 have hn_14 : ¬ (((I i) + 11) < 0 ∨ clV13.slots.size ≤ (((I i) + 11)).toNatClampNeg) := by rw [x_14,SzV13,hp_14]; exact fun q => q.elim (own_nn _ (own_b15 hi hn 11 (by decide)).1) (Nat.not_le_of_lt (own_b15 hi hn 11 (by decide)).2)
 obtain ⟨T14,h14,X14,e14,W14,st14⟩ := stC X13 hx hZ e13 ArV13 (j:=((I i) + 11)) hn_14 (g:=(mkF m 87 #[vr a1,vi (I i)] [.int 99,(.int ((I i) + 11)),.ref a1])) rfl rfl (D 69 rfl)
 have N14 := Fr.snoc X14 N13 g_a1
 have V14 := Arv.set ArV13 qV13 SV13 NV13 HV13 GV13 (fits_nar_char _) W14 (i + 11) x_14 (by rw [List.length_set,List.length_set,List.length_set,List.length_set,List.length_set,List.length_set,List.length_set,List.length_set,List.length_set,List.length_set,List.length_set]; rw [hvs]; exact (own_b15 hi hn 11 (by decide)).2)
 obtain ⟨clV14,ArV14,qV14,SV14,NV14,HV14,GV14⟩ := id V14
 have SzV14 : clV14.slots.size = n := by rw [SV14]; exact own_cl n hnB
 have K14 : Keep h0 h14 [a1] := K13.wr W14 (Or.inl (List.mem_of_getElem? (i:=0) rfl))
 have hp_15 : ((I i) + 12) = I (i + 12) := (Int32.ofNat_add _ _).symm
 have x_15 : (((I i) + 12)).toNatClampNeg = i + 12 := by rw [hp_15]; exact own_cl _ (own_b15 hi hn 12 (by decide)).1
 have hn_15 : ¬ (((I i) + 12) < 0 ∨ clV14.slots.size ≤ (((I i) + 12)).toNatClampNeg) := by rw [x_15,SzV14,hp_15]; exact fun q => q.elim (own_nn _ (own_b15 hi hn 12 (by decide)).1) (Nat.not_le_of_lt (own_b15 hi hn 12 (by decide)).2)
 obtain ⟨T15,h15,X15,e15,W15,st15⟩ := stC X14 hx hZ e14 ArV14 (j:=((I i) + 12)) hn_15 (g:=(mkF m 95 #[vr a1,vi (I i)] [.int 116,(.int ((I i) + 12)),.ref a1])) rfl rfl (D 75 rfl)
 have N15 := Fr.snoc X15 N14 g_a1
 have V15 := Arv.set ArV14 qV14 SV14 NV14 HV14 GV14 (fits_nar_char _) W15 (i + 12) x_15 (by rw [List.length_set,List.length_set,List.length_set,List.length_set,List.length_set,List.length_set,List.length_set,List.length_set,List.length_set,List.length_set,List.length_set,List.length_set]; rw [hvs]; exact (own_b15 hi hn 12 (by decide)).2)
 obtain ⟨clV15,ArV15,qV15,SV15,NV15,HV15,GV15⟩ := id V15
 have SzV15 : clV15.slots.size = n := by rw [SV15]; exact own_cl n hnB
 have K15 : Keep h0 h15 [a1] := K14.wr W15 (Or.inl (List.mem_of_getElem? (i:=0) rfl))
 have hp_16 : ((I i) + 13) = I (i + 13) := (Int32.ofNat_add _ _).symm
 have x_16 : (((I i) + 13)).toNatClampNeg = i + 13 := by rw [hp_16]; exact own_cl _ (own_b15 hi hn 13 (by decide)).1
 have hn_16 : ¬ (((I i) + 13) < 0 ∨ clV15.slots.size ≤ (((I i) + 13)).toNatClampNeg) := by rw [x_16,SzV15,hp_16]; exact fun q => q.elim (own_nn _ (own_b15 hi hn 13 (by decide)).1) (Nat.not_le_of_lt (own_b15 hi hn 13 (by decide)).2)
 obtain ⟨T16,h16,X16,e16,W16,st16⟩ := stC X15 hx hZ e15 ArV15 (j:=((I i) + 13)) hn_16 (g:=(mkF m 103 #[vr a1,vi (I i)] [.int 101,(.int ((I i) + 13)),.ref a1])) rfl rfl (D 81 rfl)
 have N16 := Fr.snoc X16 N15 g_a1
 have V16 := Arv.set ArV15 qV15 SV15 NV15 HV15 GV15 (fits_nar_char _) W16 (i + 13) x_16 (by rw [List.length_set,List.length_set,List.length_set,List.length_set,List.length_set,List.length_set,List.length_set,List.length_set,List.length_set,List.length_set,List.length_set,List.length_set,List.length_set]; rw [hvs]; exact (own_b15 hi hn 13 (by decide)).2)
 obtain ⟨clV16,ArV16,qV16,SV16,NV16,HV16,GV16⟩ := id V16
 have SzV16 : clV16.slots.size = n := by rw [SV16]; exact own_cl n hnB
 have K16 : Keep h0 h16 [a1] := K15.wr W16 (Or.inl (List.mem_of_getElem? (i:=0) rfl))
 have hp_17 : ((I i) + 14) = I (i + 14) := (Int32.ofNat_add _ _).symm
 have x_17 : (((I i) + 14)).toNatClampNeg = i + 14 := by rw [hp_17]; exact own_cl _ (own_b15 hi hn 14 (by decide)).1
 have hn_17 : ¬ (((I i) + 14) < 0 ∨ clV16.slots.size ≤ (((I i) + 14)).toNatClampNeg) := by rw [x_17,SzV16,hp_17]; exact fun q => q.elim (own_nn _ (own_b15 hi hn 14 (by decide)).1) (Nat.not_le_of_lt (own_b15 hi hn 14 (by decide)).2)
 obtain ⟨T17,h17,X17,e17,W17,st17⟩ := stC X16 hx hZ e16 ArV16 (j:=((I i) + 14)) hn_17 (g:=(mkF m 111 #[vr a1,vi (I i)] [.int 114,(.int ((I i) + 14)),.ref a1])) rfl rfl (D 87 rfl)
 have N17 := Fr.snoc X17 N16 g_a1
 have V17 := Arv.set ArV16 qV16 SV16 NV16 HV16 GV16 (fits_nar_char _) W17 (i + 14) x_17 (by rw [List.length_set,List.length_set,List.length_set,List.length_set,List.length_set,List.length_set,List.length_set,List.length_set,List.length_set,List.length_set,List.length_set,List.length_set,List.length_set,List.length_set]; rw [hvs]; exact (own_b15 hi hn 14 (by decide)).2)
 obtain ⟨clV17,ArV17,qV17,SV17,NV17,HV17,GV17⟩ := id V17
 have SzV17 : clV17.slots.size = n := by rw [SV17]; exact own_cl n hnB
 have K17 : Keep h0 h17 [a1] := K16.wr W17 (Or.inl (List.mem_of_getElem? (i:=0) rfl))
 refine zL Bd X17 (ef_58 m a1 (I i)) (some (.int ((I i) + 15))) nofun (by decide) (by decide) (fun fs hr => ?_) ?_
 · refine aN X0.here hx rfl (D 0 rfl) rfl rfl (iN X0.here hx rfl (D 1 rfl) rfl (bP X0.here hx rfl (D 2 rfl) (st3 _ ?_)))
   refine aN X3.here hx rfl (D 4 rfl) rfl rfl (iN X3.here hx rfl (D 5 rfl) rfl (iC X3.here hx rfl (D 6 rfl) (iA X3.here hx rfl (D 7 rfl) rfl ?_)))
   refine bP X3.here hx rfl (D 8 rfl) (st4 _ (aN X4.here hx rfl (D 10 rfl) rfl rfl (iN X4.here hx rfl (D 11 rfl) rfl ?_)))
   refine iC X4.here hx rfl (D 12 rfl) (iA X4.here hx rfl (D 13 rfl) rfl (bP X4.here hx rfl (D 14 rfl) (st5 _ ?_)))
   refine aN X5.here hx rfl (D 16 rfl) rfl rfl (iN X5.here hx rfl (D 17 rfl) rfl (iC X5.here hx rfl (D 18 rfl) (iA X5.here hx rfl (D 19 rfl) rfl ?_)))
   refine bP X5.here hx rfl (D 20 rfl) (st6 _ (aN X6.here hx rfl (D 22 rfl) rfl rfl (iN X6.here hx rfl (D 23 rfl) rfl ?_)))
   refine iC X6.here hx rfl (D 24 rfl) (iA X6.here hx rfl (D 25 rfl) rfl (bP X6.here hx rfl (D 26 rfl) (st7 _ ?_)))
   refine aN X7.here hx rfl (D 28 rfl) rfl rfl (iN X7.here hx rfl (D 29 rfl) rfl (iC X7.here hx rfl (D 30 rfl) (iA X7.here hx rfl (D 31 rfl) rfl ?_)))
   refine bP X7.here hx rfl (D 32 rfl) (st8 _ (aN X8.here hx rfl (D 34 rfl) rfl rfl (iN X8.here hx rfl (D 35 rfl) rfl ?_)))
   refine bP X8.here hx rfl (D 36 rfl) (iA X8.here hx rfl (D 37 rfl) rfl (bP X8.here hx rfl (D 38 rfl) (st9 _ ?_)))
   refine aN X9.here hx rfl (D 40 rfl) rfl rfl (iN X9.here hx rfl (D 41 rfl) rfl (bP X9.here hx rfl (D 42 rfl) (iA X9.here hx rfl (D 43 rfl) rfl ?_)))
   refine bP X9.here hx rfl (D 44 rfl) (st10 _ (aN X10.here hx rfl (D 46 rfl) rfl rfl (iN X10.here hx rfl (D 47 rfl) rfl ?_)))
   refine bP X10.here hx rfl (D 48 rfl) (iA X10.here hx rfl (D 49 rfl) rfl (bP X10.here hx rfl (D 50 rfl) (st11 _ ?_)))
   refine aN X11.here hx rfl (D 52 rfl) rfl rfl (iN X11.here hx rfl (D 53 rfl) rfl (bP X11.here hx rfl (D 54 rfl) (iA X11.here hx rfl (D 55 rfl) rfl ?_)))
   refine bP X11.here hx rfl (D 56 rfl) (st12 _ (aN X12.here hx rfl (D 58 rfl) rfl rfl (iN X12.here hx rfl (D 59 rfl) rfl ?_)))
   refine bP X12.here hx rfl (D 60 rfl) (iA X12.here hx rfl (D 61 rfl) rfl (bP X12.here hx rfl (D 62 rfl) (st13 _ ?_)))
   refine aN X13.here hx rfl (D 64 rfl) rfl rfl (iN X13.here hx rfl (D 65 rfl) rfl (bP X13.here hx rfl (D 66 rfl) (iA X13.here hx rfl (D 67 rfl) rfl ?_)))
   refine bP X13.here hx rfl (D 68 rfl) (st14 _ (aN X14.here hx rfl (D 70 rfl) rfl rfl (iN X14.here hx rfl (D 71 rfl) rfl ?_)))
   refine bP X14.here hx rfl (D 72 rfl) (iA X14.here hx rfl (D 73 rfl) rfl (bP X14.here hx rfl (D 74 rfl) (st15 _ ?_)))
   refine aN X15.here hx rfl (D 76 rfl) rfl rfl (iN X15.here hx rfl (D 77 rfl) rfl (bP X15.here hx rfl (D 78 rfl) (iA X15.here hx rfl (D 79 rfl) rfl ?_)))
   refine bP X15.here hx rfl (D 80 rfl) (st16 _ (aN X16.here hx rfl (D 82 rfl) rfl rfl (iN X16.here hx rfl (D 83 rfl) rfl ?_)))
   refine bP X16.here hx rfl (D 84 rfl) (iA X16.here hx rfl (D 85 rfl) rfl (bP X16.here hx rfl (D 86 rfl) (st17 _ ?_)))
   refine iN X17.here hx rfl (D 88 rfl) rfl (bP X17.here hx rfl (D 89 rfl) (iA X17.here hx rfl (D 90 rfl) rfl ?_))
   exact retI X17 hx Bd.returns (D 91 rfl) hr
 · show Q52 Z a1 kd n i vs h0 n0 _ T17.heap _
   rw [e17]
   refine ⟨?_,N17,K17,?_⟩
   · rw [Int32.ofNat_add]; rfl
   · exact V17
def own_c (x:Int32) : Int32 := x.toUInt32.toUInt16.toUInt32.toInt32
theorem own_cc (x:Int32) : (own_c x).toUInt32.toUInt16.toUInt32.toInt32 = own_c x := own_char_id x
theorem own_crng (x:Int32) : ¬ own_c x < 0 ∧ ¬ (65535:Int32) < own_c x := by
 have h : (own_c x).toInt = (x.toUInt32.toUInt16.toNat : Int) := by
   show (x.toUInt32.toUInt16.toUInt32.toInt32).toInt = _
   have hl := x.toUInt32.toUInt16.toNat_lt
   have e : x.toUInt32.toUInt16.toUInt32.toInt32 = I x.toUInt32.toUInt16.toNat := by
     apply Int32.toBitVec_inj.mp
     apply BitVec.eq_of_toNat_eq
     show x.toUInt32.toUInt16.toUInt32.toNat = (BitVec.ofNat 32 x.toUInt32.toUInt16.toNat).toNat
     rw [UInt16.toNat_toUInt32,BitVec.toNat_ofNat,Nat.mod_eq_of_lt (by omega)]
   rw [e,Int32.toInt_ofNat_of_lt (by omega)]
 have hl := x.toUInt32.toUInt16.toNat_lt
 have z0 : (0:Int32).toInt = 0 := by decide
 have z1 : (65535:Int32).toInt = 65535 := by decide
 rw [Int32.lt_iff_toInt_lt,Int32.lt_iff_toInt_lt,h,z0,z1]
 omega
def own_c63 (x:Int32) : Int32 := if (x &&& 65536) = 0 then own_c x else own_c ((55296:Int32) ||| (x &&& 1023))
theorem own_mapset (cs:List Int32) (i:Nat) (c:Int32) : (cs.map Value.int).set i (.int c) = (cs.set i c).map Value.int := by rw [List.map_set]
theorem own_ofInt (x:Int32) (h:0 ≤ x.toInt) : x = I x.toInt.toNat := by
 apply Int32.toInt_inj.mp
 have h2 := x.toInt_lt
 rw [Int32.toInt_ofNat_of_lt (by omega)]
 omega
theorem own_modn (x y:Int32) (hy:0 < y.toInt) : ∃ n : Nat,(n:Int) < y.toInt ∧ (x &&& 2147483647) % y = I n := by
 have h1 := c_and x 2147483647 (by decide)
 have z : (2147483647:Int32).toInt = 2147483647 := by decide
 have h2 := (c_iremV (x &&& 2147483647) y).1 (by omega) hy
 refine ⟨((x &&& 2147483647) % y).toInt.toNat,by omega,own_ofInt _ (by omega)⟩
theorem own_k8_of (x:Int32) : own_k8 (x &&& 7) := by
 have h1 := c_and x 7 (by decide)
 have z : (7:Int32).toInt = 7 := by decide
 rw [own_ofInt (x &&& 7) (by omega)]
 have t : ∀ n : Fin 8,own_k8 (I n.val) := by unfold own_k8; decide
 exact t ⟨(x &&& 7).toInt.toNat,by omega⟩
theorem own_tn_le (p : Int32) : own_tn p ≤ 164 := by unfold own_tn; repeat' split
                                                     all_goals omega
theorem pd_0_0 : parseMethodDescriptor "(I)[C" = some ⟨[.int],some (.array .char)⟩ := by decide +kernel
theorem os0_7_la {z0:Value} {s1:Slot} {s2:Slot} {s3:Slot} {s4:Slot} {s5:Slot} {s6:Slot} {s7:Slot} {s8:Slot} {s9:Slot} {s10:Slot} {s11:Slot} {s12:Slot} {s13:Slot} {s14:Slot} {s15:Slot} {s16:Slot} {s17:Slot} {s18:Slot} {v:Addr} (h:One s6) : storeLocals #[.val z0,s1,s2,s3,s4,s5,s6,s7,s8,s9,s10,s11,s12,s13,s14,s15,s16,s17,s18] 6 (.ref v) = some #[.val z0,s1,s2,s3,s4,s5,vr v,s7,s8,s9,s10,s11,s12,s13,s14,s15,s16,s17,s18] := by
 rcases h with rfl | ⟨w,rfl,hw⟩
 · rfl
 · cases w <;> first | rfl | (simp [Value.category] at hw)
theorem os0_12_la {z0:Value} {s1:Slot} {s2:Slot} {s3:Slot} {s4:Slot} {s5:Slot} {z6:Value} {s7:Slot} {s8:Slot} {s9:Slot} {s10:Slot} {s11:Slot} {s12:Slot} {s13:Slot} {s14:Slot} {s15:Slot} {s16:Slot} {s17:Slot} {s18:Slot} {v:Int32} (h:One s7) : storeLocals #[.val z0,s1,s2,s3,s4,s5,.val z6,s7,s8,s9,s10,s11,s12,s13,s14,s15,s16,s17,s18] 7 (.int v) = some #[.val z0,s1,s2,s3,s4,s5,.val z6,vi v,s8,s9,s10,s11,s12,s13,s14,s15,s16,s17,s18] := by
 rcases h with rfl | ⟨w,rfl,hw⟩
 · rfl
 · cases w <;> first | rfl | (simp [Value.category] at hw)
theorem os0_15_la {z0:Value} {s1:Slot} {s2:Slot} {s3:Slot} {s4:Slot} {s5:Slot} {z6:Value} {z7:Value} {s8:Slot} {s9:Slot} {s10:Slot} {s11:Slot} {s12:Slot} {s13:Slot} {s14:Slot} {s15:Slot} {s16:Slot} {s17:Slot} {s18:Slot} {v:Int32} (h:One s8) : storeLocals #[.val z0,s1,s2,s3,s4,s5,.val z6,.val z7,s8,s9,s10,s11,s12,s13,s14,s15,s16,s17,s18] 8 (.int v) = some #[.val z0,s1,s2,s3,s4,s5,.val z6,.val z7,vi v,s9,s10,s11,s12,s13,s14,s15,s16,s17,s18] := by
 rcases h with rfl | ⟨w,rfl,hw⟩
 · rfl
 · cases w <;> first | rfl | (simp [Value.category] at hw)
theorem os0_18_la {z0:Value} {s1:Slot} {s2:Slot} {s3:Slot} {s4:Slot} {s5:Slot} {z6:Value} {z7:Value} {z8:Value} {s9:Slot} {s10:Slot} {s11:Slot} {s12:Slot} {s13:Slot} {s14:Slot} {s15:Slot} {s16:Slot} {s17:Slot} {s18:Slot} {v:Int32} (h:One s9) : storeLocals #[.val z0,s1,s2,s3,s4,s5,.val z6,.val z7,.val z8,s9,s10,s11,s12,s13,s14,s15,s16,s17,s18] 9 (.int v) = some #[.val z0,s1,s2,s3,s4,s5,.val z6,.val z7,.val z8,vi v,s10,s11,s12,s13,s14,s15,s16,s17,s18] := by
 rcases h with rfl | ⟨w,rfl,hw⟩
 · rfl
 · cases w <;> first | rfl | (simp [Value.category] at hw)
theorem la {h0:Heap} (i0:Int32) (s1:Slot) (s2:Slot) (s3:Slot) (s4:Slot) (s5:Slot) (s6:Slot) (s7:Slot) (s8:Slot) (s9:Slot) (s10:Slot) (s11:Slot) (s12:Slot) (s13:Slot) (s14:Slot) (s15:Slot) (s16:Slot) (s17:Slot) (s18:Slot) (n0:Nat)
   (X0:Stand p l e room_1 s m args below meth c T0 locs cells slots) (hx:p.tables.exec = Jvm.exec) (hZ:Z.Warmed39 s.vm) (hw:zH Z a0) (hby:c.code = code) (hml:c.maxLocals = 19) (hown:s.vm.findClass "com/example/dolmetsch/dolmetsch/BriefTextOfPinLaw" = some m.cls) (e0:T0.heap = h0)  (hk8:own_k8 (i0 &&& 7)) (hcl1:cells + 1 ≤ room_1.cells) (hsl1:slots + 164 ≤ room_1.slots) (Z0:n0 ≤ h0.size) (N0:Fr n0 locs) (hcl:cells ≤ room_1.cells) (hsl:slots ≤ room_1.slots) (hs6:One s6) (hs7:One s7) (hs8:One s8) (hs9:One s9) :
   ∃ (T':State) (locs':List Loc) (kc:ClassId),Stand p l e room_1 s m args below meth c T' locs' (cells + 1) (slots + 164) ∧ Fr n0 locs' ∧ Keep h0 T'.heap [] ∧ Arv Z T'.heap h0.size kc .char (I (own_tn (i0 &&& 7))) ((List.replicate (own_tn (i0 &&& 7)) (0:Int32)).map Value.int) (.int 0) ∧
     ∀ target,Steps p.tables e below (T'.setTop (mkF m 20 #[vi i0,s1,s2,s3,s4,s5,vr h0.size,vi (I (own_tn (i0 &&& 7))),vi 0,vi 0,s10,s11,s12,s13,s14,s15,s16,s17,s18] [])) target → Steps p.tables e below (T0.setTop (mkF m 0 #[vi i0,s1,s2,s3,s4,s5,s6,s7,s8,s9,s10,s11,s12,s13,s14,s15,s16,s17,s18] [])) target := by
 obtain ⟨_,T7,Lc7,X7,hQ7,st7⟩ := zS X0 hx hZ hown (zW hw 0 rfl) (zW hw 1 rfl) (zW hw 2 rfl) (zW hw 3 rfl) (by decide) (r1 l Z a0 hw [] (i0 &&& 7) h0 n0 Z0 hk8) (by decide) (by decide) (W:=0) (g:=(mkF m 4 #[vi i0,s1,s2,s3,s4,s5,s6,s7,s8,s9,s10,s11,s12,s13,s14,s15,s16,s17,s18] [(.int (i0 &&& 7))])) rfl (by rw [hml]; rfl) (argsL:=[(.int (i0 &&& 7))]) (rest:=[]) (lenOf pd_0_0 rfl) rfl (Nat.le_of_eq rfl) (hb hby at_4) rfl e0 hcl1 hsl1
 obtain ⟨rfl,N7q,K7,kc,V7⟩ := hQ7
 obtain ⟨cl7,Ar7_,q7_,S7_,N7_,H7_,G7_⟩ := id V7
 have N7 := Fr.app N0 N7q
 refine ⟨T7,_,kc,X7,N7,K7,V7,fun target kt => ?_⟩
 refine iN X0.here hx rfl (hb hby at_0) rfl (bP X0.here hx rfl (hb hby at_1) (XS.iand X0.here hx rfl (hb hby at_3) rfl (st7 _ ?_)))
 refine XS.astore X7.here hx rfl (hb hby at_7) rfl rfl (l':=#[vi i0,s1,s2,s3,s4,s5,vr h0.size,s7,s8,s9,s10,s11,s12,s13,s14,s15,s16,s17,s18]) (os0_7_la hs6) (aL X7.here hx rfl (hb hby at_9) rfl rfl (X7.arraylength hx (by exact Ar7_.1) (State.isArrayOf_alike hZ.alike Ar7_.2.1) (g:=(mkF m 11 #[vi i0,s1,s2,s3,s4,s5,vr h0.size,s7,s8,s9,s10,s11,s12,s13,s14,s15,s16,s17,s18] [.ref h0.size])) rfl rfl (hb hby at_11) _ ?_))
 rw [len_of S7_ N7_]
 refine iS X7.here hx rfl (hb hby at_12) rfl (l':=#[vi i0,s1,s2,s3,s4,s5,vr h0.size,vi (I (own_tn (i0 &&& 7))),s8,s9,s10,s11,s12,s13,s14,s15,s16,s17,s18]) (os0_12_la hs7) (iC X7.here hx rfl (hb hby at_14) (iS X7.here hx rfl (hb hby at_15) rfl (l':=#[vi i0,s1,s2,s3,s4,s5,vr h0.size,vi (I (own_tn (i0 &&& 7))),vi 0,s9,s10,s11,s12,s13,s14,s15,s16,s17,s18]) (os0_15_la hs8) (iC X7.here hx rfl (hb hby at_17) ?_)))
 refine iS X7.here hx rfl (hb hby at_18) rfl (l':=#[vi i0,s1,s2,s3,s4,s5,vr h0.size,vi (I (own_tn (i0 &&& 7))),vi 0,vi 0,s10,s11,s12,s13,s14,s15,s16,s17,s18]) (os0_18_la hs9) ?_
 exact kt
theorem os0_32_lb1 {s0:Slot} {z1:Value} {z2:Value} {z3:Value} {z4:Value} {s5:Slot} {z6:Value} {z7:Value} {s8:Slot} {s9:Slot} {s10:Slot} {s11:Slot} {s12:Slot} {s13:Slot} {s14:Slot} {s15:Slot} {s16:Slot} {s17:Slot} {s18:Slot} {v:Int32} (h:One s8) : storeLocals #[s0,.val z1,.val z2,.val z3,.val z4,s5,.val z6,.val z7,s8,s9,s10,s11,s12,s13,s14,s15,s16,s17,s18] 8 (.int v) = some #[s0,.val z1,.val z2,.val z3,.val z4,s5,.val z6,.val z7,vi v,s9,s10,s11,s12,s13,s14,s15,s16,s17,s18] := by
 rcases h with rfl | ⟨w,rfl,hw⟩
 · rfl
 · cases w <;> first | rfl | (simp [Value.category] at hw)
theorem os0_41_lb1 {s0:Slot} {z1:Value} {z2:Value} {z3:Value} {z4:Value} {s5:Slot} {z6:Value} {z7:Value} {z8:Value} {s9:Slot} {s10:Slot} {s11:Slot} {s12:Slot} {s13:Slot} {s14:Slot} {s15:Slot} {s16:Slot} {s17:Slot} {s18:Slot} {v:Int32} (h:One s9) : storeLocals #[s0,.val z1,.val z2,.val z3,.val z4,s5,.val z6,.val z7,.val z8,s9,s10,s11,s12,s13,s14,s15,s16,s17,s18] 9 (.int v) = some #[s0,.val z1,.val z2,.val z3,.val z4,s5,.val z6,.val z7,.val z8,vi v,s10,s11,s12,s13,s14,s15,s16,s17,s18] := by
 rcases h with rfl | ⟨w,rfl,hw⟩
 · rfl
 · cases w <;> first | rfl | (simp [Value.category] at hw)
theorem lb1 {h0:Heap} (s0:Slot) (i1:Int32) (i2:Int32) (i3:Int32) (i4:Int32) (s5:Slot) (o6:Addr) (i7:Int32) (s8:Slot) (s9:Slot) (s10:Slot) (s11:Slot) (s12:Slot) (s13:Slot) (s14:Slot) (s15:Slot) (s16:Slot) (s17:Slot) (s18:Slot) (cs:List Int32) (n qi ri:Nat) (kc:ClassId) (n0:Nat)
   (X0:Stand p l e room_1 s m args below meth c T0 locs cells slots) (hx:p.tables.exec = Jvm.exec) (hZ:Z.Warmed39 s.vm) (hw:zH Z a0) (hby:c.code = code) (hml:c.maxLocals = 19) (hown:s.vm.findClass "com/example/dolmetsch/dolmetsch/BriefTextOfPinLaw" = some m.cls) (e0:T0.heap = h0) (hcs:cs.length = n) (hn:n ≤ 200) (hqn:qi < n) (hrn:ri < n) (hqi:(HMod.hMod (i1 &&& 2147483647) i7) = I qi) (hri:(HMod.hMod (i3 &&& 2147483647) i7) = I ri) (V:Arv Z h0 o6 kc .char (I n) (cs.map Value.int) (.int 0)) (Z0:n0 ≤ h0.size) (N0:Fr n0 locs) (hcl:cells ≤ room_1.cells) (hsl:slots ≤ room_1.slots) (hs8:One s8) (hs9:One s9) (g_o6:n0 ≤ o6) (hc22:(0:Int32) < i7) (hnz31:¬ (i7 = 0)) (hnz40:¬ (i7 = 0)) :
   ∃ (T':State) (locs':List Loc),Stand p l e room_1 s m args below meth c T' locs' cells slots ∧ Fr n0 locs' ∧ Keep h0 T'.heap [o6] ∧ Arv Z T'.heap o6 kc .char (I n) (((cs.set qi (own_c i2)).set ri (own_c i4)).map Value.int) (.int 0) ∧
     ∀ target,Steps p.tables e below (T'.setTop (mkF m 58 #[s0,vi i1,vi i2,vi i3,vi i4,s5,vr o6,vi i7,vi (HMod.hMod (i1 &&& 2147483647) i7),vi (HMod.hMod (i3 &&& 2147483647) i7),s10,s11,s12,s13,s14,s15,s16,s17,s18] [])) target → Steps p.tables e below (T0.setTop (mkF m 20 #[s0,vi i1,vi i2,vi i3,vi i4,s5,vr o6,vi i7,s8,s9,s10,s11,s12,s13,s14,s15,s16,s17,s18] [])) target := by
 have hvs : (cs.map Value.int).length = n := by rw [List.length_map]; exact hcs
 have hnB : n < 2147483648 := by omega
 obtain ⟨clV,ArV,qV,SV,NV,HV,GV⟩ := id V
 have SzV : clV.slots.size = n := by rw [SV]; exact own_cl n hnB
 have hp_7 : (HMod.hMod (i1 &&& 2147483647) i7) = I (qi) := hqi
 have x_7 : ((HMod.hMod (i1 &&& 2147483647) i7)).toNatClampNeg = qi := by rw [hp_7]; exact own_cl _ (by omega)
 have hn_7 : ¬ ((HMod.hMod (i1 &&& 2147483647) i7) < 0 ∨ clV.slots.size ≤ ((HMod.hMod (i1 &&& 2147483647) i7)).toNatClampNeg) := by rw [x_7,SzV,hp_7]; exact fun q => q.elim (own_nn _ (by omega)) (Nat.not_le_of_lt (by omega))
 obtain ⟨T7,h7,X7,e7,W7,st7⟩ := stC X0 hx hZ e0 ArV (j:=(HMod.hMod (i1 &&& 2147483647) i7)) hn_7 (g:=(mkF m 49 #[s0,vi i1,vi i2,vi i3,vi i4,s5,vr o6,vi i7,vi (HMod.hMod (i1 &&& 2147483647) i7),vi (HMod.hMod (i3 &&& 2147483647) i7),s10,s11,s12,s13,s14,s15,s16,s17,s18] [(.int (i2.toUInt32.toUInt16.toUInt32.toInt32)),(.int (HMod.hMod (i1 &&& 2147483647) i7)),.ref o6])) rfl rfl (hb hby at_49)
 have N7 := Fr.snoc X7 N0 g_o6
 have V7 := Arv.set ArV qV SV NV HV GV (fits_nar_char _) W7 (qi) x_7 (by omega)
 obtain ⟨clV7,ArV7,qV7,SV7,NV7,HV7,GV7⟩ := id V7
 have SzV7 : clV7.slots.size = n := by rw [SV7]; exact own_cl n hnB
 have K7 : Keep h0 h7 [o6] := (Keep.refl h0 [o6]).wr W7 (Or.inl (List.mem_of_getElem? (i:=0) rfl))
 have hp_8 : (HMod.hMod (i3 &&& 2147483647) i7) = I (ri) := hri
 have x_8 : ((HMod.hMod (i3 &&& 2147483647) i7)).toNatClampNeg = ri := by rw [hp_8]; exact own_cl _ (by omega)
 have hn_8 : ¬ ((HMod.hMod (i3 &&& 2147483647) i7) < 0 ∨ clV7.slots.size ≤ ((HMod.hMod (i3 &&& 2147483647) i7)).toNatClampNeg) := by rw [x_8,SzV7,hp_8]; exact fun q => q.elim (own_nn _ (by omega)) (Nat.not_le_of_lt (by omega))
 obtain ⟨T8,h8,X8,e8,W8,st8⟩ := stC X7 hx hZ e7 ArV7 (j:=(HMod.hMod (i3 &&& 2147483647) i7)) hn_8 (g:=(mkF m 57 #[s0,vi i1,vi i2,vi i3,vi i4,s5,vr o6,vi i7,vi (HMod.hMod (i1 &&& 2147483647) i7),vi (HMod.hMod (i3 &&& 2147483647) i7),s10,s11,s12,s13,s14,s15,s16,s17,s18] [(.int (i4.toUInt32.toUInt16.toUInt32.toInt32)),(.int (HMod.hMod (i3 &&& 2147483647) i7)),.ref o6])) rfl rfl (hb hby at_57)
 have N8 := Fr.snoc X8 N7 g_o6
 have V8 := Arv.set ArV7 qV7 SV7 NV7 HV7 GV7 (fits_nar_char _) W8 (ri) x_8 (by rw [List.length_set]; omega)
 obtain ⟨clV8,ArV8,qV8,SV8,NV8,HV8,GV8⟩ := id V8
 have SzV8 : clV8.slots.size = n := by rw [SV8]; exact own_cl n hnB
 have K8 : Keep h0 h8 [o6] := K7.wr W8 (Or.inl (List.mem_of_getElem? (i:=0) rfl))
 rw [own_mapset,own_mapset,show ∀ u : Int32,nar .char (u.toUInt32.toUInt16.toUInt32.toInt32) = own_c u from own_char_id,show ∀ u : Int32,nar .char (u.toUInt32.toUInt16.toUInt32.toInt32) = own_c u from own_char_id] at V8
 refine ⟨T8,_,X8,N8,by rw [e8]; exact K8,by rw [e8]; exact V8,fun target kt => ?_⟩
 refine iL X0.here hx rfl (hb hby at_20) rfl (fN X0.here hx rfl (hb hby at_22) rfl ((if0 _ _).trans (tlt hc22).2.2.2) (iN X0.here hx rfl (hb hby at_25) rfl (X0.ldcInt hx hown (zT hZ hw 46 rfl) (g:=(mkF m 26 #[s0,vi i1,vi i2,vi i3,vi i4,s5,vr o6,vi i7,s8,s9,s10,s11,s12,s13,s14,s15,s16,s17,s18] [.int i1])) rfl (hb hby at_26) _ ?_)))
 refine XS.iand X0.here hx rfl (hb hby at_28) rfl (iL X0.here hx rfl (hb hby at_29) rfl (Jvm.RoadKit.iremM X0 hx rfl (hb hby at_31) rfl hnz31 (iS X0.here hx rfl (hb hby at_32) rfl (l':=#[s0,vi i1,vi i2,vi i3,vi i4,s5,vr o6,vi i7,vi (HMod.hMod (i1 &&& 2147483647) i7),s9,s10,s11,s12,s13,s14,s15,s16,s17,s18]) (os0_32_lb1 hs8) ?_)))
 refine iN X0.here hx rfl (hb hby at_34) rfl (X0.ldcInt hx hown (zT hZ hw 46 rfl) (g:=(mkF m 35 #[s0,vi i1,vi i2,vi i3,vi i4,s5,vr o6,vi i7,vi (HMod.hMod (i1 &&& 2147483647) i7),s9,s10,s11,s12,s13,s14,s15,s16,s17,s18] [.int i3])) rfl (hb hby at_35) _ (XS.iand X0.here hx rfl (hb hby at_37) rfl (iL X0.here hx rfl (hb hby at_38) rfl ?_)))
 refine Jvm.RoadKit.iremM X0 hx rfl (hb hby at_40) rfl hnz40 (iS X0.here hx rfl (hb hby at_41) rfl (l':=#[s0,vi i1,vi i2,vi i3,vi i4,s5,vr o6,vi i7,vi (HMod.hMod (i1 &&& 2147483647) i7),vi (HMod.hMod (i3 &&& 2147483647) i7),s10,s11,s12,s13,s14,s15,s16,s17,s18]) (os0_41_lb1 hs9) (aL X0.here hx rfl (hb hby at_43) rfl rfl (iL X0.here hx rfl (hb hby at_45) rfl ?_)))
 refine iN X0.here hx rfl (hb hby at_47) rfl (XS.i2c X0.here hx rfl (hb hby at_48) rfl (st7 _ (aL X7.here hx rfl (hb hby at_50) rfl rfl ?_)))
 refine iL X7.here hx rfl (hb hby at_52) rfl (iL X7.here hx rfl (hb hby at_54) rfl (XS.i2c X7.here hx rfl (hb hby at_56) rfl (st8 _ ?_)))
 exact kt
theorem lb0 {h0:Heap} (s0:Slot) (s1:Slot) (s2:Slot) (s3:Slot) (s4:Slot) (s5:Slot) (s6:Slot) (i7:Int32) (s8:Slot) (s9:Slot) (s10:Slot) (s11:Slot) (s12:Slot) (s13:Slot) (s14:Slot) (s15:Slot) (s16:Slot) (s17:Slot) (s18:Slot)
   (X0:Stand p l e room_1 s m args below meth c T0 locs cells slots) (hx:p.tables.exec = Jvm.exec) (hZ:Z.Warmed39 s.vm) (hw:zH Z a0) (hby:c.code = code) (hml:c.maxLocals = 19) (hown:s.vm.findClass "com/example/dolmetsch/dolmetsch/BriefTextOfPinLaw" = some m.cls) (e0:T0.heap = h0) (hc22:¬ ((0:Int32) < i7)) :
   ∃ (T':State),Stand p l e room_1 s m args below meth c T' locs cells slots ∧ T'.heap = h0 ∧
     ∀ target,Steps p.tables e below (T'.setTop (mkF m 58 #[s0,s1,s2,s3,s4,s5,s6,vi i7,s8,s9,s10,s11,s12,s13,s14,s15,s16,s17,s18] [])) target → Steps p.tables e below (T0.setTop (mkF m 20 #[s0,s1,s2,s3,s4,s5,s6,vi i7,s8,s9,s10,s11,s12,s13,s14,s15,s16,s17,s18] [])) target := by
 refine ⟨T0,X0,e0,fun target kt => ?_⟩
 refine iL X0.here hx rfl (hb hby at_20) rfl (fY X0.here hx rfl (pc0 := 22) (pc':=58) rfl (hb hby at_22) rfl ((if0 _ _).trans (flt hc22).2.2.2) (by decide) (by decide) ?_)
 exact kt
theorem lc0 {h0:Heap} (s0:Slot) (s1:Slot) (s2:Slot) (s3:Slot) (s4:Slot) (s5:Slot) (s6:Slot) (i7:Int32) (s8:Slot) (s9:Slot) (s10:Slot) (s11:Slot) (s12:Slot) (s13:Slot) (s14:Slot) (s15:Slot) (s16:Slot) (s17:Slot) (s18:Slot)
   (X0:Stand p l e room_1 s m args below meth c T0 locs cells slots) (hx:p.tables.exec = Jvm.exec) (hZ:Z.Warmed39 s.vm) (hw:zH Z a0) (hby:c.code = code) (hml:c.maxLocals = 19) (hown:s.vm.findClass "com/example/dolmetsch/dolmetsch/BriefTextOfPinLaw" = some m.cls) (e0:T0.heap = h0) (hc62:¬ ((63:Int32) < i7)) :
   ∃ (T':State),Stand p l e room_1 s m args below meth c T' locs cells slots ∧ T'.heap = h0 ∧
     ∀ target,Steps p.tables e below (T'.setTop (mkF m 94 #[s0,s1,s2,s3,s4,s5,s6,vi i7,s8,s9,s10,s11,s12,s13,s14,s15,s16,s17,s18] [])) target → Steps p.tables e below (T0.setTop (mkF m 58 #[s0,s1,s2,s3,s4,s5,s6,vi i7,s8,s9,s10,s11,s12,s13,s14,s15,s16,s17,s18] [])) target := by
 refine ⟨T0,X0,e0,fun target kt => ?_⟩
 refine iL X0.here hx rfl (hb hby at_58) rfl (bP X0.here hx rfl (hb hby at_60) (cY X0.here hx rfl (pc0 := 62) (pc':=94) rfl (hb hby at_62) rfl (flt hc62).2.2.2 (by decide) (by decide) ?_))
 exact kt
theorem lc1 {h0:Heap} (s0:Slot) (s1:Slot) (s2:Slot) (s3:Slot) (s4:Slot) (i5:Int32) (o6:Addr) (i7:Int32) (s8:Slot) (s9:Slot) (s10:Slot) (s11:Slot) (s12:Slot) (s13:Slot) (s14:Slot) (s15:Slot) (s16:Slot) (s17:Slot) (s18:Slot) (cs:List Int32) (n:Nat) (kc:ClassId) (n0:Nat)
   (X0:Stand p l e room_1 s m args below meth c T0 locs cells slots) (hx:p.tables.exec = Jvm.exec) (hZ:Z.Warmed39 s.vm) (hw:zH Z a0) (hby:c.code = code) (hml:c.maxLocals = 19) (hown:s.vm.findClass "com/example/dolmetsch/dolmetsch/BriefTextOfPinLaw" = some m.cls) (e0:T0.heap = h0) (hcs:cs.length = n) (hn:n ≤ 200) (hn6:63 < n) (V:Arv Z h0 o6 kc .char (I n) (cs.map Value.int) (.int 0)) (Z0:n0 ≤ h0.size) (N0:Fr n0 locs) (hcl:cells ≤ room_1.cells) (hsl:slots ≤ room_1.slots) (g_o6:n0 ≤ o6) (hc62:(63:Int32) < i7) (hc74:¬ ((i5 &&& 65536) = 0)) :
   ∃ (T':State) (locs':List Loc),Stand p l e room_1 s m args below meth c T' locs' cells slots ∧ Fr n0 locs' ∧ Keep h0 T'.heap [o6] ∧ Arv Z T'.heap o6 kc .char (I n) ((cs.set 63 (own_c ((55296:Int32) ||| (i5 &&& 1023)))).map Value.int) (.int 0) ∧
     ∀ target,Steps p.tables e below (T'.setTop (mkF m 94 #[s0,s1,s2,s3,s4,vi i5,vr o6,vi i7,s8,s9,s10,s11,s12,s13,s14,s15,s16,s17,s18] [])) target → Steps p.tables e below (T0.setTop (mkF m 58 #[s0,s1,s2,s3,s4,vi i5,vr o6,vi i7,s8,s9,s10,s11,s12,s13,s14,s15,s16,s17,s18] [])) target := by
 have hvs : (cs.map Value.int).length = n := by rw [List.length_map]; exact hcs
 have hnB : n < 2147483648 := by omega
 obtain ⟨clV,ArV,qV,SV,NV,HV,GV⟩ := id V
 have SzV : clV.slots.size = n := by rw [SV]; exact own_cl n hnB
 have hp_7 : (63:Int32) = I (63) := rfl
 have x_7 : ((63:Int32)).toNatClampNeg = 63 := by rw [hp_7]; exact own_cl _ (by omega)
 have hn_7 : ¬ ((63:Int32) < 0 ∨ clV.slots.size ≤ ((63:Int32)).toNatClampNeg) := by rw [x_7,SzV,hp_7]; exact fun q => q.elim (own_nn _ (by omega)) (Nat.not_le_of_lt (by omega))
 obtain ⟨T7,h7,X7,e7,W7,st7⟩ := stC X0 hx hZ e0 ArV (j:=(63:Int32)) hn_7 (g:=(mkF m 93 #[s0,s1,s2,s3,s4,vi i5,vr o6,vi i7,s8,s9,s10,s11,s12,s13,s14,s15,s16,s17,s18] [(.int (((55296:Int32) ||| (i5 &&& 1023)).toUInt32.toUInt16.toUInt32.toInt32)),.int 63,.ref o6])) rfl rfl (hb hby at_93)
 have N7 := Fr.snoc X7 N0 g_o6
 have V7 := Arv.set ArV qV SV NV HV GV (fits_nar_char _) W7 (63) x_7 (by omega)
 obtain ⟨clV7,ArV7,qV7,SV7,NV7,HV7,GV7⟩ := id V7
 have SzV7 : clV7.slots.size = n := by rw [SV7]; exact own_cl n hnB
 have K7 : Keep h0 h7 [o6] := (Keep.refl h0 [o6]).wr W7 (Or.inl (List.mem_of_getElem? (i:=0) rfl))
 rw [own_mapset,show ∀ u : Int32,nar .char (u.toUInt32.toUInt16.toUInt32.toInt32) = own_c u from own_char_id] at V7
 refine ⟨T7,_,X7,N7,by rw [e7]; exact K7,by rw [e7]; exact V7,fun target kt => ?_⟩
 refine iL X0.here hx rfl (hb hby at_58) rfl (bP X0.here hx rfl (hb hby at_60) (cN X0.here hx rfl (hb hby at_62) rfl (tlt hc62).2.2.2 (aL X0.here hx rfl (hb hby at_65) rfl rfl ?_)))
 refine bP X0.here hx rfl (hb hby at_67) (iL X0.here hx rfl (hb hby at_69) rfl (X0.ldcInt hx hown (zT hZ hw 47 rfl) (g:=(mkF m 71 #[s0,s1,s2,s3,s4,vi i5,vr o6,vi i7,s8,s9,s10,s11,s12,s13,s14,s15,s16,s17,s18] [.int i5,.int 63,.ref o6])) rfl (hb hby at_71) _ (XS.iand X0.here hx rfl (hb hby at_73) rfl ?_)))
 refine fN X0.here hx rfl (hb hby at_74) rfl ((if0 _ _).trans (feq hc74).1) (X0.ldcInt hx hown (zT hZ hw 259 rfl) (g:=(mkF m 77 #[s0,s1,s2,s3,s4,vi i5,vr o6,vi i7,s8,s9,s10,s11,s12,s13,s14,s15,s16,s17,s18] [.int 63,.ref o6])) rfl (hb hby at_77) _ (iL X0.here hx rfl (hb hby at_79) rfl (XS.sipush X0.here hx rfl (hb hby at_81) ?_)))
 refine XS.iand X0.here hx rfl (hb hby at_84) rfl (XS.ior X0.here hx rfl (hb hby at_85) rfl (XS.i2c X0.here hx rfl (hb hby at_86) rfl (gT X0.here hx rfl (pc0 := 87) (pc':=93) rfl (hb hby at_87) (by decide) (by decide) ?_)))
 refine st7 _ ?_
 exact kt
theorem lc2 {h0:Heap} (s0:Slot) (s1:Slot) (s2:Slot) (s3:Slot) (s4:Slot) (i5:Int32) (o6:Addr) (i7:Int32) (s8:Slot) (s9:Slot) (s10:Slot) (s11:Slot) (s12:Slot) (s13:Slot) (s14:Slot) (s15:Slot) (s16:Slot) (s17:Slot) (s18:Slot) (cs:List Int32) (n:Nat) (kc:ClassId) (n0:Nat)
   (X0:Stand p l e room_1 s m args below meth c T0 locs cells slots) (hx:p.tables.exec = Jvm.exec) (hZ:Z.Warmed39 s.vm) (hw:zH Z a0) (hby:c.code = code) (hml:c.maxLocals = 19) (hown:s.vm.findClass "com/example/dolmetsch/dolmetsch/BriefTextOfPinLaw" = some m.cls) (e0:T0.heap = h0) (hcs:cs.length = n) (hn:n ≤ 200) (hn6:63 < n) (V:Arv Z h0 o6 kc .char (I n) (cs.map Value.int) (.int 0)) (Z0:n0 ≤ h0.size) (N0:Fr n0 locs) (hcl:cells ≤ room_1.cells) (hsl:slots ≤ room_1.slots) (g_o6:n0 ≤ o6) (hc62:(63:Int32) < i7) (hc74:(i5 &&& 65536) = 0) :
   ∃ (T':State) (locs':List Loc),Stand p l e room_1 s m args below meth c T' locs' cells slots ∧ Fr n0 locs' ∧ Keep h0 T'.heap [o6] ∧ Arv Z T'.heap o6 kc .char (I n) ((cs.set 63 (own_c i5)).map Value.int) (.int 0) ∧
     ∀ target,Steps p.tables e below (T'.setTop (mkF m 94 #[s0,s1,s2,s3,s4,vi i5,vr o6,vi i7,s8,s9,s10,s11,s12,s13,s14,s15,s16,s17,s18] [])) target → Steps p.tables e below (T0.setTop (mkF m 58 #[s0,s1,s2,s3,s4,vi i5,vr o6,vi i7,s8,s9,s10,s11,s12,s13,s14,s15,s16,s17,s18] [])) target := by
 have hvs : (cs.map Value.int).length = n := by rw [List.length_map]; exact hcs
 have hnB : n < 2147483648 := by omega
 obtain ⟨clV,ArV,qV,SV,NV,HV,GV⟩ := id V
 have SzV : clV.slots.size = n := by rw [SV]; exact own_cl n hnB
 have hp_7 : (63:Int32) = I (63) := rfl
 have x_7 : ((63:Int32)).toNatClampNeg = 63 := by rw [hp_7]; exact own_cl _ (by omega)
 have hn_7 : ¬ ((63:Int32) < 0 ∨ clV.slots.size ≤ ((63:Int32)).toNatClampNeg) := by rw [x_7,SzV,hp_7]; exact fun q => q.elim (own_nn _ (by omega)) (Nat.not_le_of_lt (by omega))
 obtain ⟨T7,h7,X7,e7,W7,st7⟩ := stC X0 hx hZ e0 ArV (j:=(63:Int32)) hn_7 (g:=(mkF m 93 #[s0,s1,s2,s3,s4,vi i5,vr o6,vi i7,s8,s9,s10,s11,s12,s13,s14,s15,s16,s17,s18] [(.int (i5.toUInt32.toUInt16.toUInt32.toInt32)),.int 63,.ref o6])) rfl rfl (hb hby at_93)
 have N7 := Fr.snoc X7 N0 g_o6
 have V7 := Arv.set ArV qV SV NV HV GV (fits_nar_char _) W7 (63) x_7 (by omega)
 obtain ⟨clV7,ArV7,qV7,SV7,NV7,HV7,GV7⟩ := id V7
 have SzV7 : clV7.slots.size = n := by rw [SV7]; exact own_cl n hnB
 have K7 : Keep h0 h7 [o6] := (Keep.refl h0 [o6]).wr W7 (Or.inl (List.mem_of_getElem? (i:=0) rfl))
 rw [own_mapset,show ∀ u : Int32,nar .char (u.toUInt32.toUInt16.toUInt32.toInt32) = own_c u from own_char_id] at V7
 refine ⟨T7,_,X7,N7,by rw [e7]; exact K7,by rw [e7]; exact V7,fun target kt => ?_⟩
 refine iL X0.here hx rfl (hb hby at_58) rfl (bP X0.here hx rfl (hb hby at_60) (cN X0.here hx rfl (hb hby at_62) rfl (tlt hc62).2.2.2 (aL X0.here hx rfl (hb hby at_65) rfl rfl ?_)))
 refine bP X0.here hx rfl (hb hby at_67) (iL X0.here hx rfl (hb hby at_69) rfl (X0.ldcInt hx hown (zT hZ hw 47 rfl) (g:=(mkF m 71 #[s0,s1,s2,s3,s4,vi i5,vr o6,vi i7,s8,s9,s10,s11,s12,s13,s14,s15,s16,s17,s18] [.int i5,.int 63,.ref o6])) rfl (hb hby at_71) _ (XS.iand X0.here hx rfl (hb hby at_73) rfl ?_)))
 refine fY X0.here hx rfl (pc0 := 74) (pc':=90) rfl (hb hby at_74) rfl ((if0 _ _).trans (teq hc74).1) (by decide) (by decide) (iL X0.here hx rfl (hb hby at_90) rfl (XS.i2c X0.here hx rfl (hb hby at_92) rfl (st7 _ ?_)))
 exact kt
theorem pd_0_1 : parseMethodDescriptor "([C)V" = some ⟨[(.array .char)],none⟩ := by decide +kernel
theorem os0_103_ldl {s0:Slot} {s1:Slot} {s2:Slot} {s3:Slot} {s4:Slot} {s5:Slot} {z6:Value} {s7:Slot} {s8:Slot} {s9:Slot} {s10:Slot} {s11:Slot} {s12:Slot} {s13:Slot} {s14:Slot} {s15:Slot} {s16:Slot} {s17:Slot} {s18:Slot} {v:Addr} (h:One s10) : storeLocals #[s0,s1,s2,s3,s4,s5,.val z6,s7,s8,s9,s10,s11,s12,s13,s14,s15,s16,s17,s18] 10 (.ref v) = some #[s0,s1,s2,s3,s4,s5,.val z6,s7,s8,s9,vr v,s11,s12,s13,s14,s15,s16,s17,s18] := by
 rcases h with rfl | ⟨w,rfl,hw⟩
 · rfl
 · cases w <;> first | rfl | (simp [Value.category] at hw)
theorem ldl {h0:Heap} (s0:Slot) (s1:Slot) (s2:Slot) (s3:Slot) (s4:Slot) (s5:Slot) (o6:Addr) (s7:Slot) (s8:Slot) (s9:Slot) (s10:Slot) (s11:Slot) (s12:Slot) (s13:Slot) (s14:Slot) (s15:Slot) (s16:Slot) (s17:Slot) (s18:Slot) (cs:List Int32) (n:Nat) (kc:ClassId) (n0:Nat)
   (X0:Stand p l e room_1 s m args below meth c T0 locs cells slots) (hx:p.tables.exec = Jvm.exec) (hZ:Z.Warmed39 s.vm) (hw:zH Z a0) (hby:c.code = code) (hml:c.maxLocals = 19) (hown:s.vm.findClass "com/example/dolmetsch/dolmetsch/BriefTextOfPinLaw" = some m.cls) (e0:T0.heap = h0) (hcs:cs.length = n) (hn:n ≤ 200) (hbb:own_C cs) (C:Arv Z h0 o6 kc .char (I n) (cs.map Value.int) (.int 0)) (O:Old Z n0 h0) (SWz:own_SW Z Z.heap) (hn1:0 < n) (hwd:own_wd cs = false) (hc9:cells + 3 ≤ room_1.cells) (hs9:slots + 604 ≤ room_1.slots) (Z0:n0 ≤ h0.size) (N0:Fr n0 locs) (hcl:cells ≤ room_1.cells) (hsl:slots ≤ room_1.slots) (hs10:One s10) :
   ∃ (T':State) (locs':List Loc) (b7:Addr) (kk nn:Nat),Stand p l e room_1 s m args below meth c T' locs' kk nn ∧ kk ≤ cells + 3 ∧ nn ≤ slots + 604 ∧ Fr n0 locs' ∧ Keep h0 T'.heap [] ∧ own_Str Z T'.heap b7 false cs ∧
     ∀ target,Steps p.tables e below (T'.setTop (mkF m 105 #[s0,s1,s2,s3,s4,s5,vr o6,s7,s8,s9,vr b7,s11,s12,s13,s14,s15,s16,s17,s18] [])) target → Steps p.tables e below (T0.setTop (mkF m 94 #[s0,s1,s2,s3,s4,s5,vr o6,s7,s8,s9,s10,s11,s12,s13,s14,s15,s16,s17,s18] [])) target := by
 obtain ⟨zc,fm,S1,hz,S2,rf,S3,S4,S5⟩ := id SWz
 obtain ⟨T7,h7,X7,e7,E7,A7,D7,-,st7⟩ := newO X0 hx hZ hown (zW hw 5 rfl) (zW hw 6 rfl) (zW hw 7 rfl) e0 (g:=(mkF m 94 #[s0,s1,s2,s3,s4,s5,vr o6,s7,s8,s9,s10,s11,s12,s13,s14,s15,s16,s17,s18] [])) rfl (hb hby at_94) (by omega) (by omega)
 obtain ⟨b7,g7⟩ : ∃ z,z = h0.size := ⟨_,rfl⟩
 rw [← g7] at A7 D7 st7
 have F_value_b7 : Fld Z h7 b7 "java/lang/String" "value" "[B" .null := D7 (Or.inr (zW hw 20 rfl)) (ty:=(.array .byte)) (by decide)
 have F_coder_b7 : Fld Z h7 b7 "java/lang/String" "coder" "B" (.int 0) := D7 (Or.inr (zW hw 21 rfl)) (ty:=.byte) (by decide)
 have E_b7 := A7
 have g_b7 : n0 ≤ b7 := Nat.le_trans Z0 (Nat.le_of_eq g7.symm)
 have sz_b7 : h0.size ≤ b7 := (Nat.le_trans (Keep.refl h0 []).1 (Nat.le_of_eq g7.symm))
 have K7 : Keep h0 h7 [] := (Keep.refl h0 []).ext E7
 obtain ⟨_,_,⟨T8,L8,k8,n8⟩,-,X8,⟨Lc8,hQ8,l8,y8,z8⟩,st8⟩ := X7.specialBack hx (y:=y_13) rfl hown (zT hZ hw 8 rfl) (zT hZ hw 9 rfl) (zT hZ hw 10 rfl) (by decide) (StrChars.Road.backV (W:=1) (n0 := n0) hZ (fun d hd => hw d ((by decide +kernel : ∀ d ∈ StrChars.Road.words,d ∈ tables_1) d hd)) (kI:=4) (zW hw 6 rfl) (cs:=cs) (n:=n) g_b7 (Nat.le_trans Z0 E7.1) E_b7 F_value_b7 F_coder_b7 (C.ext E7) (S1.ext (O.ext E7).2) hz hcs rfl hn1 (by omega) (own_lat hwd hbb) rfl (by decide) (by decide)) (g:=(mkF m 100 #[s0,s1,s2,s3,s4,s5,vr o6,s7,s8,s9,s10,s11,s12,s13,s14,s15,s16,s17,s18] [.ref o6,.ref b7,.ref b7])) rfl (by rw [hml]; rfl) (Steps.refl _) (a:=b7) (argsL:=[.ref o6]) (rest:=[.ref b7]) (lenOf pd_0_1 rfl) rfl (Nat.le_of_eq rfl) (hb hby at_100) (fun _ _ => ⟨rfl,e7,(by show cells + 1 + 1 ≤ _; omega),(by show slots + 4 + n ≤ _; omega)⟩)
 dsimp only [Pt.U,Pt.locs,Pt.cells,Pt.slots] at X8 l8 y8 z8 st8 hQ8
 subst l8 y8 z8
 obtain ⟨rfl,N8q,K8,E8,Fc8,tt,kb,ht0,ht,hne,Fv8,V8⟩ := hQ8
 have N8 := Fr.app N0 N8q
 refine ⟨T8,_,b7,_,_,X8,by show cells + 1 + 1 ≤ _; omega,by show slots + 4 + n ≤ _; omega,N8,K7.trans K8 (allS (Or.inr sz_b7) all0),⟨E8,Fc8,tt,kb,Fv8,by rw [hcs]; show Arv Z T8.heap tt kb .byte (I (1 * n)) (own_by cs) (.int 0); rw [Nat.one_mul]; exact V8⟩,fun target kt => ?_⟩
 refine st7 _ (XS.dup X7.here hx rfl (hb hby at_97) rfl rfl (aL X7.here hx rfl (hb hby at_98) rfl rfl (st8.trans ?_)))
 refine XS.astore X8.here hx rfl (hb hby at_103) rfl rfl (l':=#[s0,s1,s2,s3,s4,s5,vr o6,s7,s8,s9,vr b7,s11,s12,s13,s14,s15,s16,s17,s18]) (os0_103_ldl hs10) ?_
 exact kt
theorem os0_103_ldw {s0:Slot} {s1:Slot} {s2:Slot} {s3:Slot} {s4:Slot} {s5:Slot} {z6:Value} {s7:Slot} {s8:Slot} {s9:Slot} {s10:Slot} {s11:Slot} {s12:Slot} {s13:Slot} {s14:Slot} {s15:Slot} {s16:Slot} {s17:Slot} {s18:Slot} {v:Addr} (h:One s10) : storeLocals #[s0,s1,s2,s3,s4,s5,.val z6,s7,s8,s9,s10,s11,s12,s13,s14,s15,s16,s17,s18] 10 (.ref v) = some #[s0,s1,s2,s3,s4,s5,.val z6,s7,s8,s9,vr v,s11,s12,s13,s14,s15,s16,s17,s18] := by
 rcases h with rfl | ⟨w,rfl,hw⟩
 · rfl
 · cases w <;> first | rfl | (simp [Value.category] at hw)
theorem ldw {h0:Heap} (s0:Slot) (s1:Slot) (s2:Slot) (s3:Slot) (s4:Slot) (s5:Slot) (o6:Addr) (s7:Slot) (s8:Slot) (s9:Slot) (s10:Slot) (s11:Slot) (s12:Slot) (s13:Slot) (s14:Slot) (s15:Slot) (s16:Slot) (s17:Slot) (s18:Slot) (cs:List Int32) (n:Nat) (kc:ClassId) (n0:Nat)
   (X0:Stand p l e room_1 s m args below meth c T0 locs cells slots) (hx:p.tables.exec = Jvm.exec) (hZ:Z.Warmed39 s.vm) (hw:zH Z a0) (hby:c.code = code) (hml:c.maxLocals = 19) (hown:s.vm.findClass "com/example/dolmetsch/dolmetsch/BriefTextOfPinLaw" = some m.cls) (e0:T0.heap = h0) (hcs:cs.length = n) (hn:n ≤ 200) (hbb:own_C cs) (C:Arv Z h0 o6 kc .char (I n) (cs.map Value.int) (.int 0)) (O:Old Z n0 h0) (SWz:own_SW Z Z.heap) (k:Nat) (hk:k < n) (hlo:∀ j,j < k → ¬ (255:Int32) < cs.getD j 0) (hhi:(255:Int32) < cs.getD k 0) (hc9:cells + 3 ≤ room_1.cells) (hs9:slots + 604 ≤ room_1.slots) (Z0:n0 ≤ h0.size) (N0:Fr n0 locs) (hcl:cells ≤ room_1.cells) (hsl:slots ≤ room_1.slots) (hs10:One s10) :
   ∃ (T':State) (locs':List Loc) (b7:Addr) (kk nn:Nat),Stand p l e room_1 s m args below meth c T' locs' kk nn ∧ kk ≤ cells + 3 ∧ nn ≤ slots + 604 ∧ Fr n0 locs' ∧ Keep h0 T'.heap [] ∧ own_Str Z T'.heap b7 true cs ∧
     ∀ target,Steps p.tables e below (T'.setTop (mkF m 105 #[s0,s1,s2,s3,s4,s5,vr o6,s7,s8,s9,vr b7,s11,s12,s13,s14,s15,s16,s17,s18] [])) target → Steps p.tables e below (T0.setTop (mkF m 94 #[s0,s1,s2,s3,s4,s5,vr o6,s7,s8,s9,s10,s11,s12,s13,s14,s15,s16,s17,s18] [])) target := by
 obtain ⟨zc,fm,S1,hz,S2,rf,S3,S4,S5⟩ := id SWz
 obtain ⟨T7,h7,X7,e7,E7,A7,D7,-,st7⟩ := newO X0 hx hZ hown (zW hw 5 rfl) (zW hw 6 rfl) (zW hw 7 rfl) e0 (g:=(mkF m 94 #[s0,s1,s2,s3,s4,s5,vr o6,s7,s8,s9,s10,s11,s12,s13,s14,s15,s16,s17,s18] [])) rfl (hb hby at_94) (by omega) (by omega)
 obtain ⟨b7,g7⟩ : ∃ z,z = h0.size := ⟨_,rfl⟩
 rw [← g7] at A7 D7 st7
 have F_value_b7 : Fld Z h7 b7 "java/lang/String" "value" "[B" .null := D7 (Or.inr (zW hw 20 rfl)) (ty:=(.array .byte)) (by decide)
 have F_coder_b7 : Fld Z h7 b7 "java/lang/String" "coder" "B" (.int 0) := D7 (Or.inr (zW hw 21 rfl)) (ty:=.byte) (by decide)
 have E_b7 := A7
 have g_b7 : n0 ≤ b7 := Nat.le_trans Z0 (Nat.le_of_eq g7.symm)
 have sz_b7 : h0.size ≤ b7 := (Nat.le_trans (Keep.refl h0 []).1 (Nat.le_of_eq g7.symm))
 have K7 : Keep h0 h7 [] := (Keep.refl h0 []).ext E7
 obtain ⟨_,_,⟨T8,L8,k8,n8⟩,-,X8,⟨Lc8,hQ8,l8,y8,z8⟩,st8⟩ := X7.specialBack hx (y:=y_13) rfl hown (zT hZ hw 8 rfl) (zT hZ hw 9 rfl) (zT hZ hw 10 rfl) (by decide) (backOf (W:=1) (r2 l Z a0 hw [] b7 o6 cs n k kc zc _ _ h7 n0 (Nat.le_trans Z0 E7.1) (S1.ext (O.ext E7).2) E_b7 F_coder_b7 g_b7 F_value_b7 hz hcs hk hn hlo hhi hbb (C.ext E7) (O.ext E7) S3 S4 S5) hZ (zW hw 10 rfl) (zW hw 7 rfl) (by decide) (by decide)) (g:=(mkF m 100 #[s0,s1,s2,s3,s4,s5,vr o6,s7,s8,s9,s10,s11,s12,s13,s14,s15,s16,s17,s18] [.ref o6,.ref b7,.ref b7])) rfl (by rw [hml]; rfl) (Steps.refl _) (a:=b7) (argsL:=[.ref o6]) (rest:=[.ref b7]) (lenOf pd_0_1 rfl) rfl (Nat.le_of_eq rfl) (hb hby at_100) (fun _ _ => ⟨rfl,e7,(by show cells + 1 + 2 ≤ _; omega),(by show slots + 4 + 600 ≤ _; omega)⟩)
 dsimp only [Pt.U,Pt.locs,Pt.cells,Pt.slots] at X8 l8 y8 z8 st8 hQ8
 subst l8 y8 z8
 obtain ⟨rfl,N8q,K8,St8⟩ := hQ8
 have N8 := Fr.app N0 N8q
 refine ⟨T8,_,b7,_,_,X8,by show cells + 1 + 2 ≤ _; omega,by show slots + 4 + 600 ≤ _; omega,N8,K7.trans K8 (allS (Or.inr sz_b7) all0),St8,fun target kt => ?_⟩
 refine st7 _ (XS.dup X7.here hx rfl (hb hby at_97) rfl rfl (aL X7.here hx rfl (hb hby at_98) rfl rfl (st8.trans ?_)))
 refine XS.astore X8.here hx rfl (hb hby at_103) rfl rfl (l':=#[s0,s1,s2,s3,s4,s5,vr o6,s7,s8,s9,vr b7,s11,s12,s13,s14,s15,s16,s17,s18]) (os0_103_ldw hs10) ?_
 exact kt
theorem os0_152_lg1 {s0:Slot} {s1:Slot} {s2:Slot} {s3:Slot} {s4:Slot} {s5:Slot} {z6:Value} {z7:Value} {s8:Slot} {s9:Slot} {s10:Slot} {s11:Slot} {s12:Slot} {s13:Slot} {s14:Slot} {s15:Slot} {s16:Slot} {s17:Slot} {s18:Slot} {v:Int32} (h:One s12) : storeLocals #[s0,s1,s2,s3,s4,s5,.val z6,.val z7,s8,s9,s10,s11,s12,s13,s14,s15,s16,s17,s18] 12 (.int v) = some #[s0,s1,s2,s3,s4,s5,.val z6,.val z7,s8,s9,s10,s11,vi v,s13,s14,s15,s16,s17,s18] := by
 rcases h with rfl | ⟨w,rfl,hw⟩
 · rfl
 · cases w <;> first | rfl | (simp [Value.category] at hw)
theorem lg1 {h0:Heap} (s0:Slot) (s1:Slot) (s2:Slot) (s3:Slot) (s4:Slot) (s5:Slot) (o6:Addr) (i7:Int32) (s8:Slot) (s9:Slot) (s10:Slot) (s11:Slot) (s12:Slot) (s13:Slot) (s14:Slot) (s15:Slot) (s16:Slot) (s17:Slot) (s18:Slot) (cs:List Int32) (n:Nat) (kc:ClassId)
   (X0:Stand p l e room_1 s m args below meth c T0 locs cells slots) (hx:p.tables.exec = Jvm.exec) (hZ:Z.Warmed39 s.vm) (hw:zH Z a0) (hby:c.code = code) (hml:c.maxLocals = 19) (hown:s.vm.findClass "com/example/dolmetsch/dolmetsch/BriefTextOfPinLaw" = some m.cls) (e0:T0.heap = h0) (hcs:cs.length = n) (hn:n ≤ 200) (hn6:63 < n) (V:Arv Z h0 o6 kc .char (I n) (cs.map Value.int) (.int 0)) (hs12:One s12) (hc116:(64:Int32) < i7) (hc134:(cs.getD 63 0) < 55296) :
   ∃ (T':State),Stand p l e room_1 s m args below meth c T' locs cells slots ∧ T'.heap = h0 ∧
     ∀ target,Steps p.tables e below (T'.setTop (mkF m 154 #[s0,s1,s2,s3,s4,s5,vr o6,vi i7,s8,s9,s10,s11,vi 0,s13,s14,s15,s16,s17,s18] [])) target → Steps p.tables e below (T0.setTop (mkF m 112 #[s0,s1,s2,s3,s4,s5,vr o6,vi i7,s8,s9,s10,s11,s12,s13,s14,s15,s16,s17,s18] [])) target := by
 obtain ⟨cl_o6,Ar_o6,qc,Sc,Mc,Hc,Gc⟩ := V
 rw [own_cl n (by omega)] at Sc
 have hin131 : ¬ ((63:Int32) < 0 ∨ cl_o6.slots.size ≤ ((63:Int32)).toNatClampNeg) := fun q => q.elim (by decide) (by rw [Sc]; show ¬ n ≤ 63; omega)
 have hat131 : cl_o6.slots[((63:Int32)).toNatClampNeg]? = some (.int (cs.getD 63 0)) := by
   show cl_o6.slots[63]? = _
   rw [Hc 63 (by omega)]
   simp [List.getD_eq_getElem?_getD,List.getElem?_eq_getElem (show 63 < cs.length by omega)]
 refine ⟨T0,X0,e0,fun target kt => ?_⟩
 refine iL X0.here hx rfl (hb hby at_112) rfl (bP X0.here hx rfl (hb hby at_114) (cY X0.here hx rfl (pc0 := 116) (pc':=127) rfl (hb hby at_116) rfl (tlt hc116).2.2.1 (by decide) (by decide) (aL X0.here hx rfl (hb hby at_127) rfl rfl ?_)))
 refine bP X0.here hx rfl (hb hby at_129) (X0.caload hx (j:=(63:Int32)) (v:=(.int (cs.getD 63 0))) (by rw [e0]; exact Ar_o6.1) (State.isArrayOf_alike hZ.alike Ar_o6.2.1) Ar_o6.2.2 hin131 hat131 (g:=(mkF m 131 #[s0,s1,s2,s3,s4,s5,vr o6,vi i7,s8,s9,s10,s11,s12,s13,s14,s15,s16,s17,s18] [.int 63,.ref o6])) rfl rfl (hb hby at_131) _ (X0.ldcInt hx hown (zT hZ hw 259 rfl) (g:=(mkF m 132 #[s0,s1,s2,s3,s4,s5,vr o6,vi i7,s8,s9,s10,s11,s12,s13,s14,s15,s16,s17,s18] [(.int (cs.getD 63 0))])) rfl (hb hby at_132) _ (cY X0.here hx rfl (pc0 := 134) (pc':=151) rfl (hb hby at_134) rfl (tlt hc134).1 (by decide) (by decide) ?_)))
 refine iC X0.here hx rfl (hb hby at_151) (iS X0.here hx rfl (hb hby at_152) rfl (l':=#[s0,s1,s2,s3,s4,s5,vr o6,vi i7,s8,s9,s10,s11,vi 0,s13,s14,s15,s16,s17,s18]) (os0_152_lg1 hs12) ?_)
 exact kt
theorem os0_152_lg2 {s0:Slot} {s1:Slot} {s2:Slot} {s3:Slot} {s4:Slot} {s5:Slot} {z6:Value} {z7:Value} {s8:Slot} {s9:Slot} {s10:Slot} {s11:Slot} {s12:Slot} {s13:Slot} {s14:Slot} {s15:Slot} {s16:Slot} {s17:Slot} {s18:Slot} {v:Int32} (h:One s12) : storeLocals #[s0,s1,s2,s3,s4,s5,.val z6,.val z7,s8,s9,s10,s11,s12,s13,s14,s15,s16,s17,s18] 12 (.int v) = some #[s0,s1,s2,s3,s4,s5,.val z6,.val z7,s8,s9,s10,s11,vi v,s13,s14,s15,s16,s17,s18] := by
 rcases h with rfl | ⟨w,rfl,hw⟩
 · rfl
 · cases w <;> first | rfl | (simp [Value.category] at hw)
theorem lg2 {h0:Heap} (s0:Slot) (s1:Slot) (s2:Slot) (s3:Slot) (s4:Slot) (s5:Slot) (o6:Addr) (i7:Int32) (s8:Slot) (s9:Slot) (s10:Slot) (s11:Slot) (s12:Slot) (s13:Slot) (s14:Slot) (s15:Slot) (s16:Slot) (s17:Slot) (s18:Slot) (cs:List Int32) (n:Nat) (kc:ClassId)
   (X0:Stand p l e room_1 s m args below meth c T0 locs cells slots) (hx:p.tables.exec = Jvm.exec) (hZ:Z.Warmed39 s.vm) (hw:zH Z a0) (hby:c.code = code) (hml:c.maxLocals = 19) (hown:s.vm.findClass "com/example/dolmetsch/dolmetsch/BriefTextOfPinLaw" = some m.cls) (e0:T0.heap = h0) (hcs:cs.length = n) (hn:n ≤ 200) (hn6:63 < n) (V:Arv Z h0 o6 kc .char (I n) (cs.map Value.int) (.int 0)) (hs12:One s12) (hc116:(64:Int32) < i7) (hc134:¬ ((cs.getD 63 0) < 55296)) (hc144:¬ ((56319:Int32) < (cs.getD 63 0))) :
   ∃ (T':State),Stand p l e room_1 s m args below meth c T' locs cells slots ∧ T'.heap = h0 ∧
     ∀ target,Steps p.tables e below (T'.setTop (mkF m 154 #[s0,s1,s2,s3,s4,s5,vr o6,vi i7,s8,s9,s10,s11,vi 1,s13,s14,s15,s16,s17,s18] [])) target → Steps p.tables e below (T0.setTop (mkF m 112 #[s0,s1,s2,s3,s4,s5,vr o6,vi i7,s8,s9,s10,s11,s12,s13,s14,s15,s16,s17,s18] [])) target := by
 obtain ⟨cl_o6,Ar_o6,qc,Sc,Mc,Hc,Gc⟩ := V
 rw [own_cl n (by omega)] at Sc
 have hin131 : ¬ ((63:Int32) < 0 ∨ cl_o6.slots.size ≤ ((63:Int32)).toNatClampNeg) := fun q => q.elim (by decide) (by rw [Sc]; show ¬ n ≤ 63; omega)
 have hat131 : cl_o6.slots[((63:Int32)).toNatClampNeg]? = some (.int (cs.getD 63 0)) := by
   show cl_o6.slots[63]? = _
   rw [Hc 63 (by omega)]
   simp [List.getD_eq_getElem?_getD,List.getElem?_eq_getElem (show 63 < cs.length by omega)]
 have hin141 : ¬ ((63:Int32) < 0 ∨ cl_o6.slots.size ≤ ((63:Int32)).toNatClampNeg) := fun q => q.elim (by decide) (by rw [Sc]; show ¬ n ≤ 63; omega)
 have hat141 : cl_o6.slots[((63:Int32)).toNatClampNeg]? = some (.int (cs.getD 63 0)) := by
   show cl_o6.slots[63]? = _
   rw [Hc 63 (by omega)]
   simp [List.getD_eq_getElem?_getD,List.getElem?_eq_getElem (show 63 < cs.length by omega)]
 refine ⟨T0,X0,e0,fun target kt => ?_⟩
 refine iL X0.here hx rfl (hb hby at_112) rfl (bP X0.here hx rfl (hb hby at_114) (cY X0.here hx rfl (pc0 := 116) (pc':=127) rfl (hb hby at_116) rfl (tlt hc116).2.2.1 (by decide) (by decide) (aL X0.here hx rfl (hb hby at_127) rfl rfl ?_)))
 refine bP X0.here hx rfl (hb hby at_129) (X0.caload hx (j:=(63:Int32)) (v:=(.int (cs.getD 63 0))) (by rw [e0]; exact Ar_o6.1) (State.isArrayOf_alike hZ.alike Ar_o6.2.1) Ar_o6.2.2 hin131 hat131 (g:=(mkF m 131 #[s0,s1,s2,s3,s4,s5,vr o6,vi i7,s8,s9,s10,s11,s12,s13,s14,s15,s16,s17,s18] [.int 63,.ref o6])) rfl rfl (hb hby at_131) _ (X0.ldcInt hx hown (zT hZ hw 259 rfl) (g:=(mkF m 132 #[s0,s1,s2,s3,s4,s5,vr o6,vi i7,s8,s9,s10,s11,s12,s13,s14,s15,s16,s17,s18] [(.int (cs.getD 63 0))])) rfl (hb hby at_132) _ (cN X0.here hx rfl (hb hby at_134) rfl (flt hc134).1 ?_)))
 refine aL X0.here hx rfl (hb hby at_137) rfl rfl (bP X0.here hx rfl (hb hby at_139) (X0.caload hx (j:=(63:Int32)) (v:=(.int (cs.getD 63 0))) (by rw [e0]; exact Ar_o6.1) (State.isArrayOf_alike hZ.alike Ar_o6.2.1) Ar_o6.2.2 hin141 hat141 (g:=(mkF m 141 #[s0,s1,s2,s3,s4,s5,vr o6,vi i7,s8,s9,s10,s11,s12,s13,s14,s15,s16,s17,s18] [.int 63,.ref o6])) rfl rfl (hb hby at_141) _ (X0.ldcInt hx hown (zT hZ hw 344 rfl) (g:=(mkF m 142 #[s0,s1,s2,s3,s4,s5,vr o6,vi i7,s8,s9,s10,s11,s12,s13,s14,s15,s16,s17,s18] [(.int (cs.getD 63 0))])) rfl (hb hby at_142) _ ?_)))
 refine cN X0.here hx rfl (hb hby at_144) rfl (flt hc144).2.2.1 (iC X0.here hx rfl (hb hby at_147) (gT X0.here hx rfl (pc0 := 148) (pc':=152) rfl (hb hby at_148) (by decide) (by decide) (iS X0.here hx rfl (hb hby at_152) rfl (l':=#[s0,s1,s2,s3,s4,s5,vr o6,vi i7,s8,s9,s10,s11,vi 1,s13,s14,s15,s16,s17,s18]) (os0_152_lg2 hs12) ?_)))
 exact kt
theorem os0_152_lg3 {s0:Slot} {s1:Slot} {s2:Slot} {s3:Slot} {s4:Slot} {s5:Slot} {z6:Value} {z7:Value} {s8:Slot} {s9:Slot} {s10:Slot} {s11:Slot} {s12:Slot} {s13:Slot} {s14:Slot} {s15:Slot} {s16:Slot} {s17:Slot} {s18:Slot} {v:Int32} (h:One s12) : storeLocals #[s0,s1,s2,s3,s4,s5,.val z6,.val z7,s8,s9,s10,s11,s12,s13,s14,s15,s16,s17,s18] 12 (.int v) = some #[s0,s1,s2,s3,s4,s5,.val z6,.val z7,s8,s9,s10,s11,vi v,s13,s14,s15,s16,s17,s18] := by
 rcases h with rfl | ⟨w,rfl,hw⟩
 · rfl
 · cases w <;> first | rfl | (simp [Value.category] at hw)
theorem lg3 {h0:Heap} (s0:Slot) (s1:Slot) (s2:Slot) (s3:Slot) (s4:Slot) (s5:Slot) (o6:Addr) (i7:Int32) (s8:Slot) (s9:Slot) (s10:Slot) (s11:Slot) (s12:Slot) (s13:Slot) (s14:Slot) (s15:Slot) (s16:Slot) (s17:Slot) (s18:Slot) (cs:List Int32) (n:Nat) (kc:ClassId)
   (X0:Stand p l e room_1 s m args below meth c T0 locs cells slots) (hx:p.tables.exec = Jvm.exec) (hZ:Z.Warmed39 s.vm) (hw:zH Z a0) (hby:c.code = code) (hml:c.maxLocals = 19) (hown:s.vm.findClass "com/example/dolmetsch/dolmetsch/BriefTextOfPinLaw" = some m.cls) (e0:T0.heap = h0) (hcs:cs.length = n) (hn:n ≤ 200) (hn6:63 < n) (V:Arv Z h0 o6 kc .char (I n) (cs.map Value.int) (.int 0)) (hs12:One s12) (hc116:(64:Int32) < i7) (hc134:¬ ((cs.getD 63 0) < 55296)) (hc144:(56319:Int32) < (cs.getD 63 0)) :
   ∃ (T':State),Stand p l e room_1 s m args below meth c T' locs cells slots ∧ T'.heap = h0 ∧
     ∀ target,Steps p.tables e below (T'.setTop (mkF m 154 #[s0,s1,s2,s3,s4,s5,vr o6,vi i7,s8,s9,s10,s11,vi 0,s13,s14,s15,s16,s17,s18] [])) target → Steps p.tables e below (T0.setTop (mkF m 112 #[s0,s1,s2,s3,s4,s5,vr o6,vi i7,s8,s9,s10,s11,s12,s13,s14,s15,s16,s17,s18] [])) target := by
 obtain ⟨cl_o6,Ar_o6,qc,Sc,Mc,Hc,Gc⟩ := V
 rw [own_cl n (by omega)] at Sc
 have hin131 : ¬ ((63:Int32) < 0 ∨ cl_o6.slots.size ≤ ((63:Int32)).toNatClampNeg) := fun q => q.elim (by decide) (by rw [Sc]; show ¬ n ≤ 63; omega)
 have hat131 : cl_o6.slots[((63:Int32)).toNatClampNeg]? = some (.int (cs.getD 63 0)) := by
   show cl_o6.slots[63]? = _
   rw [Hc 63 (by omega)]
   simp [List.getD_eq_getElem?_getD,List.getElem?_eq_getElem (show 63 < cs.length by omega)]
 have hin141 : ¬ ((63:Int32) < 0 ∨ cl_o6.slots.size ≤ ((63:Int32)).toNatClampNeg) := fun q => q.elim (by decide) (by rw [Sc]; show ¬ n ≤ 63; omega)
 have hat141 : cl_o6.slots[((63:Int32)).toNatClampNeg]? = some (.int (cs.getD 63 0)) := by
   show cl_o6.slots[63]? = _
   rw [Hc 63 (by omega)]
   simp [List.getD_eq_getElem?_getD,List.getElem?_eq_getElem (show 63 < cs.length by omega)]
 refine ⟨T0,X0,e0,fun target kt => ?_⟩
 refine iL X0.here hx rfl (hb hby at_112) rfl (bP X0.here hx rfl (hb hby at_114) (cY X0.here hx rfl (pc0 := 116) (pc':=127) rfl (hb hby at_116) rfl (tlt hc116).2.2.1 (by decide) (by decide) (aL X0.here hx rfl (hb hby at_127) rfl rfl ?_)))
 refine bP X0.here hx rfl (hb hby at_129) (X0.caload hx (j:=(63:Int32)) (v:=(.int (cs.getD 63 0))) (by rw [e0]; exact Ar_o6.1) (State.isArrayOf_alike hZ.alike Ar_o6.2.1) Ar_o6.2.2 hin131 hat131 (g:=(mkF m 131 #[s0,s1,s2,s3,s4,s5,vr o6,vi i7,s8,s9,s10,s11,s12,s13,s14,s15,s16,s17,s18] [.int 63,.ref o6])) rfl rfl (hb hby at_131) _ (X0.ldcInt hx hown (zT hZ hw 259 rfl) (g:=(mkF m 132 #[s0,s1,s2,s3,s4,s5,vr o6,vi i7,s8,s9,s10,s11,s12,s13,s14,s15,s16,s17,s18] [(.int (cs.getD 63 0))])) rfl (hb hby at_132) _ (cN X0.here hx rfl (hb hby at_134) rfl (flt hc134).1 ?_)))
 refine aL X0.here hx rfl (hb hby at_137) rfl rfl (bP X0.here hx rfl (hb hby at_139) (X0.caload hx (j:=(63:Int32)) (v:=(.int (cs.getD 63 0))) (by rw [e0]; exact Ar_o6.1) (State.isArrayOf_alike hZ.alike Ar_o6.2.1) Ar_o6.2.2 hin141 hat141 (g:=(mkF m 141 #[s0,s1,s2,s3,s4,s5,vr o6,vi i7,s8,s9,s10,s11,s12,s13,s14,s15,s16,s17,s18] [.int 63,.ref o6])) rfl rfl (hb hby at_141) _ (X0.ldcInt hx hown (zT hZ hw 344 rfl) (g:=(mkF m 142 #[s0,s1,s2,s3,s4,s5,vr o6,vi i7,s8,s9,s10,s11,s12,s13,s14,s15,s16,s17,s18] [(.int (cs.getD 63 0))])) rfl (hb hby at_142) _ ?_)))
 refine cY X0.here hx rfl (pc0 := 144) (pc':=151) rfl (hb hby at_144) rfl (tlt hc144).2.2.1 (by decide) (by decide) (iC X0.here hx rfl (hb hby at_151) (iS X0.here hx rfl (hb hby at_152) rfl (l':=#[s0,s1,s2,s3,s4,s5,vr o6,vi i7,s8,s9,s10,s11,vi 0,s13,s14,s15,s16,s17,s18]) (os0_152_lg3 hs12) ?_))
 exact kt
theorem os0_166_lh64 {s0:Slot} {s1:Slot} {s2:Slot} {s3:Slot} {s4:Slot} {s5:Slot} {s6:Slot} {s7:Slot} {s8:Slot} {s9:Slot} {s10:Slot} {s11:Slot} {z12:Value} {s13:Slot} {s14:Slot} {s15:Slot} {s16:Slot} {s17:Slot} {s18:Slot} {v:Int32} (h:One s13) : storeLocals #[s0,s1,s2,s3,s4,s5,s6,s7,s8,s9,s10,s11,.val z12,s13,s14,s15,s16,s17,s18] 13 (.int v) = some #[s0,s1,s2,s3,s4,s5,s6,s7,s8,s9,s10,s11,.val z12,vi v,s14,s15,s16,s17,s18] := by
 rcases h with rfl | ⟨w,rfl,hw⟩
 · rfl
 · cases w <;> first | rfl | (simp [Value.category] at hw)
theorem lh64 {h0:Heap} (s0:Slot) (s1:Slot) (s2:Slot) (s3:Slot) (s4:Slot) (s5:Slot) (s6:Slot) (s7:Slot) (s8:Slot) (s9:Slot) (s10:Slot) (s11:Slot) (i12:Int32) (s13:Slot) (s14:Slot) (s15:Slot) (s16:Slot) (s17:Slot) (s18:Slot)
   (X0:Stand p l e room_1 s m args below meth c T0 locs cells slots) (hx:p.tables.exec = Jvm.exec) (hZ:Z.Warmed39 s.vm) (hw:zH Z a0) (hby:c.code = code) (hml:c.maxLocals = 19) (hown:s.vm.findClass "com/example/dolmetsch/dolmetsch/BriefTextOfPinLaw" = some m.cls) (e0:T0.heap = h0) (hs13:One s13) (hc156:i12 = 0) :
   ∃ (T':State),Stand p l e room_1 s m args below meth c T' locs cells slots ∧ T'.heap = h0 ∧
     ∀ target,Steps p.tables e below (T'.setTop (mkF m 168 #[s0,s1,s2,s3,s4,s5,s6,s7,s8,s9,s10,s11,vi i12,vi 64,s14,s15,s16,s17,s18] [])) target → Steps p.tables e below (T0.setTop (mkF m 154 #[s0,s1,s2,s3,s4,s5,s6,s7,s8,s9,s10,s11,vi i12,s13,s14,s15,s16,s17,s18] [])) target := by
 refine ⟨T0,X0,e0,fun target kt => ?_⟩
 refine iL X0.here hx rfl (hb hby at_154) rfl (fY X0.here hx rfl (pc0 := 156) (pc':=164) rfl (hb hby at_156) rfl ((if0 _ _).trans (teq hc156).1) (by decide) (by decide) (bP X0.here hx rfl (hb hby at_164) (iS X0.here hx rfl (hb hby at_166) rfl (l':=#[s0,s1,s2,s3,s4,s5,s6,s7,s8,s9,s10,s11,vi i12,vi 64,s14,s15,s16,s17,s18]) (os0_166_lh64 hs13) ?_)))
 exact kt
theorem os0_166_lh63 {s0:Slot} {s1:Slot} {s2:Slot} {s3:Slot} {s4:Slot} {s5:Slot} {s6:Slot} {s7:Slot} {s8:Slot} {s9:Slot} {s10:Slot} {s11:Slot} {z12:Value} {s13:Slot} {s14:Slot} {s15:Slot} {s16:Slot} {s17:Slot} {s18:Slot} {v:Int32} (h:One s13) : storeLocals #[s0,s1,s2,s3,s4,s5,s6,s7,s8,s9,s10,s11,.val z12,s13,s14,s15,s16,s17,s18] 13 (.int v) = some #[s0,s1,s2,s3,s4,s5,s6,s7,s8,s9,s10,s11,.val z12,vi v,s14,s15,s16,s17,s18] := by
 rcases h with rfl | ⟨w,rfl,hw⟩
 · rfl
 · cases w <;> first | rfl | (simp [Value.category] at hw)
theorem lh63 {h0:Heap} (s0:Slot) (s1:Slot) (s2:Slot) (s3:Slot) (s4:Slot) (s5:Slot) (s6:Slot) (s7:Slot) (s8:Slot) (s9:Slot) (s10:Slot) (s11:Slot) (i12:Int32) (s13:Slot) (s14:Slot) (s15:Slot) (s16:Slot) (s17:Slot) (s18:Slot)
   (X0:Stand p l e room_1 s m args below meth c T0 locs cells slots) (hx:p.tables.exec = Jvm.exec) (hZ:Z.Warmed39 s.vm) (hw:zH Z a0) (hby:c.code = code) (hml:c.maxLocals = 19) (hown:s.vm.findClass "com/example/dolmetsch/dolmetsch/BriefTextOfPinLaw" = some m.cls) (e0:T0.heap = h0) (hs13:One s13) (hc156:¬ (i12 = 0)) :
   ∃ (T':State),Stand p l e room_1 s m args below meth c T' locs cells slots ∧ T'.heap = h0 ∧
     ∀ target,Steps p.tables e below (T'.setTop (mkF m 168 #[s0,s1,s2,s3,s4,s5,s6,s7,s8,s9,s10,s11,vi i12,vi 63,s14,s15,s16,s17,s18] [])) target → Steps p.tables e below (T0.setTop (mkF m 154 #[s0,s1,s2,s3,s4,s5,s6,s7,s8,s9,s10,s11,vi i12,s13,s14,s15,s16,s17,s18] [])) target := by
 refine ⟨T0,X0,e0,fun target kt => ?_⟩
 refine iL X0.here hx rfl (hb hby at_154) rfl (fN X0.here hx rfl (hb hby at_156) rfl ((if0 _ _).trans (feq hc156).1) (bP X0.here hx rfl (hb hby at_159) (gT X0.here hx rfl (pc0 := 161) (pc':=166) rfl (hb hby at_161) (by decide) (by decide) ?_)))
 refine iS X0.here hx rfl (hb hby at_166) rfl (l':=#[s0,s1,s2,s3,s4,s5,s6,s7,s8,s9,s10,s11,vi i12,vi 63,s14,s15,s16,s17,s18]) (os0_166_lh63 hs13) ?_
 exact kt
theorem os0_173_li1 {s0:Slot} {s1:Slot} {s2:Slot} {s3:Slot} {s4:Slot} {s5:Slot} {s6:Slot} {z7:Value} {s8:Slot} {s9:Slot} {s10:Slot} {s11:Slot} {s12:Slot} {z13:Value} {s14:Slot} {s15:Slot} {s16:Slot} {s17:Slot} {s18:Slot} {v:Int32} (h:One s14) : storeLocals #[s0,s1,s2,s3,s4,s5,s6,.val z7,s8,s9,s10,s11,s12,.val z13,s14,s15,s16,s17,s18] 14 (.int v) = some #[s0,s1,s2,s3,s4,s5,s6,.val z7,s8,s9,s10,s11,s12,.val z13,vi v,s15,s16,s17,s18] := by
 rcases h with rfl | ⟨w,rfl,hw⟩
 · rfl
 · cases w <;> first | rfl | (simp [Value.category] at hw)
theorem os0_198_li1 {s0:Slot} {s1:Slot} {s2:Slot} {s3:Slot} {s4:Slot} {s5:Slot} {s6:Slot} {z7:Value} {s8:Slot} {s9:Slot} {s10:Slot} {s11:Slot} {s12:Slot} {z13:Value} {z14:Value} {s15:Slot} {s16:Slot} {s17:Slot} {s18:Slot} {v:Int32} (h:One s15) : storeLocals #[s0,s1,s2,s3,s4,s5,s6,.val z7,s8,s9,s10,s11,s12,.val z13,.val z14,s15,s16,s17,s18] 15 (.int v) = some #[s0,s1,s2,s3,s4,s5,s6,.val z7,s8,s9,s10,s11,s12,.val z13,.val z14,vi v,s16,s17,s18] := by
 rcases h with rfl | ⟨w,rfl,hw⟩
 · rfl
 · cases w <;> first | rfl | (simp [Value.category] at hw)
theorem os0_224_li1 {s0:Slot} {s1:Slot} {s2:Slot} {s3:Slot} {s4:Slot} {s5:Slot} {s6:Slot} {z7:Value} {s8:Slot} {s9:Slot} {s10:Slot} {s11:Slot} {s12:Slot} {z13:Value} {z14:Value} {z15:Value} {s16:Slot} {s17:Slot} {s18:Slot} {v:Int32} (h:One s16) : storeLocals #[s0,s1,s2,s3,s4,s5,s6,.val z7,s8,s9,s10,s11,s12,.val z13,.val z14,.val z15,s16,s17,s18] 16 (.int v) = some #[s0,s1,s2,s3,s4,s5,s6,.val z7,s8,s9,s10,s11,s12,.val z13,.val z14,.val z15,vi v,s17,s18] := by
 rcases h with rfl | ⟨w,rfl,hw⟩
 · rfl
 · cases w <;> first | rfl | (simp [Value.category] at hw)
theorem li1 {h0:Heap} (s0:Slot) (s1:Slot) (s2:Slot) (s3:Slot) (s4:Slot) (s5:Slot) (s6:Slot) (i7:Int32) (s8:Slot) (s9:Slot) (s10:Slot) (s11:Slot) (s12:Slot) (i13:Int32) (s14:Slot) (s15:Slot) (s16:Slot) (s17:Slot) (s18:Slot)
   (X0:Stand p l e room_1 s m args below meth c T0 locs cells slots) (hx:p.tables.exec = Jvm.exec) (hZ:Z.Warmed39 s.vm) (hw:zH Z a0) (hby:c.code = code) (hml:c.maxLocals = 19) (hown:s.vm.findClass "com/example/dolmetsch/dolmetsch/BriefTextOfPinLaw" = some m.cls) (e0:T0.heap = h0) (hs14:One s14) (hs15:One s15) (hs16:One s16) (hc179:(i7 - i13) < 100) (hc190:(i7 - i13) < 10) (hc213:(i7 - i13) = 1) :
   ∃ (T':State),Stand p l e room_1 s m args below meth c T' locs cells slots ∧ T'.heap = h0 ∧
     ∀ target,Steps p.tables e below (T'.setTop (mkF m 226 #[s0,s1,s2,s3,s4,s5,s6,vi i7,s8,s9,s10,s11,s12,vi i13,vi (i7 - i13),vi 1,vi (((((i13 + 1) + 1) + 15) + 0) + 1),s17,s18] [])) target → Steps p.tables e below (T0.setTop (mkF m 168 #[s0,s1,s2,s3,s4,s5,s6,vi i7,s8,s9,s10,s11,s12,vi i13,s14,s15,s16,s17,s18] [])) target := by
 refine ⟨T0,X0,e0,fun target kt => ?_⟩
 refine iL X0.here hx rfl (hb hby at_168) rfl (iL X0.here hx rfl (hb hby at_170) rfl (iB X0.here hx rfl (hb hby at_172) rfl (iS X0.here hx rfl (hb hby at_173) rfl (l':=#[s0,s1,s2,s3,s4,s5,s6,vi i7,s8,s9,s10,s11,s12,vi i13,vi (i7 - i13),s15,s16,s17,s18]) (os0_173_li1 hs14) ?_)))
 refine iL X0.here hx rfl (hb hby at_175) rfl (bP X0.here hx rfl (hb hby at_177) (cY X0.here hx rfl (pc0 := 179) (pc':=186) rfl (hb hby at_179) rfl (tlt hc179).1 (by decide) (by decide) (iL X0.here hx rfl (hb hby at_186) rfl ?_)))
 refine bP X0.here hx rfl (hb hby at_188) (cY X0.here hx rfl (pc0 := 190) (pc':=197) rfl (hb hby at_190) rfl (tlt hc190).1 (by decide) (by decide) (iC X0.here hx rfl (hb hby at_197) (iS X0.here hx rfl (hb hby at_198) rfl (l':=#[s0,s1,s2,s3,s4,s5,s6,vi i7,s8,s9,s10,s11,s12,vi i13,vi (i7 - i13),vi 1,s16,s17,s18]) (os0_198_li1 hs15) ?_)))
 refine iL X0.here hx rfl (hb hby at_200) rfl (iC X0.here hx rfl (hb hby at_202) (iA X0.here hx rfl (hb hby at_203) rfl (iL X0.here hx rfl (hb hby at_204) rfl ?_)))
 refine iA X0.here hx rfl (hb hby at_206) rfl (bP X0.here hx rfl (hb hby at_207) (iA X0.here hx rfl (hb hby at_209) rfl (iL X0.here hx rfl (hb hby at_210) rfl ?_)))
 refine iC X0.here hx rfl (hb hby at_212) (cN X0.here hx rfl (hb hby at_213) rfl (teq hc213).2 (iC X0.here hx rfl (hb hby at_216) (gT X0.here hx rfl (pc0 := 217) (pc':=221) rfl (hb hby at_217) (by decide) (by decide) ?_)))
 refine iA X0.here hx rfl (hb hby at_221) rfl (iC X0.here hx rfl (hb hby at_222) (iA X0.here hx rfl (hb hby at_223) rfl (iS X0.here hx rfl (hb hby at_224) rfl (l':=#[s0,s1,s2,s3,s4,s5,s6,vi i7,s8,s9,s10,s11,s12,vi i13,vi (i7 - i13),vi 1,vi (((((i13 + 1) + 1) + 15) + 0) + 1),s17,s18]) (os0_224_li1 hs16) ?_)))
 exact kt
theorem os0_173_li2 {s0:Slot} {s1:Slot} {s2:Slot} {s3:Slot} {s4:Slot} {s5:Slot} {s6:Slot} {z7:Value} {s8:Slot} {s9:Slot} {s10:Slot} {s11:Slot} {s12:Slot} {z13:Value} {s14:Slot} {s15:Slot} {s16:Slot} {s17:Slot} {s18:Slot} {v:Int32} (h:One s14) : storeLocals #[s0,s1,s2,s3,s4,s5,s6,.val z7,s8,s9,s10,s11,s12,.val z13,s14,s15,s16,s17,s18] 14 (.int v) = some #[s0,s1,s2,s3,s4,s5,s6,.val z7,s8,s9,s10,s11,s12,.val z13,vi v,s15,s16,s17,s18] := by
 rcases h with rfl | ⟨w,rfl,hw⟩
 · rfl
 · cases w <;> first | rfl | (simp [Value.category] at hw)
theorem os0_198_li2 {s0:Slot} {s1:Slot} {s2:Slot} {s3:Slot} {s4:Slot} {s5:Slot} {s6:Slot} {z7:Value} {s8:Slot} {s9:Slot} {s10:Slot} {s11:Slot} {s12:Slot} {z13:Value} {z14:Value} {s15:Slot} {s16:Slot} {s17:Slot} {s18:Slot} {v:Int32} (h:One s15) : storeLocals #[s0,s1,s2,s3,s4,s5,s6,.val z7,s8,s9,s10,s11,s12,.val z13,.val z14,s15,s16,s17,s18] 15 (.int v) = some #[s0,s1,s2,s3,s4,s5,s6,.val z7,s8,s9,s10,s11,s12,.val z13,.val z14,vi v,s16,s17,s18] := by
 rcases h with rfl | ⟨w,rfl,hw⟩
 · rfl
 · cases w <;> first | rfl | (simp [Value.category] at hw)
theorem os0_224_li2 {s0:Slot} {s1:Slot} {s2:Slot} {s3:Slot} {s4:Slot} {s5:Slot} {s6:Slot} {z7:Value} {s8:Slot} {s9:Slot} {s10:Slot} {s11:Slot} {s12:Slot} {z13:Value} {z14:Value} {z15:Value} {s16:Slot} {s17:Slot} {s18:Slot} {v:Int32} (h:One s16) : storeLocals #[s0,s1,s2,s3,s4,s5,s6,.val z7,s8,s9,s10,s11,s12,.val z13,.val z14,.val z15,s16,s17,s18] 16 (.int v) = some #[s0,s1,s2,s3,s4,s5,s6,.val z7,s8,s9,s10,s11,s12,.val z13,.val z14,.val z15,vi v,s17,s18] := by
 rcases h with rfl | ⟨w,rfl,hw⟩
 · rfl
 · cases w <;> first | rfl | (simp [Value.category] at hw)
theorem li2 {h0:Heap} (s0:Slot) (s1:Slot) (s2:Slot) (s3:Slot) (s4:Slot) (s5:Slot) (s6:Slot) (i7:Int32) (s8:Slot) (s9:Slot) (s10:Slot) (s11:Slot) (s12:Slot) (i13:Int32) (s14:Slot) (s15:Slot) (s16:Slot) (s17:Slot) (s18:Slot)
   (X0:Stand p l e room_1 s m args below meth c T0 locs cells slots) (hx:p.tables.exec = Jvm.exec) (hZ:Z.Warmed39 s.vm) (hw:zH Z a0) (hby:c.code = code) (hml:c.maxLocals = 19) (hown:s.vm.findClass "com/example/dolmetsch/dolmetsch/BriefTextOfPinLaw" = some m.cls) (e0:T0.heap = h0) (hs14:One s14) (hs15:One s15) (hs16:One s16) (hc179:(i7 - i13) < 100) (hc190:(i7 - i13) < 10) (hc213:¬ ((i7 - i13) = 1)) :
   ∃ (T':State),Stand p l e room_1 s m args below meth c T' locs cells slots ∧ T'.heap = h0 ∧
     ∀ target,Steps p.tables e below (T'.setTop (mkF m 226 #[s0,s1,s2,s3,s4,s5,s6,vi i7,s8,s9,s10,s11,s12,vi i13,vi (i7 - i13),vi 1,vi (((((i13 + 1) + 1) + 15) + 1) + 1),s17,s18] [])) target → Steps p.tables e below (T0.setTop (mkF m 168 #[s0,s1,s2,s3,s4,s5,s6,vi i7,s8,s9,s10,s11,s12,vi i13,s14,s15,s16,s17,s18] [])) target := by
 refine ⟨T0,X0,e0,fun target kt => ?_⟩
 refine iL X0.here hx rfl (hb hby at_168) rfl (iL X0.here hx rfl (hb hby at_170) rfl (iB X0.here hx rfl (hb hby at_172) rfl (iS X0.here hx rfl (hb hby at_173) rfl (l':=#[s0,s1,s2,s3,s4,s5,s6,vi i7,s8,s9,s10,s11,s12,vi i13,vi (i7 - i13),s15,s16,s17,s18]) (os0_173_li2 hs14) ?_)))
 refine iL X0.here hx rfl (hb hby at_175) rfl (bP X0.here hx rfl (hb hby at_177) (cY X0.here hx rfl (pc0 := 179) (pc':=186) rfl (hb hby at_179) rfl (tlt hc179).1 (by decide) (by decide) (iL X0.here hx rfl (hb hby at_186) rfl ?_)))
 refine bP X0.here hx rfl (hb hby at_188) (cY X0.here hx rfl (pc0 := 190) (pc':=197) rfl (hb hby at_190) rfl (tlt hc190).1 (by decide) (by decide) (iC X0.here hx rfl (hb hby at_197) (iS X0.here hx rfl (hb hby at_198) rfl (l':=#[s0,s1,s2,s3,s4,s5,s6,vi i7,s8,s9,s10,s11,s12,vi i13,vi (i7 - i13),vi 1,s16,s17,s18]) (os0_198_li2 hs15) ?_)))
 refine iL X0.here hx rfl (hb hby at_200) rfl (iC X0.here hx rfl (hb hby at_202) (iA X0.here hx rfl (hb hby at_203) rfl (iL X0.here hx rfl (hb hby at_204) rfl ?_)))
 refine iA X0.here hx rfl (hb hby at_206) rfl (bP X0.here hx rfl (hb hby at_207) (iA X0.here hx rfl (hb hby at_209) rfl (iL X0.here hx rfl (hb hby at_210) rfl ?_)))
 refine iC X0.here hx rfl (hb hby at_212) (cY X0.here hx rfl (pc0 := 213) (pc':=220) rfl (hb hby at_213) rfl (feq hc213).2 (by decide) (by decide) (iC X0.here hx rfl (hb hby at_220) (iA X0.here hx rfl (hb hby at_221) rfl ?_)))
 refine iC X0.here hx rfl (hb hby at_222) (iA X0.here hx rfl (hb hby at_223) rfl (iS X0.here hx rfl (hb hby at_224) rfl (l':=#[s0,s1,s2,s3,s4,s5,s6,vi i7,s8,s9,s10,s11,s12,vi i13,vi (i7 - i13),vi 1,vi (((((i13 + 1) + 1) + 15) + 1) + 1),s17,s18]) (os0_224_li2 hs16) ?_))
 exact kt
theorem os0_173_li3 {s0:Slot} {s1:Slot} {s2:Slot} {s3:Slot} {s4:Slot} {s5:Slot} {s6:Slot} {z7:Value} {s8:Slot} {s9:Slot} {s10:Slot} {s11:Slot} {s12:Slot} {z13:Value} {s14:Slot} {s15:Slot} {s16:Slot} {s17:Slot} {s18:Slot} {v:Int32} (h:One s14) : storeLocals #[s0,s1,s2,s3,s4,s5,s6,.val z7,s8,s9,s10,s11,s12,.val z13,s14,s15,s16,s17,s18] 14 (.int v) = some #[s0,s1,s2,s3,s4,s5,s6,.val z7,s8,s9,s10,s11,s12,.val z13,vi v,s15,s16,s17,s18] := by
 rcases h with rfl | ⟨w,rfl,hw⟩
 · rfl
 · cases w <;> first | rfl | (simp [Value.category] at hw)
theorem os0_198_li3 {s0:Slot} {s1:Slot} {s2:Slot} {s3:Slot} {s4:Slot} {s5:Slot} {s6:Slot} {z7:Value} {s8:Slot} {s9:Slot} {s10:Slot} {s11:Slot} {s12:Slot} {z13:Value} {z14:Value} {s15:Slot} {s16:Slot} {s17:Slot} {s18:Slot} {v:Int32} (h:One s15) : storeLocals #[s0,s1,s2,s3,s4,s5,s6,.val z7,s8,s9,s10,s11,s12,.val z13,.val z14,s15,s16,s17,s18] 15 (.int v) = some #[s0,s1,s2,s3,s4,s5,s6,.val z7,s8,s9,s10,s11,s12,.val z13,.val z14,vi v,s16,s17,s18] := by
 rcases h with rfl | ⟨w,rfl,hw⟩
 · rfl
 · cases w <;> first | rfl | (simp [Value.category] at hw)
theorem os0_224_li3 {s0:Slot} {s1:Slot} {s2:Slot} {s3:Slot} {s4:Slot} {s5:Slot} {s6:Slot} {z7:Value} {s8:Slot} {s9:Slot} {s10:Slot} {s11:Slot} {s12:Slot} {z13:Value} {z14:Value} {z15:Value} {s16:Slot} {s17:Slot} {s18:Slot} {v:Int32} (h:One s16) : storeLocals #[s0,s1,s2,s3,s4,s5,s6,.val z7,s8,s9,s10,s11,s12,.val z13,.val z14,.val z15,s16,s17,s18] 16 (.int v) = some #[s0,s1,s2,s3,s4,s5,s6,.val z7,s8,s9,s10,s11,s12,.val z13,.val z14,.val z15,vi v,s17,s18] := by
 rcases h with rfl | ⟨w,rfl,hw⟩
 · rfl
 · cases w <;> first | rfl | (simp [Value.category] at hw)
theorem li3 {h0:Heap} (s0:Slot) (s1:Slot) (s2:Slot) (s3:Slot) (s4:Slot) (s5:Slot) (s6:Slot) (i7:Int32) (s8:Slot) (s9:Slot) (s10:Slot) (s11:Slot) (s12:Slot) (i13:Int32) (s14:Slot) (s15:Slot) (s16:Slot) (s17:Slot) (s18:Slot)
   (X0:Stand p l e room_1 s m args below meth c T0 locs cells slots) (hx:p.tables.exec = Jvm.exec) (hZ:Z.Warmed39 s.vm) (hw:zH Z a0) (hby:c.code = code) (hml:c.maxLocals = 19) (hown:s.vm.findClass "com/example/dolmetsch/dolmetsch/BriefTextOfPinLaw" = some m.cls) (e0:T0.heap = h0) (hs14:One s14) (hs15:One s15) (hs16:One s16) (hc179:(i7 - i13) < 100) (hc190:¬ ((i7 - i13) < 10)) (hc213:¬ ((i7 - i13) = 1)) :
   ∃ (T':State),Stand p l e room_1 s m args below meth c T' locs cells slots ∧ T'.heap = h0 ∧
     ∀ target,Steps p.tables e below (T'.setTop (mkF m 226 #[s0,s1,s2,s3,s4,s5,s6,vi i7,s8,s9,s10,s11,s12,vi i13,vi (i7 - i13),vi 2,vi (((((i13 + 1) + 2) + 15) + 1) + 1),s17,s18] [])) target → Steps p.tables e below (T0.setTop (mkF m 168 #[s0,s1,s2,s3,s4,s5,s6,vi i7,s8,s9,s10,s11,s12,vi i13,s14,s15,s16,s17,s18] [])) target := by
 refine ⟨T0,X0,e0,fun target kt => ?_⟩
 refine iL X0.here hx rfl (hb hby at_168) rfl (iL X0.here hx rfl (hb hby at_170) rfl (iB X0.here hx rfl (hb hby at_172) rfl (iS X0.here hx rfl (hb hby at_173) rfl (l':=#[s0,s1,s2,s3,s4,s5,s6,vi i7,s8,s9,s10,s11,s12,vi i13,vi (i7 - i13),s15,s16,s17,s18]) (os0_173_li3 hs14) ?_)))
 refine iL X0.here hx rfl (hb hby at_175) rfl (bP X0.here hx rfl (hb hby at_177) (cY X0.here hx rfl (pc0 := 179) (pc':=186) rfl (hb hby at_179) rfl (tlt hc179).1 (by decide) (by decide) (iL X0.here hx rfl (hb hby at_186) rfl ?_)))
 refine bP X0.here hx rfl (hb hby at_188) (cN X0.here hx rfl (hb hby at_190) rfl (flt hc190).1 (iC X0.here hx rfl (hb hby at_193) (gT X0.here hx rfl (pc0 := 194) (pc':=198) rfl (hb hby at_194) (by decide) (by decide) ?_)))
 refine iS X0.here hx rfl (hb hby at_198) rfl (l':=#[s0,s1,s2,s3,s4,s5,s6,vi i7,s8,s9,s10,s11,s12,vi i13,vi (i7 - i13),vi 2,s16,s17,s18]) (os0_198_li3 hs15) (iL X0.here hx rfl (hb hby at_200) rfl (iC X0.here hx rfl (hb hby at_202) (iA X0.here hx rfl (hb hby at_203) rfl ?_)))
 refine iL X0.here hx rfl (hb hby at_204) rfl (iA X0.here hx rfl (hb hby at_206) rfl (bP X0.here hx rfl (hb hby at_207) (iA X0.here hx rfl (hb hby at_209) rfl ?_)))
 refine iL X0.here hx rfl (hb hby at_210) rfl (iC X0.here hx rfl (hb hby at_212) (cY X0.here hx rfl (pc0 := 213) (pc':=220) rfl (hb hby at_213) rfl (feq hc213).2 (by decide) (by decide) (iC X0.here hx rfl (hb hby at_220) ?_)))
 refine iA X0.here hx rfl (hb hby at_221) rfl (iC X0.here hx rfl (hb hby at_222) (iA X0.here hx rfl (hb hby at_223) rfl (iS X0.here hx rfl (hb hby at_224) rfl (l':=#[s0,s1,s2,s3,s4,s5,s6,vi i7,s8,s9,s10,s11,s12,vi i13,vi (i7 - i13),vi 2,vi (((((i13 + 1) + 2) + 15) + 1) + 1),s17,s18]) (os0_224_li3 hs16) ?_)))
 exact kt
theorem os0_173_li4 {s0:Slot} {s1:Slot} {s2:Slot} {s3:Slot} {s4:Slot} {s5:Slot} {s6:Slot} {z7:Value} {s8:Slot} {s9:Slot} {s10:Slot} {s11:Slot} {s12:Slot} {z13:Value} {s14:Slot} {s15:Slot} {s16:Slot} {s17:Slot} {s18:Slot} {v:Int32} (h:One s14) : storeLocals #[s0,s1,s2,s3,s4,s5,s6,.val z7,s8,s9,s10,s11,s12,.val z13,s14,s15,s16,s17,s18] 14 (.int v) = some #[s0,s1,s2,s3,s4,s5,s6,.val z7,s8,s9,s10,s11,s12,.val z13,vi v,s15,s16,s17,s18] := by
 rcases h with rfl | ⟨w,rfl,hw⟩
 · rfl
 · cases w <;> first | rfl | (simp [Value.category] at hw)
theorem os0_198_li4 {s0:Slot} {s1:Slot} {s2:Slot} {s3:Slot} {s4:Slot} {s5:Slot} {s6:Slot} {z7:Value} {s8:Slot} {s9:Slot} {s10:Slot} {s11:Slot} {s12:Slot} {z13:Value} {z14:Value} {s15:Slot} {s16:Slot} {s17:Slot} {s18:Slot} {v:Int32} (h:One s15) : storeLocals #[s0,s1,s2,s3,s4,s5,s6,.val z7,s8,s9,s10,s11,s12,.val z13,.val z14,s15,s16,s17,s18] 15 (.int v) = some #[s0,s1,s2,s3,s4,s5,s6,.val z7,s8,s9,s10,s11,s12,.val z13,.val z14,vi v,s16,s17,s18] := by
 rcases h with rfl | ⟨w,rfl,hw⟩
 · rfl
 · cases w <;> first | rfl | (simp [Value.category] at hw)
theorem os0_224_li4 {s0:Slot} {s1:Slot} {s2:Slot} {s3:Slot} {s4:Slot} {s5:Slot} {s6:Slot} {z7:Value} {s8:Slot} {s9:Slot} {s10:Slot} {s11:Slot} {s12:Slot} {z13:Value} {z14:Value} {z15:Value} {s16:Slot} {s17:Slot} {s18:Slot} {v:Int32} (h:One s16) : storeLocals #[s0,s1,s2,s3,s4,s5,s6,.val z7,s8,s9,s10,s11,s12,.val z13,.val z14,.val z15,s16,s17,s18] 16 (.int v) = some #[s0,s1,s2,s3,s4,s5,s6,.val z7,s8,s9,s10,s11,s12,.val z13,.val z14,.val z15,vi v,s17,s18] := by
 rcases h with rfl | ⟨w,rfl,hw⟩
 · rfl
 · cases w <;> first | rfl | (simp [Value.category] at hw)
theorem li4 {h0:Heap} (s0:Slot) (s1:Slot) (s2:Slot) (s3:Slot) (s4:Slot) (s5:Slot) (s6:Slot) (i7:Int32) (s8:Slot) (s9:Slot) (s10:Slot) (s11:Slot) (s12:Slot) (i13:Int32) (s14:Slot) (s15:Slot) (s16:Slot) (s17:Slot) (s18:Slot)
   (X0:Stand p l e room_1 s m args below meth c T0 locs cells slots) (hx:p.tables.exec = Jvm.exec) (hZ:Z.Warmed39 s.vm) (hw:zH Z a0) (hby:c.code = code) (hml:c.maxLocals = 19) (hown:s.vm.findClass "com/example/dolmetsch/dolmetsch/BriefTextOfPinLaw" = some m.cls) (e0:T0.heap = h0) (hs14:One s14) (hs15:One s15) (hs16:One s16) (hc179:¬ ((i7 - i13) < 100)) (hc213:¬ ((i7 - i13) = 1)) :
   ∃ (T':State),Stand p l e room_1 s m args below meth c T' locs cells slots ∧ T'.heap = h0 ∧
     ∀ target,Steps p.tables e below (T'.setTop (mkF m 226 #[s0,s1,s2,s3,s4,s5,s6,vi i7,s8,s9,s10,s11,s12,vi i13,vi (i7 - i13),vi 3,vi (((((i13 + 1) + 3) + 15) + 1) + 1),s17,s18] [])) target → Steps p.tables e below (T0.setTop (mkF m 168 #[s0,s1,s2,s3,s4,s5,s6,vi i7,s8,s9,s10,s11,s12,vi i13,s14,s15,s16,s17,s18] [])) target := by
 refine ⟨T0,X0,e0,fun target kt => ?_⟩
 refine iL X0.here hx rfl (hb hby at_168) rfl (iL X0.here hx rfl (hb hby at_170) rfl (iB X0.here hx rfl (hb hby at_172) rfl (iS X0.here hx rfl (hb hby at_173) rfl (l':=#[s0,s1,s2,s3,s4,s5,s6,vi i7,s8,s9,s10,s11,s12,vi i13,vi (i7 - i13),s15,s16,s17,s18]) (os0_173_li4 hs14) ?_)))
 refine iL X0.here hx rfl (hb hby at_175) rfl (bP X0.here hx rfl (hb hby at_177) (cN X0.here hx rfl (hb hby at_179) rfl (flt hc179).1 (iC X0.here hx rfl (hb hby at_182) ?_)))
 refine gT X0.here hx rfl (pc0 := 183) (pc':=198) rfl (hb hby at_183) (by decide) (by decide) (iS X0.here hx rfl (hb hby at_198) rfl (l':=#[s0,s1,s2,s3,s4,s5,s6,vi i7,s8,s9,s10,s11,s12,vi i13,vi (i7 - i13),vi 3,s16,s17,s18]) (os0_198_li4 hs15) (iL X0.here hx rfl (hb hby at_200) rfl (iC X0.here hx rfl (hb hby at_202) ?_)))
 refine iA X0.here hx rfl (hb hby at_203) rfl (iL X0.here hx rfl (hb hby at_204) rfl (iA X0.here hx rfl (hb hby at_206) rfl (bP X0.here hx rfl (hb hby at_207) ?_)))
 refine iA X0.here hx rfl (hb hby at_209) rfl (iL X0.here hx rfl (hb hby at_210) rfl (iC X0.here hx rfl (hb hby at_212) (cY X0.here hx rfl (pc0 := 213) (pc':=220) rfl (hb hby at_213) rfl (feq hc213).2 (by decide) (by decide) ?_)))
 refine iC X0.here hx rfl (hb hby at_220) (iA X0.here hx rfl (hb hby at_221) rfl (iC X0.here hx rfl (hb hby at_222) (iA X0.here hx rfl (hb hby at_223) rfl ?_)))
 refine iS X0.here hx rfl (hb hby at_224) rfl (l':=#[s0,s1,s2,s3,s4,s5,s6,vi i7,s8,s9,s10,s11,s12,vi i13,vi (i7 - i13),vi 3,vi (((((i13 + 1) + 3) + 15) + 1) + 1),s17,s18]) (os0_224_li4 hs16) ?_
 exact kt
theorem lj1 {h0:Heap} (s0:Slot) (s1:Slot) (s2:Slot) (s3:Slot) (s4:Slot) (s5:Slot) (o6:Addr) (s7:Slot) (i8:Int32) (s9:Slot) (s10:Slot) (s11:Slot) (s12:Slot) (i13:Int32) (s14:Slot) (s15:Slot) (s16:Slot) (o17:Addr) (s18:Slot) (cs:List Int32) (nt:Nat) (kc:ClassId) (ix:Nat) (es:List Int32) (n:Nat) (ke:ClassId) (n0:Nat)
   (X0:Stand p l e room_1 s m args below meth c T0 locs cells slots) (hx:p.tables.exec = Jvm.exec) (hZ:Z.Warmed39 s.vm) (hw:zH Z a0) (hby:c.code = code) (hml:c.maxLocals = 19) (hown:s.vm.findClass "com/example/dolmetsch/dolmetsch/BriefTextOfPinLaw" = some m.cls) (e0:T0.heap = h0) (hct:cs.length = nt) (hnt:nt ≤ 200) (hC:own_C cs) (C:Arv Z h0 o6 kc .char (I nt) (cs.map Value.int) (.int 0)) (hix:i8 = I ix) (hixn:ix < n) (hixt:ix < nt) (hcs:es.length = n) (hn:n < 100) (V:Arv Z h0 o17 ke .char (I n) (es.map Value.int) (.int 0)) (Z0:n0 ≤ h0.size) (N0:Fr n0 locs) (hcl:cells ≤ room_1.cells) (hsl:slots ≤ room_1.slots) (g_o17:n0 ≤ o17) (hc237:i8 < i13) :
   ∃ (T':State) (locs':List Loc),Stand p l e room_1 s m args below meth c T' locs' cells slots ∧ Fr n0 locs' ∧ Keep h0 T'.heap [o17] ∧ Arv Z T'.heap o17 ke .char (I n) ((es.set ix (cs.getD ix 0)).map Value.int) (.int 0) ∧
     ∀ target,Steps p.tables e below (T'.setTop (mkF m 250 #[s0,s1,s2,s3,s4,s5,vr o6,s7,vi i8,s9,s10,s11,s12,vi i13,s14,s15,s16,vr o17,s18] [])) target → Steps p.tables e below (T0.setTop (mkF m 233 #[s0,s1,s2,s3,s4,s5,vr o6,s7,vi i8,s9,s10,s11,s12,vi i13,s14,s15,s16,vr o17,s18] [])) target := by
 have hvs : (es.map Value.int).length = n := by rw [List.length_map]; exact hcs
 have hnB : n < 2147483648 := by omega
 obtain ⟨clV,ArV,qV,SV,NV,HV,GV⟩ := id V
 have SzV : clV.slots.size = n := by rw [SV]; exact own_cl n hnB
 obtain ⟨cl_o6,Ar_o6,qc,Sc,Mc,Hc,Gc⟩ := id C
 rw [own_cl nt (by omega)] at Sc
 have x6 : (i8).toNatClampNeg = ix := by rw [hix]; exact own_cl _ (by omega)
 have hin248 : ¬ (i8 < 0 ∨ cl_o6.slots.size ≤ (i8).toNatClampNeg) := fun q => q.elim (by rw [hix]; exact own_nn _ (by omega)) (by rw [x6,Sc]; omega)
 have hat248 : cl_o6.slots[(i8).toNatClampNeg]? = some (.int (cs.getD ix 0)) := by
   rw [x6,Hc ix (by omega)]
   simp [List.getD_eq_getElem?_getD,List.getElem?_eq_getElem (show ix < cs.length by omega)]
 have hm_ := hC _ (own_mem cs ix (by omega))
 have hp_8 : i8 = I (ix) := hix
 have x_8 : (i8).toNatClampNeg = ix := by rw [hp_8]; exact own_cl _ (by omega)
 have hn_8 : ¬ (i8 < 0 ∨ clV.slots.size ≤ (i8).toNatClampNeg) := by rw [x_8,SzV,hp_8]; exact fun q => q.elim (own_nn _ (by omega)) (Nat.not_le_of_lt (by omega))
 obtain ⟨T8,h8,X8,e8,W8,st8⟩ := stC X0 hx hZ e0 ArV (j:=i8) hn_8 (g:=(mkF m 249 #[s0,s1,s2,s3,s4,s5,vr o6,s7,vi i8,s9,s10,s11,s12,vi i13,s14,s15,s16,vr o17,s18] [(.int (cs.getD ix 0)),.int i8,.ref o17])) rfl rfl (hb hby at_249)
 have N8 := Fr.snoc X8 N0 g_o17
 have V8 := Arv.set ArV qV SV NV HV GV (fits_nar_char _) W8 (ix) x_8 (by omega)
 obtain ⟨clV8,ArV8,qV8,SV8,NV8,HV8,GV8⟩ := id V8
 have SzV8 : clV8.slots.size = n := by rw [SV8]; exact own_cl n hnB
 have K8 : Keep h0 h8 [o17] := (Keep.refl h0 [o17]).wr W8 (Or.inl (List.mem_of_getElem? (i:=0) rfl))
 rw [own_mapset,show nar .char (cs.getD ix 0) = cs.getD ix 0 from own_nar_id hm_.1 hm_.2] at V8
 refine ⟨T8,_,X8,N8,by rw [e8]; exact K8,by rw [e8]; exact V8,fun target kt => ?_⟩
 refine iL X0.here hx rfl (hb hby at_233) rfl (iL X0.here hx rfl (hb hby at_235) rfl (cN X0.here hx rfl (hb hby at_237) rfl (tlt hc237).2.1 (aL X0.here hx rfl (hb hby at_240) rfl rfl ?_)))
 refine iL X0.here hx rfl (hb hby at_242) rfl (aL X0.here hx rfl (hb hby at_244) rfl rfl (iL X0.here hx rfl (hb hby at_246) rfl (X0.caload hx (j:=i8) (v:=(.int (cs.getD ix 0))) (by rw [e0]; exact Ar_o6.1) (State.isArrayOf_alike hZ.alike Ar_o6.2.1) Ar_o6.2.2 hin248 hat248 (g:=(mkF m 248 #[s0,s1,s2,s3,s4,s5,vr o6,s7,vi i8,s9,s10,s11,s12,vi i13,s14,s15,s16,vr o17,s18] [.int i8,.ref o6,.int i8,.ref o17])) rfl rfl (hb hby at_248) _ ?_)))
 refine st8 _ ?_
 exact kt
theorem lj2 {h0:Heap} (s0:Slot) (s1:Slot) (s2:Slot) (s3:Slot) (s4:Slot) (s5:Slot) (o6:Addr) (s7:Slot) (s8:Slot) (i9:Int32) (s10:Slot) (s11:Slot) (s12:Slot) (i13:Int32) (s14:Slot) (s15:Slot) (s16:Slot) (o17:Addr) (s18:Slot) (cs:List Int32) (nt:Nat) (kc:ClassId) (ix:Nat) (es:List Int32) (n:Nat) (ke:ClassId) (n0:Nat)
   (X0:Stand p l e room_1 s m args below meth c T0 locs cells slots) (hx:p.tables.exec = Jvm.exec) (hZ:Z.Warmed39 s.vm) (hw:zH Z a0) (hby:c.code = code) (hml:c.maxLocals = 19) (hown:s.vm.findClass "com/example/dolmetsch/dolmetsch/BriefTextOfPinLaw" = some m.cls) (e0:T0.heap = h0) (hct:cs.length = nt) (hnt:nt ≤ 200) (hC:own_C cs) (C:Arv Z h0 o6 kc .char (I nt) (cs.map Value.int) (.int 0)) (hix:i9 = I ix) (hixn:ix < n) (hixt:ix < nt) (hcs:es.length = n) (hn:n < 100) (V:Arv Z h0 o17 ke .char (I n) (es.map Value.int) (.int 0)) (Z0:n0 ≤ h0.size) (N0:Fr n0 locs) (hcl:cells ≤ room_1.cells) (hsl:slots ≤ room_1.slots) (g_o17:n0 ≤ o17) (hc254:i9 < i13) :
   ∃ (T':State) (locs':List Loc),Stand p l e room_1 s m args below meth c T' locs' cells slots ∧ Fr n0 locs' ∧ Keep h0 T'.heap [o17] ∧ Arv Z T'.heap o17 ke .char (I n) ((es.set ix (cs.getD ix 0)).map Value.int) (.int 0) ∧
     ∀ target,Steps p.tables e below (T'.setTop (mkF m 267 #[s0,s1,s2,s3,s4,s5,vr o6,s7,s8,vi i9,s10,s11,s12,vi i13,s14,s15,s16,vr o17,s18] [])) target → Steps p.tables e below (T0.setTop (mkF m 250 #[s0,s1,s2,s3,s4,s5,vr o6,s7,s8,vi i9,s10,s11,s12,vi i13,s14,s15,s16,vr o17,s18] [])) target := by
 have hvs : (es.map Value.int).length = n := by rw [List.length_map]; exact hcs
 have hnB : n < 2147483648 := by omega
 obtain ⟨clV,ArV,qV,SV,NV,HV,GV⟩ := id V
 have SzV : clV.slots.size = n := by rw [SV]; exact own_cl n hnB
 obtain ⟨cl_o6,Ar_o6,qc,Sc,Mc,Hc,Gc⟩ := id C
 rw [own_cl nt (by omega)] at Sc
 have x6 : (i9).toNatClampNeg = ix := by rw [hix]; exact own_cl _ (by omega)
 have hin265 : ¬ (i9 < 0 ∨ cl_o6.slots.size ≤ (i9).toNatClampNeg) := fun q => q.elim (by rw [hix]; exact own_nn _ (by omega)) (by rw [x6,Sc]; omega)
 have hat265 : cl_o6.slots[(i9).toNatClampNeg]? = some (.int (cs.getD ix 0)) := by
   rw [x6,Hc ix (by omega)]
   simp [List.getD_eq_getElem?_getD,List.getElem?_eq_getElem (show ix < cs.length by omega)]
 have hm_ := hC _ (own_mem cs ix (by omega))
 have hp_8 : i9 = I (ix) := hix
 have x_8 : (i9).toNatClampNeg = ix := by rw [hp_8]; exact own_cl _ (by omega)
 have hn_8 : ¬ (i9 < 0 ∨ clV.slots.size ≤ (i9).toNatClampNeg) := by rw [x_8,SzV,hp_8]; exact fun q => q.elim (own_nn _ (by omega)) (Nat.not_le_of_lt (by omega))
 obtain ⟨T8,h8,X8,e8,W8,st8⟩ := stC X0 hx hZ e0 ArV (j:=i9) hn_8 (g:=(mkF m 266 #[s0,s1,s2,s3,s4,s5,vr o6,s7,s8,vi i9,s10,s11,s12,vi i13,s14,s15,s16,vr o17,s18] [(.int (cs.getD ix 0)),.int i9,.ref o17])) rfl rfl (hb hby at_266)
 have N8 := Fr.snoc X8 N0 g_o17
 have V8 := Arv.set ArV qV SV NV HV GV (fits_nar_char _) W8 (ix) x_8 (by omega)
 obtain ⟨clV8,ArV8,qV8,SV8,NV8,HV8,GV8⟩ := id V8
 have SzV8 : clV8.slots.size = n := by rw [SV8]; exact own_cl n hnB
 have K8 : Keep h0 h8 [o17] := (Keep.refl h0 [o17]).wr W8 (Or.inl (List.mem_of_getElem? (i:=0) rfl))
 rw [own_mapset,show nar .char (cs.getD ix 0) = cs.getD ix 0 from own_nar_id hm_.1 hm_.2] at V8
 refine ⟨T8,_,X8,N8,by rw [e8]; exact K8,by rw [e8]; exact V8,fun target kt => ?_⟩
 refine iL X0.here hx rfl (hb hby at_250) rfl (iL X0.here hx rfl (hb hby at_252) rfl (cN X0.here hx rfl (hb hby at_254) rfl (tlt hc254).2.1 (aL X0.here hx rfl (hb hby at_257) rfl rfl ?_)))
 refine iL X0.here hx rfl (hb hby at_259) rfl (aL X0.here hx rfl (hb hby at_261) rfl rfl (iL X0.here hx rfl (hb hby at_263) rfl (X0.caload hx (j:=i9) (v:=(.int (cs.getD ix 0))) (by rw [e0]; exact Ar_o6.1) (State.isArrayOf_alike hZ.alike Ar_o6.2.1) Ar_o6.2.2 hin265 hat265 (g:=(mkF m 265 #[s0,s1,s2,s3,s4,s5,vr o6,s7,s8,vi i9,s10,s11,s12,vi i13,s14,s15,s16,vr o17,s18] [.int i9,.ref o6,.int i9,.ref o17])) rfl rfl (hb hby at_265) _ ?_)))
 refine st8 _ ?_
 exact kt
theorem lj3 {h0:Heap} (s0:Slot) (s1:Slot) (s2:Slot) (s3:Slot) (s4:Slot) (s5:Slot) (o6:Addr) (s7:Slot) (s8:Slot) (s9:Slot) (s10:Slot) (s11:Slot) (s12:Slot) (i13:Int32) (s14:Slot) (s15:Slot) (s16:Slot) (o17:Addr) (s18:Slot) (cs:List Int32) (nt:Nat) (kc:ClassId) (es:List Int32) (n:Nat) (ke:ClassId) (n0:Nat)
   (X0:Stand p l e room_1 s m args below meth c T0 locs cells slots) (hx:p.tables.exec = Jvm.exec) (hZ:Z.Warmed39 s.vm) (hw:zH Z a0) (hby:c.code = code) (hml:c.maxLocals = 19) (hown:s.vm.findClass "com/example/dolmetsch/dolmetsch/BriefTextOfPinLaw" = some m.cls) (e0:T0.heap = h0) (hct:cs.length = nt) (hnt:nt ≤ 200) (hC:own_C cs) (C:Arv Z h0 o6 kc .char (I nt) (cs.map Value.int) (.int 0)) (hixn:63 < n) (hixt:63 < nt) (hcs:es.length = n) (hn:n < 100) (V:Arv Z h0 o17 ke .char (I n) (es.map Value.int) (.int 0)) (Z0:n0 ≤ h0.size) (N0:Fr n0 locs) (hcl:cells ≤ room_1.cells) (hsl:slots ≤ room_1.slots) (g_o17:n0 ≤ o17) (hc271:(63:Int32) < i13) :
   ∃ (T':State) (locs':List Loc),Stand p l e room_1 s m args below meth c T' locs' cells slots ∧ Fr n0 locs' ∧ Keep h0 T'.heap [o17] ∧ Arv Z T'.heap o17 ke .char (I n) ((es.set 63 (cs.getD 63 0)).map Value.int) (.int 0) ∧
     ∀ target,Steps p.tables e below (T'.setTop (mkF m 284 #[s0,s1,s2,s3,s4,s5,vr o6,s7,s8,s9,s10,s11,s12,vi i13,s14,s15,s16,vr o17,s18] [])) target → Steps p.tables e below (T0.setTop (mkF m 267 #[s0,s1,s2,s3,s4,s5,vr o6,s7,s8,s9,s10,s11,s12,vi i13,s14,s15,s16,vr o17,s18] [])) target := by
 have hvs : (es.map Value.int).length = n := by rw [List.length_map]; exact hcs
 have hnB : n < 2147483648 := by omega
 obtain ⟨clV,ArV,qV,SV,NV,HV,GV⟩ := id V
 have SzV : clV.slots.size = n := by rw [SV]; exact own_cl n hnB
 obtain ⟨cl_o6,Ar_o6,qc,Sc,Mc,Hc,Gc⟩ := id C
 rw [own_cl nt (by omega)] at Sc
 have x6 : ((63:Int32)).toNatClampNeg = 63 := by decide
 have hin282 : ¬ ((63:Int32) < 0 ∨ cl_o6.slots.size ≤ ((63:Int32)).toNatClampNeg) := fun q => q.elim (by decide) (by rw [x6,Sc]; omega)
 have hat282 : cl_o6.slots[((63:Int32)).toNatClampNeg]? = some (.int (cs.getD 63 0)) := by
   rw [x6,Hc 63 (by omega)]
   simp [List.getD_eq_getElem?_getD,List.getElem?_eq_getElem (show 63 < cs.length by omega)]
 have hm_ := hC _ (own_mem cs 63 (by omega))
 have hp_8 : (63:Int32) = I (63) := rfl
 have x_8 : ((63:Int32)).toNatClampNeg = 63 := by rw [hp_8]; exact own_cl _ (by omega)
 have hn_8 : ¬ ((63:Int32) < 0 ∨ clV.slots.size ≤ ((63:Int32)).toNatClampNeg) := by rw [x_8,SzV,hp_8]; exact fun q => q.elim (own_nn _ (by omega)) (Nat.not_le_of_lt (by omega))
 obtain ⟨T8,h8,X8,e8,W8,st8⟩ := stC X0 hx hZ e0 ArV (j:=(63:Int32)) hn_8 (g:=(mkF m 283 #[s0,s1,s2,s3,s4,s5,vr o6,s7,s8,s9,s10,s11,s12,vi i13,s14,s15,s16,vr o17,s18] [(.int (cs.getD 63 0)),.int 63,.ref o17])) rfl rfl (hb hby at_283)
 have N8 := Fr.snoc X8 N0 g_o17
 have V8 := Arv.set ArV qV SV NV HV GV (fits_nar_char _) W8 (63) x_8 (by omega)
 obtain ⟨clV8,ArV8,qV8,SV8,NV8,HV8,GV8⟩ := id V8
 have SzV8 : clV8.slots.size = n := by rw [SV8]; exact own_cl n hnB
 have K8 : Keep h0 h8 [o17] := (Keep.refl h0 [o17]).wr W8 (Or.inl (List.mem_of_getElem? (i:=0) rfl))
 rw [own_mapset,show nar .char (cs.getD 63 0) = cs.getD 63 0 from own_nar_id hm_.1 hm_.2] at V8
 refine ⟨T8,_,X8,N8,by rw [e8]; exact K8,by rw [e8]; exact V8,fun target kt => ?_⟩
 refine bP X0.here hx rfl (hb hby at_267) (iL X0.here hx rfl (hb hby at_269) rfl (cN X0.here hx rfl (hb hby at_271) rfl (tlt hc271).2.1 (aL X0.here hx rfl (hb hby at_274) rfl rfl ?_)))
 refine bP X0.here hx rfl (hb hby at_276) (aL X0.here hx rfl (hb hby at_278) rfl rfl (bP X0.here hx rfl (hb hby at_280) (X0.caload hx (j:=(63:Int32)) (v:=(.int (cs.getD 63 0))) (by rw [e0]; exact Ar_o6.1) (State.isArrayOf_alike hZ.alike Ar_o6.2.1) Ar_o6.2.2 hin282 hat282 (g:=(mkF m 282 #[s0,s1,s2,s3,s4,s5,vr o6,s7,s8,s9,s10,s11,s12,vi i13,s14,s15,s16,vr o17,s18] [.int 63,.ref o6,.int 63,.ref o17])) rfl rfl (hb hby at_282) _ ?_)))
 refine st8 _ ?_
 exact kt
theorem lj1n {h0:Heap} (s0:Slot) (s1:Slot) (s2:Slot) (s3:Slot) (s4:Slot) (s5:Slot) (s6:Slot) (s7:Slot) (i8:Int32) (s9:Slot) (s10:Slot) (s11:Slot) (s12:Slot) (i13:Int32) (s14:Slot) (s15:Slot) (s16:Slot) (s17:Slot) (s18:Slot)
   (X0:Stand p l e room_1 s m args below meth c T0 locs cells slots) (hx:p.tables.exec = Jvm.exec) (hZ:Z.Warmed39 s.vm) (hw:zH Z a0) (hby:c.code = code) (hml:c.maxLocals = 19) (hown:s.vm.findClass "com/example/dolmetsch/dolmetsch/BriefTextOfPinLaw" = some m.cls) (e0:T0.heap = h0) (hc237:¬ (i8 < i13)) :
   ∃ (T':State),Stand p l e room_1 s m args below meth c T' locs cells slots ∧ T'.heap = h0 ∧
     ∀ target,Steps p.tables e below (T'.setTop (mkF m 250 #[s0,s1,s2,s3,s4,s5,s6,s7,vi i8,s9,s10,s11,s12,vi i13,s14,s15,s16,s17,s18] [])) target → Steps p.tables e below (T0.setTop (mkF m 233 #[s0,s1,s2,s3,s4,s5,s6,s7,vi i8,s9,s10,s11,s12,vi i13,s14,s15,s16,s17,s18] [])) target := by
 refine ⟨T0,X0,e0,fun target kt => ?_⟩
 refine iL X0.here hx rfl (hb hby at_233) rfl (iL X0.here hx rfl (hb hby at_235) rfl (cY X0.here hx rfl (pc0 := 237) (pc':=250) rfl (hb hby at_237) rfl (flt hc237).2.1 (by decide) (by decide) ?_))
 exact kt
theorem lj2n {h0:Heap} (s0:Slot) (s1:Slot) (s2:Slot) (s3:Slot) (s4:Slot) (s5:Slot) (s6:Slot) (s7:Slot) (s8:Slot) (i9:Int32) (s10:Slot) (s11:Slot) (s12:Slot) (i13:Int32) (s14:Slot) (s15:Slot) (s16:Slot) (s17:Slot) (s18:Slot)
   (X0:Stand p l e room_1 s m args below meth c T0 locs cells slots) (hx:p.tables.exec = Jvm.exec) (hZ:Z.Warmed39 s.vm) (hw:zH Z a0) (hby:c.code = code) (hml:c.maxLocals = 19) (hown:s.vm.findClass "com/example/dolmetsch/dolmetsch/BriefTextOfPinLaw" = some m.cls) (e0:T0.heap = h0) (hc254:¬ (i9 < i13)) :
   ∃ (T':State),Stand p l e room_1 s m args below meth c T' locs cells slots ∧ T'.heap = h0 ∧
     ∀ target,Steps p.tables e below (T'.setTop (mkF m 267 #[s0,s1,s2,s3,s4,s5,s6,s7,s8,vi i9,s10,s11,s12,vi i13,s14,s15,s16,s17,s18] [])) target → Steps p.tables e below (T0.setTop (mkF m 250 #[s0,s1,s2,s3,s4,s5,s6,s7,s8,vi i9,s10,s11,s12,vi i13,s14,s15,s16,s17,s18] [])) target := by
 refine ⟨T0,X0,e0,fun target kt => ?_⟩
 refine iL X0.here hx rfl (hb hby at_250) rfl (iL X0.here hx rfl (hb hby at_252) rfl (cY X0.here hx rfl (pc0 := 254) (pc':=267) rfl (hb hby at_254) rfl (flt hc254).2.1 (by decide) (by decide) ?_))
 exact kt
theorem lj3n {h0:Heap} (s0:Slot) (s1:Slot) (s2:Slot) (s3:Slot) (s4:Slot) (s5:Slot) (s6:Slot) (s7:Slot) (s8:Slot) (s9:Slot) (s10:Slot) (s11:Slot) (s12:Slot) (i13:Int32) (s14:Slot) (s15:Slot) (s16:Slot) (s17:Slot) (s18:Slot)
   (X0:Stand p l e room_1 s m args below meth c T0 locs cells slots) (hx:p.tables.exec = Jvm.exec) (hZ:Z.Warmed39 s.vm) (hw:zH Z a0) (hby:c.code = code) (hml:c.maxLocals = 19) (hown:s.vm.findClass "com/example/dolmetsch/dolmetsch/BriefTextOfPinLaw" = some m.cls) (e0:T0.heap = h0) (hc271:¬ ((63:Int32) < i13)) :
   ∃ (T':State),Stand p l e room_1 s m args below meth c T' locs cells slots ∧ T'.heap = h0 ∧
     ∀ target,Steps p.tables e below (T'.setTop (mkF m 284 #[s0,s1,s2,s3,s4,s5,s6,s7,s8,s9,s10,s11,s12,vi i13,s14,s15,s16,s17,s18] [])) target → Steps p.tables e below (T0.setTop (mkF m 267 #[s0,s1,s2,s3,s4,s5,s6,s7,s8,s9,s10,s11,s12,vi i13,s14,s15,s16,s17,s18] [])) target := by
 refine ⟨T0,X0,e0,fun target kt => ?_⟩
 refine bP X0.here hx rfl (hb hby at_267) (iL X0.here hx rfl (hb hby at_269) rfl (cY X0.here hx rfl (pc0 := 271) (pc':=284) rfl (hb hby at_271) rfl (flt hc271).2.1 (by decide) (by decide) ?_))
 exact kt
theorem os0_286_ln1 {s0:Slot} {s1:Slot} {s2:Slot} {s3:Slot} {s4:Slot} {s5:Slot} {s6:Slot} {s7:Slot} {s8:Slot} {s9:Slot} {s10:Slot} {s11:Slot} {s12:Slot} {z13:Value} {s14:Slot} {s15:Slot} {s16:Slot} {z17:Value} {s18:Slot} {v:Int32} (h:One s18) : storeLocals #[s0,s1,s2,s3,s4,s5,s6,s7,s8,s9,s10,s11,s12,.val z13,s14,s15,s16,.val z17,s18] 18 (.int v) = some #[s0,s1,s2,s3,s4,s5,s6,s7,s8,s9,s10,s11,s12,.val z13,s14,s15,s16,.val z17,vi v] := by
 rcases h with rfl | ⟨w,rfl,hw⟩
 · rfl
 · cases w <;> first | rfl | (simp [Value.category] at hw)
theorem ln1 {h0:Heap} (s0:Slot) (s1:Slot) (s2:Slot) (s3:Slot) (s4:Slot) (s5:Slot) (s6:Slot) (s7:Slot) (s8:Slot) (s9:Slot) (s10:Slot) (s11:Slot) (s12:Slot) (i13:Int32) (s14:Slot) (s15:Slot) (s16:Slot) (o17:Addr) (s18:Slot) (E:Nat) (es:List Int32) (n:Nat) (ke:ClassId) (n0:Nat)
   (X0:Stand p l e room_1 s m args below meth c T0 locs cells slots) (hx:p.tables.exec = Jvm.exec) (hZ:Z.Warmed39 s.vm) (hw:zH Z a0) (hby:c.code = code) (hml:c.maxLocals = 19) (hown:s.vm.findClass "com/example/dolmetsch/dolmetsch/BriefTextOfPinLaw" = some m.cls) (e0:T0.heap = h0) (hE:i13 = I E) (hEn:E < n) (hcs:es.length = n) (hn:n < 100) (V:Arv Z h0 o17 ke .char (I n) (es.map Value.int) (.int 0)) (Z0:n0 ≤ h0.size) (N0:Fr n0 locs) (hcl:cells ≤ room_1.cells) (hsl:slots ≤ room_1.slots) (hs18:One s18) (g_o17:n0 ≤ o17) :
   ∃ (T':State) (locs':List Loc),Stand p l e room_1 s m args below meth c T' locs' cells slots ∧ Fr n0 locs' ∧ Keep h0 T'.heap [o17] ∧ Arv Z T'.heap o17 ke .char (I n) ((es.set E 40).map Value.int) (.int 0) ∧
     ∀ target,Steps p.tables e below (T'.setTop (mkF m 301 #[s0,s1,s2,s3,s4,s5,s6,s7,s8,s9,s10,s11,s12,vi i13,s14,s15,s16,vr o17,vi (i13 + 1)] [])) target → Steps p.tables e below (T0.setTop (mkF m 284 #[s0,s1,s2,s3,s4,s5,s6,s7,s8,s9,s10,s11,s12,vi i13,s14,s15,s16,vr o17,s18] [])) target := by
 have hvs : (es.map Value.int).length = n := by rw [List.length_map]; exact hcs
 have hnB : n < 2147483648 := by omega
 obtain ⟨clV,ArV,qV,SV,NV,HV,GV⟩ := id V
 have SzV : clV.slots.size = n := by rw [SV]; exact own_cl n hnB
 have hp_7 : i13 = I (E) := hE
 have x_7 : (i13).toNatClampNeg = E := by rw [hp_7]; exact own_cl _ (by omega)
 have hn_7 : ¬ (i13 < 0 ∨ clV.slots.size ≤ (i13).toNatClampNeg) := by rw [x_7,SzV,hp_7]; exact fun q => q.elim (own_nn _ (by omega)) (Nat.not_le_of_lt (by omega))
 obtain ⟨T7,h7,X7,e7,W7,st7⟩ := stC X0 hx hZ e0 ArV (j:=i13) hn_7 (g:=(mkF m 294 #[s0,s1,s2,s3,s4,s5,s6,s7,s8,s9,s10,s11,s12,vi i13,s14,s15,s16,vr o17,vi i13] [.int 40,.int i13,.ref o17])) rfl rfl (hb hby at_294)
 have N7 := Fr.snoc X7 N0 g_o17
 have V7 := Arv.set ArV qV SV NV HV GV (fits_nar_char _) W7 (E) x_7 (by omega)
 obtain ⟨clV7,ArV7,qV7,SV7,NV7,HV7,GV7⟩ := id V7
 have SzV7 : clV7.slots.size = n := by rw [SV7]; exact own_cl n hnB
 have K7 : Keep h0 h7 [o17] := (Keep.refl h0 [o17]).wr W7 (Or.inl (List.mem_of_getElem? (i:=0) rfl))
 rw [own_mapset,show nar .char 40 = 40 by decide] at V7
 refine ⟨T7,_,X7,N7,by rw [e7]; exact K7,by rw [e7]; exact V7,fun target kt => ?_⟩
 refine iL X0.here hx rfl (hb hby at_284) rfl (iS X0.here hx rfl (hb hby at_286) rfl (l':=#[s0,s1,s2,s3,s4,s5,s6,s7,s8,s9,s10,s11,s12,vi i13,s14,s15,s16,vr o17,vi i13]) (os0_286_ln1 hs18) (aL X0.here hx rfl (hb hby at_288) rfl rfl (iL X0.here hx rfl (hb hby at_290) rfl ?_)))
 refine bP X0.here hx rfl (hb hby at_292) (st7 _ (iL X7.here hx rfl (hb hby at_295) rfl (iC X7.here hx rfl (hb hby at_297) ?_)))
 refine iA X7.here hx rfl (hb hby at_298) rfl (iS X7.here hx rfl (hb hby at_299) rfl (l':=#[s0,s1,s2,s3,s4,s5,s6,s7,s8,s9,s10,s11,s12,vi i13,s14,s15,s16,vr o17,vi (i13 + 1)]) rfl ?_)
 exact kt
theorem ln2 {h0:Heap} (s0:Slot) (s1:Slot) (s2:Slot) (s3:Slot) (s4:Slot) (s5:Slot) (s6:Slot) (s7:Slot) (s8:Slot) (s9:Slot) (s10:Slot) (s11:Slot) (s12:Slot) (s13:Slot) (i14:Int32) (s15:Slot) (s16:Slot) (o17:Addr) (i18:Int32) (a_:Nat) (es:List Int32) (n:Nat) (ke:ClassId) (n0:Nat)
   (X0:Stand p l e room_1 s m args below meth c T0 locs cells slots) (hx:p.tables.exec = Jvm.exec) (hZ:Z.Warmed39 s.vm) (hw:zH Z a0) (hby:c.code = code) (hml:c.maxLocals = 19) (hown:s.vm.findClass "com/example/dolmetsch/dolmetsch/BriefTextOfPinLaw" = some m.cls) (e0:T0.heap = h0) (ha:i18 = I a_) (han:a_ < n) (hcs:es.length = n) (hn:n < 100) (V:Arv Z h0 o17 ke .char (I n) (es.map Value.int) (.int 0)) (Z0:n0 ≤ h0.size) (N0:Fr n0 locs) (hcl:cells ≤ room_1.cells) (hsl:slots ≤ room_1.slots) (g_o17:n0 ≤ o17) (hc305:¬ (i14 < 100)) (hnz318:¬ ((100:Int32) = 0)) :
   ∃ (T':State) (locs':List Loc),Stand p l e room_1 s m args below meth c T' locs' cells slots ∧ Fr n0 locs' ∧ Keep h0 T'.heap [o17] ∧ Arv Z T'.heap o17 ke .char (I n) ((es.set a_ (own_c ((48:Int32) + (i14 / 100)))).map Value.int) (.int 0) ∧
     ∀ target,Steps p.tables e below (T'.setTop (mkF m 328 #[s0,s1,s2,s3,s4,s5,s6,s7,s8,s9,s10,s11,s12,s13,vi i14,s15,s16,vr o17,vi (i18 + 1)] [])) target → Steps p.tables e below (T0.setTop (mkF m 301 #[s0,s1,s2,s3,s4,s5,s6,s7,s8,s9,s10,s11,s12,s13,vi i14,s15,s16,vr o17,vi i18] [])) target := by
 have hvs : (es.map Value.int).length = n := by rw [List.length_map]; exact hcs
 have hnB : n < 2147483648 := by omega
 obtain ⟨clV,ArV,qV,SV,NV,HV,GV⟩ := id V
 have SzV : clV.slots.size = n := by rw [SV]; exact own_cl n hnB
 have hp_7 : i18 = I (a_) := ha
 have x_7 : (i18).toNatClampNeg = a_ := by rw [hp_7]; exact own_cl _ (by omega)
 have hn_7 : ¬ (i18 < 0 ∨ clV.slots.size ≤ (i18).toNatClampNeg) := by rw [x_7,SzV,hp_7]; exact fun q => q.elim (own_nn _ (by omega)) (Nat.not_le_of_lt (by omega))
 obtain ⟨T7,h7,X7,e7,W7,st7⟩ := stC X0 hx hZ e0 ArV (j:=i18) hn_7 (g:=(mkF m 321 #[s0,s1,s2,s3,s4,s5,s6,s7,s8,s9,s10,s11,s12,s13,vi i14,s15,s16,vr o17,vi i18] [(.int (((48:Int32) + (i14 / 100)).toUInt32.toUInt16.toUInt32.toInt32)),.int i18,.ref o17])) rfl rfl (hb hby at_321)
 have N7 := Fr.snoc X7 N0 g_o17
 have V7 := Arv.set ArV qV SV NV HV GV (fits_nar_char _) W7 (a_) x_7 (by omega)
 obtain ⟨clV7,ArV7,qV7,SV7,NV7,HV7,GV7⟩ := id V7
 have SzV7 : clV7.slots.size = n := by rw [SV7]; exact own_cl n hnB
 have K7 : Keep h0 h7 [o17] := (Keep.refl h0 [o17]).wr W7 (Or.inl (List.mem_of_getElem? (i:=0) rfl))
 rw [own_mapset,show ∀ u : Int32,nar .char (u.toUInt32.toUInt16.toUInt32.toInt32) = own_c u from own_char_id] at V7
 refine ⟨T7,_,X7,N7,by rw [e7]; exact K7,by rw [e7]; exact V7,fun target kt => ?_⟩
 refine iL X0.here hx rfl (hb hby at_301) rfl (bP X0.here hx rfl (hb hby at_303) (cN X0.here hx rfl (hb hby at_305) rfl (flt hc305).1 (aL X0.here hx rfl (hb hby at_308) rfl rfl ?_)))
 refine iL X0.here hx rfl (hb hby at_310) rfl (bP X0.here hx rfl (hb hby at_312) (iL X0.here hx rfl (hb hby at_314) rfl (bP X0.here hx rfl (hb hby at_316) ?_)))
 refine XS.idiv X0.here hx rfl (hb hby at_318) rfl hnz318 (iA X0.here hx rfl (hb hby at_319) rfl (XS.i2c X0.here hx rfl (hb hby at_320) rfl (st7 _ ?_)))
 refine iL X7.here hx rfl (hb hby at_322) rfl (iC X7.here hx rfl (hb hby at_324) (iA X7.here hx rfl (hb hby at_325) rfl (iS X7.here hx rfl (hb hby at_326) rfl (l':=#[s0,s1,s2,s3,s4,s5,s6,s7,s8,s9,s10,s11,s12,s13,vi i14,s15,s16,vr o17,vi (i18 + 1)]) rfl ?_)))
 exact kt
theorem ln2n {h0:Heap} (s0:Slot) (s1:Slot) (s2:Slot) (s3:Slot) (s4:Slot) (s5:Slot) (s6:Slot) (s7:Slot) (s8:Slot) (s9:Slot) (s10:Slot) (s11:Slot) (s12:Slot) (s13:Slot) (i14:Int32) (s15:Slot) (s16:Slot) (s17:Slot) (s18:Slot)
   (X0:Stand p l e room_1 s m args below meth c T0 locs cells slots) (hx:p.tables.exec = Jvm.exec) (hZ:Z.Warmed39 s.vm) (hw:zH Z a0) (hby:c.code = code) (hml:c.maxLocals = 19) (hown:s.vm.findClass "com/example/dolmetsch/dolmetsch/BriefTextOfPinLaw" = some m.cls) (e0:T0.heap = h0) (hc305:i14 < 100) :
   ∃ (T':State),Stand p l e room_1 s m args below meth c T' locs cells slots ∧ T'.heap = h0 ∧
     ∀ target,Steps p.tables e below (T'.setTop (mkF m 328 #[s0,s1,s2,s3,s4,s5,s6,s7,s8,s9,s10,s11,s12,s13,vi i14,s15,s16,s17,s18] [])) target → Steps p.tables e below (T0.setTop (mkF m 301 #[s0,s1,s2,s3,s4,s5,s6,s7,s8,s9,s10,s11,s12,s13,vi i14,s15,s16,s17,s18] [])) target := by
 refine ⟨T0,X0,e0,fun target kt => ?_⟩
 refine iL X0.here hx rfl (hb hby at_301) rfl (bP X0.here hx rfl (hb hby at_303) (cY X0.here hx rfl (pc0 := 305) (pc':=328) rfl (hb hby at_305) rfl (tlt hc305).1 (by decide) (by decide) ?_))
 exact kt
theorem ln3 {h0:Heap} (s0:Slot) (s1:Slot) (s2:Slot) (s3:Slot) (s4:Slot) (s5:Slot) (s6:Slot) (s7:Slot) (s8:Slot) (s9:Slot) (s10:Slot) (s11:Slot) (s12:Slot) (s13:Slot) (i14:Int32) (s15:Slot) (s16:Slot) (o17:Addr) (i18:Int32) (a_:Nat) (es:List Int32) (n:Nat) (ke:ClassId) (n0:Nat)
   (X0:Stand p l e room_1 s m args below meth c T0 locs cells slots) (hx:p.tables.exec = Jvm.exec) (hZ:Z.Warmed39 s.vm) (hw:zH Z a0) (hby:c.code = code) (hml:c.maxLocals = 19) (hown:s.vm.findClass "com/example/dolmetsch/dolmetsch/BriefTextOfPinLaw" = some m.cls) (e0:T0.heap = h0) (ha:i18 = I a_) (han:a_ < n) (hcs:es.length = n) (hn:n < 100) (V:Arv Z h0 o17 ke .char (I n) (es.map Value.int) (.int 0)) (Z0:n0 ≤ h0.size) (N0:Fr n0 locs) (hcl:cells ≤ room_1.cells) (hsl:slots ≤ room_1.slots) (g_o17:n0 ≤ o17) (hc332:¬ (i14 < 10)) (hnz345:¬ ((10:Int32) = 0)) (hnz348:¬ ((10:Int32) = 0)) :
   ∃ (T':State) (locs':List Loc),Stand p l e room_1 s m args below meth c T' locs' cells slots ∧ Fr n0 locs' ∧ Keep h0 T'.heap [o17] ∧ Arv Z T'.heap o17 ke .char (I n) ((es.set a_ (own_c ((48:Int32) + (HMod.hMod (i14 / 10) (10:Int32))))).map Value.int) (.int 0) ∧
     ∀ target,Steps p.tables e below (T'.setTop (mkF m 358 #[s0,s1,s2,s3,s4,s5,s6,s7,s8,s9,s10,s11,s12,s13,vi i14,s15,s16,vr o17,vi (i18 + 1)] [])) target → Steps p.tables e below (T0.setTop (mkF m 328 #[s0,s1,s2,s3,s4,s5,s6,s7,s8,s9,s10,s11,s12,s13,vi i14,s15,s16,vr o17,vi i18] [])) target := by
 have hvs : (es.map Value.int).length = n := by rw [List.length_map]; exact hcs
 have hnB : n < 2147483648 := by omega
 obtain ⟨clV,ArV,qV,SV,NV,HV,GV⟩ := id V
 have SzV : clV.slots.size = n := by rw [SV]; exact own_cl n hnB
 have hp_7 : i18 = I (a_) := ha
 have x_7 : (i18).toNatClampNeg = a_ := by rw [hp_7]; exact own_cl _ (by omega)
 have hn_7 : ¬ (i18 < 0 ∨ clV.slots.size ≤ (i18).toNatClampNeg) := by rw [x_7,SzV,hp_7]; exact fun q => q.elim (own_nn _ (by omega)) (Nat.not_le_of_lt (by omega))
 obtain ⟨T7,h7,X7,e7,W7,st7⟩ := stC X0 hx hZ e0 ArV (j:=i18) hn_7 (g:=(mkF m 351 #[s0,s1,s2,s3,s4,s5,s6,s7,s8,s9,s10,s11,s12,s13,vi i14,s15,s16,vr o17,vi i18] [(.int (((48:Int32) + (HMod.hMod (i14 / 10) (10:Int32))).toUInt32.toUInt16.toUInt32.toInt32)),.int i18,.ref o17])) rfl rfl (hb hby at_351)
 have N7 := Fr.snoc X7 N0 g_o17
 have V7 := Arv.set ArV qV SV NV HV GV (fits_nar_char _) W7 (a_) x_7 (by omega)
 obtain ⟨clV7,ArV7,qV7,SV7,NV7,HV7,GV7⟩ := id V7
 have SzV7 : clV7.slots.size = n := by rw [SV7]; exact own_cl n hnB
 have K7 : Keep h0 h7 [o17] := (Keep.refl h0 [o17]).wr W7 (Or.inl (List.mem_of_getElem? (i:=0) rfl))
 rw [own_mapset,show ∀ u : Int32,nar .char (u.toUInt32.toUInt16.toUInt32.toInt32) = own_c u from own_char_id] at V7
 refine ⟨T7,_,X7,N7,by rw [e7]; exact K7,by rw [e7]; exact V7,fun target kt => ?_⟩
 refine iL X0.here hx rfl (hb hby at_328) rfl (bP X0.here hx rfl (hb hby at_330) (cN X0.here hx rfl (hb hby at_332) rfl (flt hc332).1 (aL X0.here hx rfl (hb hby at_335) rfl rfl ?_)))
 refine iL X0.here hx rfl (hb hby at_337) rfl (bP X0.here hx rfl (hb hby at_339) (iL X0.here hx rfl (hb hby at_341) rfl (bP X0.here hx rfl (hb hby at_343) ?_)))
 refine XS.idiv X0.here hx rfl (hb hby at_345) rfl hnz345 (bP X0.here hx rfl (hb hby at_346) (Jvm.RoadKit.iremM X0 hx rfl (hb hby at_348) rfl hnz348 (iA X0.here hx rfl (hb hby at_349) rfl ?_)))
 refine XS.i2c X0.here hx rfl (hb hby at_350) rfl (st7 _ (iL X7.here hx rfl (hb hby at_352) rfl (iC X7.here hx rfl (hb hby at_354) ?_)))
 refine iA X7.here hx rfl (hb hby at_355) rfl (iS X7.here hx rfl (hb hby at_356) rfl (l':=#[s0,s1,s2,s3,s4,s5,s6,s7,s8,s9,s10,s11,s12,s13,vi i14,s15,s16,vr o17,vi (i18 + 1)]) rfl ?_)
 exact kt
theorem ln3n {h0:Heap} (s0:Slot) (s1:Slot) (s2:Slot) (s3:Slot) (s4:Slot) (s5:Slot) (s6:Slot) (s7:Slot) (s8:Slot) (s9:Slot) (s10:Slot) (s11:Slot) (s12:Slot) (s13:Slot) (i14:Int32) (s15:Slot) (s16:Slot) (s17:Slot) (s18:Slot)
   (X0:Stand p l e room_1 s m args below meth c T0 locs cells slots) (hx:p.tables.exec = Jvm.exec) (hZ:Z.Warmed39 s.vm) (hw:zH Z a0) (hby:c.code = code) (hml:c.maxLocals = 19) (hown:s.vm.findClass "com/example/dolmetsch/dolmetsch/BriefTextOfPinLaw" = some m.cls) (e0:T0.heap = h0) (hc332:i14 < 10) :
   ∃ (T':State),Stand p l e room_1 s m args below meth c T' locs cells slots ∧ T'.heap = h0 ∧
     ∀ target,Steps p.tables e below (T'.setTop (mkF m 358 #[s0,s1,s2,s3,s4,s5,s6,s7,s8,s9,s10,s11,s12,s13,vi i14,s15,s16,s17,s18] [])) target → Steps p.tables e below (T0.setTop (mkF m 328 #[s0,s1,s2,s3,s4,s5,s6,s7,s8,s9,s10,s11,s12,s13,vi i14,s15,s16,s17,s18] [])) target := by
 refine ⟨T0,X0,e0,fun target kt => ?_⟩
 refine iL X0.here hx rfl (hb hby at_328) rfl (bP X0.here hx rfl (hb hby at_330) (cY X0.here hx rfl (pc0 := 332) (pc':=358) rfl (hb hby at_332) rfl (tlt hc332).1 (by decide) (by decide) ?_))
 exact kt
theorem ln4 {h0:Heap} (s0:Slot) (s1:Slot) (s2:Slot) (s3:Slot) (s4:Slot) (s5:Slot) (s6:Slot) (s7:Slot) (s8:Slot) (s9:Slot) (s10:Slot) (s11:Slot) (s12:Slot) (s13:Slot) (i14:Int32) (s15:Slot) (s16:Slot) (o17:Addr) (i18:Int32) (a_:Nat) (es:List Int32) (n:Nat) (ke:ClassId) (n0:Nat)
   (X0:Stand p l e room_1 s m args below meth c T0 locs cells slots) (hx:p.tables.exec = Jvm.exec) (hZ:Z.Warmed39 s.vm) (hw:zH Z a0) (hby:c.code = code) (hml:c.maxLocals = 19) (hown:s.vm.findClass "com/example/dolmetsch/dolmetsch/BriefTextOfPinLaw" = some m.cls) (e0:T0.heap = h0) (ha:i18 = I a_) (han:a_ < n) (hcs:es.length = n) (hn:n < 100) (V:Arv Z h0 o17 ke .char (I n) (es.map Value.int) (.int 0)) (Z0:n0 ≤ h0.size) (N0:Fr n0 locs) (hcl:cells ≤ room_1.cells) (hsl:slots ≤ room_1.slots) (g_o17:n0 ≤ o17) (hnz368:¬ ((10:Int32) = 0)) :
   ∃ (T':State) (locs':List Loc),Stand p l e room_1 s m args below meth c T' locs' cells slots ∧ Fr n0 locs' ∧ Keep h0 T'.heap [o17] ∧ Arv Z T'.heap o17 ke .char (I n) ((es.set a_ (own_c ((48:Int32) + (HMod.hMod i14 (10:Int32))))).map Value.int) (.int 0) ∧
     ∀ target,Steps p.tables e below (T'.setTop (mkF m 378 #[s0,s1,s2,s3,s4,s5,s6,s7,s8,s9,s10,s11,s12,s13,vi i14,s15,s16,vr o17,vi (i18 + 1)] [])) target → Steps p.tables e below (T0.setTop (mkF m 358 #[s0,s1,s2,s3,s4,s5,s6,s7,s8,s9,s10,s11,s12,s13,vi i14,s15,s16,vr o17,vi i18] [])) target := by
 have hvs : (es.map Value.int).length = n := by rw [List.length_map]; exact hcs
 have hnB : n < 2147483648 := by omega
 obtain ⟨clV,ArV,qV,SV,NV,HV,GV⟩ := id V
 have SzV : clV.slots.size = n := by rw [SV]; exact own_cl n hnB
 have hp_7 : i18 = I (a_) := ha
 have x_7 : (i18).toNatClampNeg = a_ := by rw [hp_7]; exact own_cl _ (by omega)
 have hn_7 : ¬ (i18 < 0 ∨ clV.slots.size ≤ (i18).toNatClampNeg) := by rw [x_7,SzV,hp_7]; exact fun q => q.elim (own_nn _ (by omega)) (Nat.not_le_of_lt (by omega))
 obtain ⟨T7,h7,X7,e7,W7,st7⟩ := stC X0 hx hZ e0 ArV (j:=i18) hn_7 (g:=(mkF m 371 #[s0,s1,s2,s3,s4,s5,s6,s7,s8,s9,s10,s11,s12,s13,vi i14,s15,s16,vr o17,vi i18] [(.int (((48:Int32) + (HMod.hMod i14 (10:Int32))).toUInt32.toUInt16.toUInt32.toInt32)),.int i18,.ref o17])) rfl rfl (hb hby at_371)
 have N7 := Fr.snoc X7 N0 g_o17
 have V7 := Arv.set ArV qV SV NV HV GV (fits_nar_char _) W7 (a_) x_7 (by omega)
 obtain ⟨clV7,ArV7,qV7,SV7,NV7,HV7,GV7⟩ := id V7
 have SzV7 : clV7.slots.size = n := by rw [SV7]; exact own_cl n hnB
 have K7 : Keep h0 h7 [o17] := (Keep.refl h0 [o17]).wr W7 (Or.inl (List.mem_of_getElem? (i:=0) rfl))
 rw [own_mapset,show ∀ u : Int32,nar .char (u.toUInt32.toUInt16.toUInt32.toInt32) = own_c u from own_char_id] at V7
 refine ⟨T7,_,X7,N7,by rw [e7]; exact K7,by rw [e7]; exact V7,fun target kt => ?_⟩
 refine aL X0.here hx rfl (hb hby at_358) rfl rfl (iL X0.here hx rfl (hb hby at_360) rfl (bP X0.here hx rfl (hb hby at_362) (iL X0.here hx rfl (hb hby at_364) rfl ?_)))
 refine bP X0.here hx rfl (hb hby at_366) (Jvm.RoadKit.iremM X0 hx rfl (hb hby at_368) rfl hnz368 (iA X0.here hx rfl (hb hby at_369) rfl (XS.i2c X0.here hx rfl (hb hby at_370) rfl ?_)))
 refine st7 _ (iL X7.here hx rfl (hb hby at_372) rfl (iC X7.here hx rfl (hb hby at_374) (iA X7.here hx rfl (hb hby at_375) rfl ?_)))
 refine iS X7.here hx rfl (hb hby at_376) rfl (l':=#[s0,s1,s2,s3,s4,s5,s6,s7,s8,s9,s10,s11,s12,s13,vi i14,s15,s16,vr o17,vi (i18 + 1)]) rfl ?_
 exact kt
theorem ln6 {h0:Heap} (s0:Slot) (s1:Slot) (s2:Slot) (s3:Slot) (s4:Slot) (s5:Slot) (s6:Slot) (s7:Slot) (s8:Slot) (s9:Slot) (s10:Slot) (s11:Slot) (s12:Slot) (s13:Slot) (i14:Int32) (s15:Slot) (s16:Slot) (o17:Addr) (i18:Int32) (a_:Nat) (es:List Int32) (n:Nat) (ke:ClassId) (n0:Nat)
   (X0:Stand p l e room_1 s m args below meth c T0 locs cells slots) (hx:p.tables.exec = Jvm.exec) (hZ:Z.Warmed39 s.vm) (hw:zH Z a0) (hby:c.code = code) (hml:c.maxLocals = 19) (hown:s.vm.findClass "com/example/dolmetsch/dolmetsch/BriefTextOfPinLaw" = some m.cls) (e0:T0.heap = h0) (ha:i18 = I a_) (han:a_ < n) (hcs:es.length = n) (hn:n < 100) (V:Arv Z h0 o17 ke .char (I n) (es.map Value.int) (.int 0)) (Z0:n0 ≤ h0.size) (N0:Fr n0 locs) (hcl:cells ≤ room_1.cells) (hsl:slots ≤ room_1.slots) (g_o17:n0 ≤ o17) (hc390:¬ (i14 = 1)) :
   ∃ (T':State) (locs':List Loc),Stand p l e room_1 s m args below meth c T' locs' cells slots ∧ Fr n0 locs' ∧ Keep h0 T'.heap [o17] ∧ Arv Z T'.heap o17 ke .char (I n) ((es.set a_ 115).map Value.int) (.int 0) ∧
     ∀ target,Steps p.tables e below (T'.setTop (mkF m 406 #[s0,s1,s2,s3,s4,s5,s6,s7,s8,s9,s10,s11,s12,s13,vi i14,s15,s16,vr o17,vi (i18 + 1)] [])) target → Steps p.tables e below (T0.setTop (mkF m 387 #[s0,s1,s2,s3,s4,s5,s6,s7,s8,s9,s10,s11,s12,s13,vi i14,s15,s16,vr o17,vi i18] [])) target := by
 have hvs : (es.map Value.int).length = n := by rw [List.length_map]; exact hcs
 have hnB : n < 2147483648 := by omega
 obtain ⟨clV,ArV,qV,SV,NV,HV,GV⟩ := id V
 have SzV : clV.slots.size = n := by rw [SV]; exact own_cl n hnB
 have hp_7 : i18 = I (a_) := ha
 have x_7 : (i18).toNatClampNeg = a_ := by rw [hp_7]; exact own_cl _ (by omega)
 have hn_7 : ¬ (i18 < 0 ∨ clV.slots.size ≤ (i18).toNatClampNeg) := by rw [x_7,SzV,hp_7]; exact fun q => q.elim (own_nn _ (by omega)) (Nat.not_le_of_lt (by omega))
 obtain ⟨T7,h7,X7,e7,W7,st7⟩ := stC X0 hx hZ e0 ArV (j:=i18) hn_7 (g:=(mkF m 399 #[s0,s1,s2,s3,s4,s5,s6,s7,s8,s9,s10,s11,s12,s13,vi i14,s15,s16,vr o17,vi i18] [.int 115,.int i18,.ref o17])) rfl rfl (hb hby at_399)
 have N7 := Fr.snoc X7 N0 g_o17
 have V7 := Arv.set ArV qV SV NV HV GV (fits_nar_char _) W7 (a_) x_7 (by omega)
 obtain ⟨clV7,ArV7,qV7,SV7,NV7,HV7,GV7⟩ := id V7
 have SzV7 : clV7.slots.size = n := by rw [SV7]; exact own_cl n hnB
 have K7 : Keep h0 h7 [o17] := (Keep.refl h0 [o17]).wr W7 (Or.inl (List.mem_of_getElem? (i:=0) rfl))
 rw [own_mapset,show nar .char 115 = 115 by decide] at V7
 refine ⟨T7,_,X7,N7,by rw [e7]; exact K7,by rw [e7]; exact V7,fun target kt => ?_⟩
 refine iL X0.here hx rfl (hb hby at_387) rfl (iC X0.here hx rfl (hb hby at_389) (cN X0.here hx rfl (hb hby at_390) rfl (feq hc390).1 (aL X0.here hx rfl (hb hby at_393) rfl rfl ?_)))
 refine iL X0.here hx rfl (hb hby at_395) rfl (bP X0.here hx rfl (hb hby at_397) (st7 _ (iL X7.here hx rfl (hb hby at_400) rfl ?_)))
 refine iC X7.here hx rfl (hb hby at_402) (iA X7.here hx rfl (hb hby at_403) rfl (iS X7.here hx rfl (hb hby at_404) rfl (l':=#[s0,s1,s2,s3,s4,s5,s6,s7,s8,s9,s10,s11,s12,s13,vi i14,s15,s16,vr o17,vi (i18 + 1)]) rfl ?_))
 exact kt
theorem ln6n {h0:Heap} (s0:Slot) (s1:Slot) (s2:Slot) (s3:Slot) (s4:Slot) (s5:Slot) (s6:Slot) (s7:Slot) (s8:Slot) (s9:Slot) (s10:Slot) (s11:Slot) (s12:Slot) (s13:Slot) (i14:Int32) (s15:Slot) (s16:Slot) (s17:Slot) (s18:Slot)
   (X0:Stand p l e room_1 s m args below meth c T0 locs cells slots) (hx:p.tables.exec = Jvm.exec) (hZ:Z.Warmed39 s.vm) (hw:zH Z a0) (hby:c.code = code) (hml:c.maxLocals = 19) (hown:s.vm.findClass "com/example/dolmetsch/dolmetsch/BriefTextOfPinLaw" = some m.cls) (e0:T0.heap = h0) (hc390:i14 = 1) :
   ∃ (T':State),Stand p l e room_1 s m args below meth c T' locs cells slots ∧ T'.heap = h0 ∧
     ∀ target,Steps p.tables e below (T'.setTop (mkF m 406 #[s0,s1,s2,s3,s4,s5,s6,s7,s8,s9,s10,s11,s12,s13,vi i14,s15,s16,s17,s18] [])) target → Steps p.tables e below (T0.setTop (mkF m 387 #[s0,s1,s2,s3,s4,s5,s6,s7,s8,s9,s10,s11,s12,s13,vi i14,s15,s16,s17,s18] [])) target := by
 refine ⟨T0,X0,e0,fun target kt => ?_⟩
 refine iL X0.here hx rfl (hb hby at_387) rfl (iC X0.here hx rfl (hb hby at_389) (cY X0.here hx rfl (pc0 := 390) (pc':=406) rfl (hb hby at_390) rfl (teq hc390).1 (by decide) (by decide) ?_))
 exact kt
theorem ln7 {h0:Heap} (s0:Slot) (s1:Slot) (s2:Slot) (s3:Slot) (s4:Slot) (s5:Slot) (s6:Slot) (s7:Slot) (s8:Slot) (s9:Slot) (s10:Slot) (s11:Slot) (s12:Slot) (s13:Slot) (s14:Slot) (s15:Slot) (s16:Slot) (o17:Addr) (i18:Int32) (a_:Nat) (es:List Int32) (n:Nat) (ke:ClassId) (n0:Nat)
   (X0:Stand p l e room_1 s m args below meth c T0 locs cells slots) (hx:p.tables.exec = Jvm.exec) (hZ:Z.Warmed39 s.vm) (hw:zH Z a0) (hby:c.code = code) (hml:c.maxLocals = 19) (hown:s.vm.findClass "com/example/dolmetsch/dolmetsch/BriefTextOfPinLaw" = some m.cls) (e0:T0.heap = h0) (ha:i18 = I a_) (han:a_ < n) (hcs:es.length = n) (hn:n < 100) (V:Arv Z h0 o17 ke .char (I n) (es.map Value.int) (.int 0)) (Z0:n0 ≤ h0.size) (N0:Fr n0 locs) (hcl:cells ≤ room_1.cells) (hsl:slots ≤ room_1.slots) (g_o17:n0 ≤ o17) :
   ∃ (T':State) (locs':List Loc),Stand p l e room_1 s m args below meth c T' locs' cells slots ∧ Fr n0 locs' ∧ Keep h0 T'.heap [o17] ∧ Arv Z T'.heap o17 ke .char (I n) ((es.set a_ 41).map Value.int) (.int 0) ∧
     ∀ target,Steps p.tables e below (T'.setTop (mkF m 413 #[s0,s1,s2,s3,s4,s5,s6,s7,s8,s9,s10,s11,s12,s13,s14,s15,s16,vr o17,vi i18] [])) target → Steps p.tables e below (T0.setTop (mkF m 406 #[s0,s1,s2,s3,s4,s5,s6,s7,s8,s9,s10,s11,s12,s13,s14,s15,s16,vr o17,vi i18] [])) target := by
 have hvs : (es.map Value.int).length = n := by rw [List.length_map]; exact hcs
 have hnB : n < 2147483648 := by omega
 obtain ⟨clV,ArV,qV,SV,NV,HV,GV⟩ := id V
 have SzV : clV.slots.size = n := by rw [SV]; exact own_cl n hnB
 have hp_7 : i18 = I (a_) := ha
 have x_7 : (i18).toNatClampNeg = a_ := by rw [hp_7]; exact own_cl _ (by omega)
 have hn_7 : ¬ (i18 < 0 ∨ clV.slots.size ≤ (i18).toNatClampNeg) := by rw [x_7,SzV,hp_7]; exact fun q => q.elim (own_nn _ (by omega)) (Nat.not_le_of_lt (by omega))
 obtain ⟨T7,h7,X7,e7,W7,st7⟩ := stC X0 hx hZ e0 ArV (j:=i18) hn_7 (g:=(mkF m 412 #[s0,s1,s2,s3,s4,s5,s6,s7,s8,s9,s10,s11,s12,s13,s14,s15,s16,vr o17,vi i18] [.int 41,.int i18,.ref o17])) rfl rfl (hb hby at_412)
 have N7 := Fr.snoc X7 N0 g_o17
 have V7 := Arv.set ArV qV SV NV HV GV (fits_nar_char _) W7 (a_) x_7 (by omega)
 obtain ⟨clV7,ArV7,qV7,SV7,NV7,HV7,GV7⟩ := id V7
 have SzV7 : clV7.slots.size = n := by rw [SV7]; exact own_cl n hnB
 have K7 : Keep h0 h7 [o17] := (Keep.refl h0 [o17]).wr W7 (Or.inl (List.mem_of_getElem? (i:=0) rfl))
 rw [own_mapset,show nar .char 41 = 41 by decide] at V7
 refine ⟨T7,_,X7,N7,by rw [e7]; exact K7,by rw [e7]; exact V7,fun target kt => ?_⟩
 refine aL X0.here hx rfl (hb hby at_406) rfl rfl (iL X0.here hx rfl (hb hby at_408) rfl (bP X0.here hx rfl (hb hby at_410) (st7 _ ?_)))
 exact kt
def own_wseti (es:List Int32) (i:Nat) : List Int32 → List Int32
 | [] => es
 | c :: cs => own_wseti (es.set i c) (i + 1) cs
theorem own_wset_map : ∀ (xs es:List Int32) (i:Nat),own_wset (es.map Value.int) i xs = (own_wseti es i xs).map Value.int
 | [],_,_ => rfl
 | c :: cs,es,i => by
   show own_wset ((es.map Value.int).set i (.int c)) (i + 1) cs = (own_wseti (es.set i c) (i + 1) cs).map Value.int
   rw [own_mapset]; exact own_wset_map cs _ _
theorem own_wseti_len : ∀ (xs es:List Int32) (i:Nat),(own_wseti es i xs).length = es.length
 | [],_,_ => rfl
 | c :: cs,es,i => by
   show (own_wseti (es.set i c) (i + 1) cs).length = _
   rw [own_wseti_len cs,List.length_set]
theorem pd_0_42 : parseMethodDescriptor "([CI)I" = some ⟨[(.array .char),.int],some .int⟩ := by decide +kernel
theorem r52p (l:Launch) (Z:State) (a0:Array Value) (hw:zH Z a0) (ws:List Jvm.Cond) (a1:Addr) (p2:Int32) (kd:ClassId) (n i:Nat) (vs:List Value) (h0:Heap) (n0:Nat) (Z0:n0 ≤ h0.size) (hp2:p2 = I i) (V:Arv Z h0 a1 kd .char (I n) vs (.int 0)) (hvs:vs.length = n) (hi:i + 15 ≤ n) (hn:n < 100) (g_a1:n0 ≤ a1) :
   zM l Z h0 ws y_46 method_3_code 2 (some .int) (zr 0 0 0 0) #[.ref a1,.int p2] (Q52 Z a1 kd n i vs h0 n0) := by
 subst hp2
 exact r52 l Z a0 hw ws a1 kd n i vs h0 n0 Z0 V hvs hi hn g_a1
theorem ln5 {h0:Heap} (s0:Slot) (s1:Slot) (s2:Slot) (s3:Slot) (s4:Slot) (s5:Slot) (s6:Slot) (s7:Slot) (s8:Slot) (s9:Slot) (s10:Slot) (s11:Slot) (s12:Slot) (s13:Slot) (s14:Slot) (s15:Slot) (s16:Slot) (o17:Addr) (i18:Int32) (es:List Int32) (n a_:Nat) (ke:ClassId) (n0:Nat)
   (X0:Stand p l e room_1 s m args below meth c T0 locs cells slots) (hx:p.tables.exec = Jvm.exec) (hZ:Z.Warmed39 s.vm) (hw:zH Z a0) (hby:c.code = code) (hml:c.maxLocals = 19) (hown:s.vm.findClass "com/example/dolmetsch/dolmetsch/BriefTextOfPinLaw" = some m.cls) (e0:T0.heap = h0) (hcs:es.length = n) (hn:n < 100) (ha:i18 = I a_) (han:a_ + 15 ≤ n) (V:Arv Z h0 o17 ke .char (I n) (es.map Value.int) (.int 0)) (g_o17:n0 ≤ o17) (Z0:n0 ≤ h0.size) (N0:Fr n0 locs) (hcl:cells ≤ room_1.cells) (hsl:slots ≤ room_1.slots) :
   ∃ (T':State) (locs':List Loc),Stand p l e room_1 s m args below meth c T' locs' cells slots ∧ Fr n0 locs' ∧ Keep h0 T'.heap [o17] ∧ Arv Z T'.heap o17 ke .char (I n) ((own_wseti es a_ own_cw).map Value.int) (.int 0) ∧
     ∀ target,Steps p.tables e below (T'.setTop (mkF m 387 #[s0,s1,s2,s3,s4,s5,s6,s7,s8,s9,s10,s11,s12,s13,s14,s15,s16,vr o17,vi (I (a_ + 15))] [])) target → Steps p.tables e below (T0.setTop (mkF m 378 #[s0,s1,s2,s3,s4,s5,s6,s7,s8,s9,s10,s11,s12,s13,s14,s15,s16,vr o17,vi i18] [])) target := by
 obtain ⟨_,T7,Lc7,X7,hQ7,st7⟩ := zS X0 hx hZ hown (zW hw 263 rfl) (zW hw 264 rfl) (zW hw 2 rfl) (zW hw 265 rfl) (by decide) (r52p l Z a0 hw [] o17 i18 ke n a_ (es.map Value.int) h0 n0 Z0 ha V (by rw [List.length_map]; exact hcs) han hn g_o17) (by decide) (by decide) (W:=0) (g:=(mkF m 382 #[s0,s1,s2,s3,s4,s5,s6,s7,s8,s9,s10,s11,s12,s13,s14,s15,s16,vr o17,vi i18] [.int i18,.ref o17])) rfl (by rw [hml]; rfl) (argsL:=[.ref o17,.int i18]) (rest:=[]) (lenOf pd_0_42 rfl) rfl (Nat.le_of_eq rfl) (hb hby at_382) rfl e0 hcl hsl
 obtain ⟨rfl,N7q,K7,V7⟩ := hQ7
 rw [own_wset_map] at V7
 have N7 := Fr.app N0 N7q
 refine ⟨T7,_,X7,N7,K7,V7,fun target kt => ?_⟩
 refine aL X0.here hx rfl (hb hby at_378) rfl rfl (iL X0.here hx rfl (hb hby at_380) rfl (st7 _ (iS X7.here hx rfl (hb hby at_385) rfl (l':=#[s0,s1,s2,s3,s4,s5,s6,s7,s8,s9,s10,s11,s12,s13,s14,s15,s16,vr o17,vi (I (a_ + 15))]) rfl ?_)))
 exact kt
theorem own_eqs {R:Room} {len W:Nat} {h:Heap} (hZ:Z.Warmed39 s.vm) (hw:zH Z a0) {x y:Addr} {w w':Bool} {cs:List Int32} (TX:own_Str Z h x w cs) (TY:own_Str Z h y w' cs) (SWh:own_SW Z h) (hb:own_C cs) (hwd:own_wd cs = w) (hwd':own_wd cs = w') (hl:cs.length ≤ 200) (n0:Nat) (hfr:2 ≤ R.frames) (hlo:W + 28 ≤ R.locals) :
   Back l R p e below s args y_30 len W (fun P a => a = #[.ref x,.ref y] ∧ P.U.heap = h ∧ P.cells + 0 ≤ R.cells ∧ P.slots + 0 ≤ R.slots)
     (fun P _ v B => ∃ L,QR (some (.int 1)) h n0 v B.U.heap L ∧ B.locs = P.locs ++ L ∧ B.cells = P.cells + 0 ∧ B.slots = P.slots + 0) := by
 obtain ⟨E,C,t,kb,V,K⟩ := TX
 obtain ⟨E',C',t',kb',V',K'⟩ := TY
 obtain ⟨z,fm,S,hz,-⟩ := SWh
 refine Back.mono (StrChars.Road.eqW hZ (fun d hd => hw d ((by decide +kernel : ∀ d ∈ StrChars.Road.wordsEq,d ∈ tables_1) d hd)) (kI:=4) (zW hw 6 rfl) E V C K (own_cod hwd) hb (by omega) E' V' C' K' (own_cod hwd') hb (by omega) S hz hfr hlo) (fun P a hp => hp) (fun P a v B hp hq => ?_)
 obtain ⟨L,⟨q1,q2,q3⟩,hl,hc,hs⟩ := hq
 rcases q1 with ⟨q1,-⟩ | ⟨-,q1⟩
 · exact ⟨L,⟨q1,by rw [q2]; exact Fr.nil n0,q3⟩,hl,hc,hs⟩
 · exact absurd rfl q1
theorem pd_0_7 : parseMethodDescriptor "(Ljava/lang/Object;)Z" = some ⟨[(.object "java/lang/Object")],some .boolean⟩ := by decide +kernel
theorem lf {h0:Heap} (s0:Slot) (s1:Slot) (s2:Slot) (s3:Slot) (s4:Slot) (s5:Slot) (s6:Slot) (s7:Slot) (s8:Slot) (s9:Slot) (o10:Addr) (o11:Addr) (s12:Slot) (s13:Slot) (s14:Slot) (s15:Slot) (s16:Slot) (s17:Slot) (s18:Slot) (w:Bool) (cs:List Int32) (n0:Nat)
   (X0:Stand p l e room_1 s m args below meth c T0 locs cells slots) (hx:p.tables.exec = Jvm.exec) (hZ:Z.Warmed39 s.vm) (hw:zH Z a0) (hby:c.code = code) (hml:c.maxLocals = 19) (hown:s.vm.findClass "com/example/dolmetsch/dolmetsch/BriefTextOfPinLaw" = some m.cls) (e0:T0.heap = h0) (TX:own_Str Z h0 o10 w cs) (h11:o10 = o11) (SWh:own_SW Z h0) (hC:own_C cs) (hwd:own_wd cs = w) (hl:cs.length ≤ 200) (Z0:n0 ≤ h0.size) (N0:Fr n0 locs) (hcl:cells ≤ room_1.cells) (hsl:slots ≤ room_1.slots) :
   ∃ (T':State) (locs':List Loc),Stand p l e room_1 s m args below meth c T' locs' cells slots ∧ Fr n0 locs' ∧ T'.heap = h0 ∧
     ∀ target,Steps p.tables e below (T'.setTop (mkF m 126 #[s0,s1,s2,s3,s4,s5,s6,s7,s8,s9,vr o10,vr o11,s12,s13,s14,s15,s16,s17,s18] [.int 1])) target → Steps p.tables e below (T0.setTop (mkF m 119 #[s0,s1,s2,s3,s4,s5,s6,s7,s8,s9,vr o10,vr o11,s12,s13,s14,s15,s16,s17,s18] [])) target := by
 subst h11
 have E_o10 := TX.1
 obtain ⟨cq7,kq7,q7a,q7b,q7c⟩ := isOf hZ e0 E_o10
 obtain ⟨_,T7,Lc7,X7,hQ7,st7⟩ := zU X0 hx hZ hown (zW hw 41 rfl) (zW hw 42 rfl) (zW hw 44 rfl) (zW hw 43 rfl) (by decide) (own_eqs (W:=0) hZ hw TX TX SWh hC hwd hwd hl n0 (by decide) (by decide)) q7a q7c (g:=(mkF m 123 #[s0,s1,s2,s3,s4,s5,s6,s7,s8,s9,vr o10,vr o10,s12,s13,s14,s15,s16,s17,s18] [.ref o10,.ref o10])) rfl (by rw [hml]; rfl) (argsL:=[.ref o10]) (rest:=[]) (lenOf pd_0_7 rfl) rfl (Nat.le_of_eq rfl) (hb hby at_123) rfl e0 hcl hsl
 obtain ⟨rfl,N7q,e7⟩ := hQ7
 have N7 := Fr.app N0 N7q
 refine ⟨T7,_,X7,N7,e7,fun target kt => ?_⟩
 refine aL X0.here hx rfl (hb hby at_119) rfl rfl (aL X0.here hx rfl (hb hby at_121) rfl rfl (st7.trans ?_))
 exact kt
theorem os0_231_lm {s0:Slot} {s1:Slot} {s2:Slot} {s3:Slot} {s4:Slot} {s5:Slot} {s6:Slot} {s7:Slot} {s8:Slot} {s9:Slot} {s10:Slot} {s11:Slot} {s12:Slot} {s13:Slot} {s14:Slot} {s15:Slot} {z16:Value} {s17:Slot} {s18:Slot} {v:Addr} (h:One s17) : storeLocals #[s0,s1,s2,s3,s4,s5,s6,s7,s8,s9,s10,s11,s12,s13,s14,s15,.val z16,s17,s18] 17 (.ref v) = some #[s0,s1,s2,s3,s4,s5,s6,s7,s8,s9,s10,s11,s12,s13,s14,s15,.val z16,vr v,s18] := by
 rcases h with rfl | ⟨w,rfl,hw⟩
 · rfl
 · cases w <;> first | rfl | (simp [Value.category] at hw)
theorem lm {h0:Heap} (s0:Slot) (s1:Slot) (s2:Slot) (s3:Slot) (s4:Slot) (s5:Slot) (s6:Slot) (s7:Slot) (s8:Slot) (s9:Slot) (s10:Slot) (s11:Slot) (s12:Slot) (s13:Slot) (s14:Slot) (s15:Slot) (i16:Int32) (s17:Slot) (s18:Slot) (n:Nat) (n0:Nat)
   (X0:Stand p l e room_1 s m args below meth c T0 locs cells slots) (hx:p.tables.exec = Jvm.exec) (hZ:Z.Warmed39 s.vm) (hw:zH Z a0) (hby:c.code = code) (hml:c.maxLocals = 19) (hown:s.vm.findClass "com/example/dolmetsch/dolmetsch/BriefTextOfPinLaw" = some m.cls) (e0:T0.heap = h0) (hL4:own_L4 i16) (hLn:i16 = I n) (hn9:n < 100) (hc9:cells + 1 ≤ room_1.cells) (hs9:slots + 85 ≤ room_1.slots) (Z0:n0 ≤ h0.size) (N0:Fr n0 locs) (hcl:cells ≤ room_1.cells) (hsl:slots ≤ room_1.slots) (hs17:One s17) :
   ∃ (T':State) (locs':List Loc) (ke:ClassId),Stand p l e room_1 s m args below meth c T' locs' (cells + 1) (slots + 85) ∧ Fr n0 locs' ∧ Keep h0 T'.heap [] ∧ Arv Z T'.heap h0.size ke .char (I n) ((List.replicate n (0:Int32)).map Value.int) (.int 0) ∧
     ∀ target,Steps p.tables e below (T'.setTop (mkF m 233 #[s0,s1,s2,s3,s4,s5,s6,s7,s8,s9,s10,s11,s12,s13,s14,s15,vi i16,vr h0.size,s18] [])) target → Steps p.tables e below (T0.setTop (mkF m 226 #[s0,s1,s2,s3,s4,s5,s6,s7,s8,s9,s10,s11,s12,s13,s14,s15,vi i16,s17,s18] [])) target := by
 obtain ⟨_,T7,Lc7,X7,hQ7,st7⟩ := zS X0 hx hZ hown (zW hw 260 rfl) (zW hw 261 rfl) (zW hw 2 rfl) (zW hw 262 rfl) (by decide) (r51 l Z a0 hw [] i16 n h0 n0 Z0 hL4 hLn hn9) (by decide) (by decide) (W:=0) (g:=(mkF m 228 #[s0,s1,s2,s3,s4,s5,s6,s7,s8,s9,s10,s11,s12,s13,s14,s15,vi i16,s17,s18] [.int i16])) rfl (by rw [hml]; rfl) (argsL:=[.int i16]) (rest:=[]) (lenOf pd_0_0 rfl) rfl (Nat.le_of_eq rfl) (hb hby at_228) rfl e0 hc9 hs9
 obtain ⟨rfl,N7q,K7,ke,V7⟩ := hQ7
 have N7 := Fr.app N0 N7q
 refine ⟨T7,_,ke,X7,N7,K7,V7,fun target kt => ?_⟩
 refine iL X0.here hx rfl (hb hby at_226) rfl (st7 _ (XS.astore X7.here hx rfl (hb hby at_231) rfl rfl (l':=#[s0,s1,s2,s3,s4,s5,s6,s7,s8,s9,s10,s11,s12,s13,s14,s15,vi i16,vr h0.size,s18]) (os0_231_lm hs17) ?_))
 exact kt
theorem pd_0_4 : parseMethodDescriptor "(Ljava/lang/String;)Ljava/lang/String;" = some ⟨[(.object "java/lang/String")],some (.object "java/lang/String")⟩ := by decide +kernel
theorem os0_110_le1 {s0:Slot} {s1:Slot} {s2:Slot} {s3:Slot} {s4:Slot} {s5:Slot} {s6:Slot} {s7:Slot} {s8:Slot} {s9:Slot} {z10:Value} {s11:Slot} {s12:Slot} {s13:Slot} {s14:Slot} {s15:Slot} {s16:Slot} {s17:Slot} {s18:Slot} {v:Addr} (h:One s11) : storeLocals #[s0,s1,s2,s3,s4,s5,s6,s7,s8,s9,.val z10,s11,s12,s13,s14,s15,s16,s17,s18] 11 (.ref v) = some #[s0,s1,s2,s3,s4,s5,s6,s7,s8,s9,.val z10,vr v,s12,s13,s14,s15,s16,s17,s18] := by
 rcases h with rfl | ⟨w,rfl,hw⟩
 · rfl
 · cases w <;> first | rfl | (simp [Value.category] at hw)
theorem le1 {h0:Heap} (s0:Slot) (s1:Slot) (s2:Slot) (s3:Slot) (s4:Slot) (s5:Slot) (s6:Slot) (s7:Slot) (s8:Slot) (s9:Slot) (o10:Addr) (s11:Slot) (s12:Slot) (s13:Slot) (s14:Slot) (s15:Slot) (s16:Slot) (s17:Slot) (s18:Slot) (w:Bool) (cs:List Int32) (n0:Nat)
   (X0:Stand p l e room_1 s m args below meth c T0 locs cells slots) (hx:p.tables.exec = Jvm.exec) (hZ:Z.Warmed39 s.vm) (hw:zH Z a0) (hby:c.code = code) (hml:c.maxLocals = 19) (hown:s.vm.findClass "com/example/dolmetsch/dolmetsch/BriefTextOfPinLaw" = some m.cls) (e0:T0.heap = h0) (TX:own_Str Z h0 o10 w cs) (SWh:own_SW Z h0) (hC:own_C cs) (hwd:own_wd cs = w) (hl6:cs.length ≤ 64) (Z0:n0 ≤ h0.size) (N0:Fr n0 locs) (hcl:cells ≤ room_1.cells) (hsl:slots ≤ room_1.slots) (hs11:One s11) :
   ∃ (T':State) (locs':List Loc),Stand p l e room_1 s m args below meth c T' locs' cells slots ∧ Fr n0 locs' ∧ T'.heap = h0 ∧
     ∀ target,Steps p.tables e below (T'.setTop (mkF m 112 #[s0,s1,s2,s3,s4,s5,s6,s7,s8,s9,vr o10,vr o10,s12,s13,s14,s15,s16,s17,s18] [])) target → Steps p.tables e below (T0.setTop (mkF m 105 #[s0,s1,s2,s3,s4,s5,s6,s7,s8,s9,vr o10,s11,s12,s13,s14,s15,s16,s17,s18] [])) target := by
 obtain ⟨_,T7,Lc7,X7,hQ7,st7⟩ := zS X0 hx hZ hown (zW hw 26 rfl) (zW hw 27 rfl) (zW hw 28 rfl) (zW hw 29 rfl) (by decide) (r5a l Z a0 hw [] o10 w cs h0 n0 Z0 TX hwd hC hl6 SWh) (by decide) (by decide) (W:=0) (g:=(mkF m 107 #[s0,s1,s2,s3,s4,s5,s6,s7,s8,s9,vr o10,s11,s12,s13,s14,s15,s16,s17,s18] [.ref o10])) rfl (by rw [hml]; rfl) (argsL:=[.ref o10]) (rest:=[]) (lenOf pd_0_4 rfl) rfl (Nat.le_of_eq rfl) (hb hby at_107) rfl e0 hcl hsl
 obtain ⟨rfl,N7q,e7⟩ := hQ7
 have N7 := Fr.app N0 N7q
 refine ⟨T7,_,X7,N7,e7,fun target kt => ?_⟩
 refine aL X0.here hx rfl (hb hby at_105) rfl rfl (st7 _ (XS.astore X7.here hx rfl (hb hby at_110) rfl rfl (l':=#[s0,s1,s2,s3,s4,s5,s6,s7,s8,s9,vr o10,vr o10,s12,s13,s14,s15,s16,s17,s18]) (os0_110_le1 hs11) ?_))
 exact kt
theorem os0_110_le2 {s0:Slot} {s1:Slot} {s2:Slot} {s3:Slot} {s4:Slot} {s5:Slot} {s6:Slot} {s7:Slot} {s8:Slot} {s9:Slot} {z10:Value} {s11:Slot} {s12:Slot} {s13:Slot} {s14:Slot} {s15:Slot} {s16:Slot} {s17:Slot} {s18:Slot} {v:Addr} (h:One s11) : storeLocals #[s0,s1,s2,s3,s4,s5,s6,s7,s8,s9,.val z10,s11,s12,s13,s14,s15,s16,s17,s18] 11 (.ref v) = some #[s0,s1,s2,s3,s4,s5,s6,s7,s8,s9,.val z10,vr v,s12,s13,s14,s15,s16,s17,s18] := by
 rcases h with rfl | ⟨w,rfl,hw⟩
 · rfl
 · cases w <;> first | rfl | (simp [Value.category] at hw)
theorem le2 {h0:Heap} (s0:Slot) (s1:Slot) (s2:Slot) (s3:Slot) (s4:Slot) (s5:Slot) (s6:Slot) (s7:Slot) (s8:Slot) (s9:Slot) (o10:Addr) (s11:Slot) (s12:Slot) (s13:Slot) (s14:Slot) (s15:Slot) (s16:Slot) (s17:Slot) (s18:Slot) (w:Bool) (cs:List Int32) (n0:Nat)
   (X0:Stand p l e room_1 s m args below meth c T0 locs cells slots) (hx:p.tables.exec = Jvm.exec) (hZ:Z.Warmed39 s.vm) (hw:zH Z a0) (hby:c.code = code) (hml:c.maxLocals = 19) (hown:s.vm.findClass "com/example/dolmetsch/dolmetsch/BriefTextOfPinLaw" = some m.cls) (e0:T0.heap = h0) (hwS:∀ d ∈ Bundle.stringAtoms,d.before a0 Z = true) (TX:own_Str Z h0 o10 w cs) (O:Old Z n0 h0) (SWz:own_SW Z Z.heap) (DT:own_DT Z) (IF:own_IF Z) (hC:own_C cs) (hwd:own_wd cs = w) (hl:cs.length ≤ 200) (hl6:64 < cs.length) (hcnt:own_cnt ((I cs.length) - I (own_E cs))) (hCH:CHv Z own_EL s.vm h0) (hc9:cells + 11 ≤ room_1.cells) (hs9:slots + 904 ≤ room_1.slots) (Z0:n0 ≤ h0.size) (N0:Fr n0 locs) (hcl:cells ≤ room_1.cells) (hsl:slots ≤ room_1.slots) (hs11:One s11) :
   ∃ (T':State) (locs':List Loc) (b8:Addr),Stand p l e room_1 (s.setVm T'.vm) m args below meth c T' locs' (cells + 11) (slots + 904) ∧ s.Since T'.vm T'.heap.size ∧ Z.Warmed39 (s.setVm T'.vm).vm ∧ (s.setVm T'.vm).vm.findClass "com/example/dolmetsch/dolmetsch/BriefTextOfPinLaw" = some m.cls ∧ Fr n0 locs' ∧ Keep h0 T'.heap [] ∧ own_Str Z T'.heap b8 (own_wd (cs.take (own_E cs))) (cs.take (own_E cs) ++ own_suf ((I cs.length) - I (own_E cs))) ∧
     ∀ target,Steps p.tables e below (T'.setTop (mkF m 112 #[s0,s1,s2,s3,s4,s5,s6,s7,s8,s9,vr o10,vr b8,s12,s13,s14,s15,s16,s17,s18] [])) target → Steps p.tables e below (T0.setTop (mkF m 105 #[s0,s1,s2,s3,s4,s5,s6,s7,s8,s9,vr o10,s11,s12,s13,s14,s15,s16,s17,s18] [])) target := by
 have hEL := own_EW hw
 obtain ⟨_,_,⟨T7,L7,k7,n7⟩,-,X7,S7',hz7,⟨Lc7,hQ7,l7,y7,z7,C7⟩,st7⟩ := callSS (s:=s) X0 hx (y:=y_41) hown (zT hZ hw 26 rfl) (zT hZ hw 27 rfl) (zT hZ hw 28 rfl) (zT hZ hw 29 rfl) (by decide) (backOfSH (s:=s) (vm0 := s.vm) (W:=0) (r5b l Z a0 hw hwS [] o10 w cs h0 n0 Z0 TX hwd hC hl hl6 O SWz DT IF hcnt) hZ (zW hw 29 rfl) (zW hw 28 rfl) (by decide) (by decide) hEL hCH) (g:=(mkF m 107 #[s0,s1,s2,s3,s4,s5,s6,s7,s8,s9,vr o10,s11,s12,s13,s14,s15,s16,s17,s18] [.ref o10])) rfl (by rw [hml]; rfl) (argsL:=[.ref o10]) (rest:=[]) (lenOf pd_0_4 rfl) rfl (Nat.le_of_eq rfl) (hb hby at_107) (fun _ _ => ⟨rfl,e0,hc9,hs9⟩)
 dsimp only [Pt.U,Pt.locs,Pt.cells,Pt.slots] at X7 S7' hz7 C7 l7 y7 z7 st7 hQ7
 subst l7 y7 z7
 obtain ⟨b8,rfl,N7q,K7,S7_⟩ := hQ7
 have N7 := Fr.app N0 N7q
 have hZ7 : Z.Warmed39 (s.setVm T7.vm).vm := State.Warmed39.trans hZ S7'.1
 have hown7 : (s.setVm T7.vm).vm.findClass "com/example/dolmetsch/dolmetsch/BriefTextOfPinLaw" = some m.cls := by show (T7.vm).findClass _ = _; rw [S7'.1.alike.findClass]; exact hown
 refine ⟨T7,_,b8,X7,S7',hZ7,hown7,N7,K7,S7_,fun target kt => ?_⟩
 refine aL X0.here hx rfl (hb hby at_105) rfl rfl (st7.trans (XS.astore X7.here hx rfl (hb hby at_110) rfl rfl (l':=#[s0,s1,s2,s3,s4,s5,s6,s7,s8,s9,vr o10,vr b8,s12,s13,s14,s15,s16,s17,s18]) (os0_110_le2 hs11) ?_))
 exact kt
theorem lpl {h0:Heap} (s0:Slot) (s1:Slot) (s2:Slot) (s3:Slot) (s4:Slot) (s5:Slot) (s6:Slot) (s7:Slot) (s8:Slot) (s9:Slot) (s10:Slot) (o11:Addr) (s12:Slot) (s13:Slot) (s14:Slot) (s15:Slot) (s16:Slot) (o17:Addr) (s18:Slot) (cs:List Int32) (n:Nat) (kc:ClassId) (n0:Nat)
   (X0:Stand p l e room_1 s m args below meth c T0 locs cells slots) (hx:p.tables.exec = Jvm.exec) (hZ:Z.Warmed39 s.vm) (hw:zH Z a0) (hby:c.code = code) (hml:c.maxLocals = 19) (hown:s.vm.findClass "com/example/dolmetsch/dolmetsch/BriefTextOfPinLaw" = some m.cls) (e0:T0.heap = h0) (hcs:cs.length = n) (hn:n ≤ 200) (hbb:own_C cs) (C:Arv Z h0 o17 kc .char (I n) (cs.map Value.int) (.int 0)) (O:Old Z n0 h0) (SWz:own_SW Z Z.heap) (w_:Bool) (TY:own_Str Z h0 o11 w_ cs) (hwy:own_wd cs = w_) (hn1:0 < n) (hwd:own_wd cs = false) (hc9:cells + 3 ≤ room_1.cells) (hs9:slots + 604 ≤ room_1.slots) (Z0:n0 ≤ h0.size) (N0:Fr n0 locs) (hcl:cells ≤ room_1.cells) (hsl:slots ≤ room_1.slots) :
   ∃ (T':State) (locs':List Loc) (kk nn:Nat),Stand p l e room_1 s m args below meth c T' locs' kk nn ∧ kk ≤ cells + 3 ∧ nn ≤ slots + 604 ∧ Fr n0 locs' ∧ h0.size ≤ T'.heap.size ∧
     ∀ target,Steps p.tables e below (T'.setTop (mkF m 427 #[s0,s1,s2,s3,s4,s5,s6,s7,s8,s9,s10,vr o11,s12,s13,s14,s15,s16,vr o17,s18] [.int 1])) target → Steps p.tables e below (T0.setTop (mkF m 413 #[s0,s1,s2,s3,s4,s5,s6,s7,s8,s9,s10,vr o11,s12,s13,s14,s15,s16,vr o17,s18] [])) target := by
 obtain ⟨zc,fm,S1,hz,S2,rf,S3,S4,S5⟩ := id SWz
 obtain ⟨T7,h7,X7,e7,E7,A7,D7,-,st7⟩ := newO X0 hx hZ hown (zW hw 5 rfl) (zW hw 6 rfl) (zW hw 7 rfl) e0 (g:=(mkF m 413 #[s0,s1,s2,s3,s4,s5,s6,s7,s8,s9,s10,vr o11,s12,s13,s14,s15,s16,vr o17,s18] [])) rfl (hb hby at_413) (by omega) (by omega)
 obtain ⟨b7,g7⟩ : ∃ z,z = h0.size := ⟨_,rfl⟩
 rw [← g7] at A7 D7 st7
 have F_value_b7 : Fld Z h7 b7 "java/lang/String" "value" "[B" .null := D7 (Or.inr (zW hw 20 rfl)) (ty:=(.array .byte)) (by decide)
 have F_coder_b7 : Fld Z h7 b7 "java/lang/String" "coder" "B" (.int 0) := D7 (Or.inr (zW hw 21 rfl)) (ty:=.byte) (by decide)
 have E_b7 := A7
 have g_b7 : n0 ≤ b7 := Nat.le_trans Z0 (Nat.le_of_eq g7.symm)
 have sz_b7 : h0.size ≤ b7 := (Nat.le_trans (Keep.refl h0 []).1 (Nat.le_of_eq g7.symm))
 have K7 : Keep h0 h7 [] := (Keep.refl h0 []).ext E7
 obtain ⟨_,_,⟨T8,L8,k8,n8⟩,-,X8,⟨Lc8,hQ8,l8,y8,z8⟩,st8⟩ := X7.specialBack hx (y:=y_13) rfl hown (zT hZ hw 8 rfl) (zT hZ hw 9 rfl) (zT hZ hw 10 rfl) (by decide) (StrChars.Road.backV (W:=1) (n0 := n0) hZ (fun d hd => hw d ((by decide +kernel : ∀ d ∈ StrChars.Road.words,d ∈ tables_1) d hd)) (kI:=4) (zW hw 6 rfl) (cs:=cs) (n:=n) g_b7 (Nat.le_trans Z0 E7.1) E_b7 F_value_b7 F_coder_b7 (C.ext E7) (S1.ext (O.ext E7).2) hz hcs rfl hn1 (by omega) (own_lat hwd hbb) rfl (by decide) (by decide)) (g:=(mkF m 419 #[s0,s1,s2,s3,s4,s5,s6,s7,s8,s9,s10,vr o11,s12,s13,s14,s15,s16,vr o17,s18] [.ref o17,.ref b7,.ref b7])) rfl (by rw [hml]; rfl) (Steps.refl _) (a:=b7) (argsL:=[.ref o17]) (rest:=[.ref b7]) (lenOf pd_0_1 rfl) rfl (Nat.le_of_eq rfl) (hb hby at_419) (fun _ _ => ⟨rfl,e7,(by show cells + 1 + 1 ≤ _; omega),(by show slots + 4 + n ≤ _; omega)⟩)
 dsimp only [Pt.U,Pt.locs,Pt.cells,Pt.slots] at X8 l8 y8 z8 st8 hQ8
 subst l8 y8 z8
 obtain ⟨rfl,N8q,K8,E8,Fc8,tt,kb,ht0,ht,hne,Fv8,V8⟩ := hQ8
 have KK : Keep h0 T8.heap [] := K7.trans K8 (allS (Or.inr sz_b7) all0)
 have TX8 : own_Str Z T8.heap b7 false cs := ⟨E8,Fc8,tt,kb,Fv8,by rw [hcs]; show Arv Z T8.heap tt kb .byte (I (1 * n)) (own_by cs) (.int 0); rw [Nat.one_mul]; exact V8⟩
 have TY8 := TY.keep0 KK
 have O8 := O.keep KK all0
 have N8 := Fr.app N0 N8q
 obtain ⟨cq9,kq9,q9a,q9b,q9c⟩ := isOf hZ rfl TX8.1
 obtain ⟨_,T9,Lc9,X9,hQ9,st9⟩ := zU X8 hx hZ hown (zW hw 41 rfl) (zW hw 42 rfl) (zW hw 44 rfl) (zW hw 43 rfl) (by decide) (own_eqs (W:=0) hZ hw TX8 TY8 (SWz.ext O8.2) hbb hwd hwy (by omega) n0 (by decide) (by decide)) q9a q9c (g:=(mkF m 424 #[s0,s1,s2,s3,s4,s5,s6,s7,s8,s9,s10,vr o11,s12,s13,s14,s15,s16,vr o17,s18] [.ref o11,.ref b7])) rfl (by rw [hml]; rfl) (argsL:=[.ref o11]) (rest:=[]) (lenOf pd_0_7 rfl) rfl (Nat.le_of_eq rfl) (hb hby at_424) rfl rfl (by show cells + 1 + 1 + 0 ≤ _; omega) (by show slots + 4 + n + 0 ≤ _; omega)
 obtain ⟨rfl,N9q,e9⟩ := hQ9
 have N9 := Fr.app N8 N9q
 refine ⟨T9,_,_,_,X9,by show cells + 1 + 1 + 0 ≤ _; omega,by show slots + 4 + n + 0 ≤ _; omega,N9,by rw [e9]; exact KK.1,fun target kt => ?_⟩
 refine st7 _ (XS.dup X7.here hx rfl (hb hby at_416) rfl rfl (aL X7.here hx rfl (hb hby at_417) rfl rfl (st8.trans ?_)))
 refine aL X8.here hx rfl (hb hby at_422) rfl rfl (st9.trans ?_)
 exact kt
theorem lpw {h0:Heap} (s0:Slot) (s1:Slot) (s2:Slot) (s3:Slot) (s4:Slot) (s5:Slot) (s6:Slot) (s7:Slot) (s8:Slot) (s9:Slot) (s10:Slot) (o11:Addr) (s12:Slot) (s13:Slot) (s14:Slot) (s15:Slot) (s16:Slot) (o17:Addr) (s18:Slot) (cs:List Int32) (n:Nat) (kc:ClassId) (n0:Nat)
   (X0:Stand p l e room_1 s m args below meth c T0 locs cells slots) (hx:p.tables.exec = Jvm.exec) (hZ:Z.Warmed39 s.vm) (hw:zH Z a0) (hby:c.code = code) (hml:c.maxLocals = 19) (hown:s.vm.findClass "com/example/dolmetsch/dolmetsch/BriefTextOfPinLaw" = some m.cls) (e0:T0.heap = h0) (hcs:cs.length = n) (hn:n ≤ 200) (hbb:own_C cs) (C:Arv Z h0 o17 kc .char (I n) (cs.map Value.int) (.int 0)) (O:Old Z n0 h0) (SWz:own_SW Z Z.heap) (w_:Bool) (TY:own_Str Z h0 o11 w_ cs) (hwy:own_wd cs = w_) (k:Nat) (hk:k < n) (hlo:∀ j,j < k → ¬ (255:Int32) < cs.getD j 0) (hhi:(255:Int32) < cs.getD k 0) (hwd:own_wd cs = true) (hc9:cells + 3 ≤ room_1.cells) (hs9:slots + 604 ≤ room_1.slots) (Z0:n0 ≤ h0.size) (N0:Fr n0 locs) (hcl:cells ≤ room_1.cells) (hsl:slots ≤ room_1.slots) :
   ∃ (T':State) (locs':List Loc) (kk nn:Nat),Stand p l e room_1 s m args below meth c T' locs' kk nn ∧ kk ≤ cells + 3 ∧ nn ≤ slots + 604 ∧ Fr n0 locs' ∧ h0.size ≤ T'.heap.size ∧
     ∀ target,Steps p.tables e below (T'.setTop (mkF m 427 #[s0,s1,s2,s3,s4,s5,s6,s7,s8,s9,s10,vr o11,s12,s13,s14,s15,s16,vr o17,s18] [.int 1])) target → Steps p.tables e below (T0.setTop (mkF m 413 #[s0,s1,s2,s3,s4,s5,s6,s7,s8,s9,s10,vr o11,s12,s13,s14,s15,s16,vr o17,s18] [])) target := by
 obtain ⟨zc,fm,S1,hz,S2,rf,S3,S4,S5⟩ := id SWz
 obtain ⟨T7,h7,X7,e7,E7,A7,D7,-,st7⟩ := newO X0 hx hZ hown (zW hw 5 rfl) (zW hw 6 rfl) (zW hw 7 rfl) e0 (g:=(mkF m 413 #[s0,s1,s2,s3,s4,s5,s6,s7,s8,s9,s10,vr o11,s12,s13,s14,s15,s16,vr o17,s18] [])) rfl (hb hby at_413) (by omega) (by omega)
 obtain ⟨b7,g7⟩ : ∃ z,z = h0.size := ⟨_,rfl⟩
 rw [← g7] at A7 D7 st7
 have F_value_b7 : Fld Z h7 b7 "java/lang/String" "value" "[B" .null := D7 (Or.inr (zW hw 20 rfl)) (ty:=(.array .byte)) (by decide)
 have F_coder_b7 : Fld Z h7 b7 "java/lang/String" "coder" "B" (.int 0) := D7 (Or.inr (zW hw 21 rfl)) (ty:=.byte) (by decide)
 have E_b7 := A7
 have g_b7 : n0 ≤ b7 := Nat.le_trans Z0 (Nat.le_of_eq g7.symm)
 have sz_b7 : h0.size ≤ b7 := (Nat.le_trans (Keep.refl h0 []).1 (Nat.le_of_eq g7.symm))
 have K7 : Keep h0 h7 [] := (Keep.refl h0 []).ext E7
 obtain ⟨_,_,⟨T8,L8,k8,n8⟩,-,X8,⟨Lc8,hQ8,l8,y8,z8⟩,st8⟩ := X7.specialBack hx (y:=y_13) rfl hown (zT hZ hw 8 rfl) (zT hZ hw 9 rfl) (zT hZ hw 10 rfl) (by decide) (backOf (W:=1) (r2 l Z a0 hw [] b7 o17 cs n k kc zc _ _ h7 n0 (Nat.le_trans Z0 E7.1) (S1.ext (O.ext E7).2) E_b7 F_coder_b7 g_b7 F_value_b7 hz hcs hk hn hlo hhi hbb (C.ext E7) (O.ext E7) S3 S4 S5) hZ (zW hw 10 rfl) (zW hw 7 rfl) (by decide) (by decide)) (g:=(mkF m 419 #[s0,s1,s2,s3,s4,s5,s6,s7,s8,s9,s10,vr o11,s12,s13,s14,s15,s16,vr o17,s18] [.ref o17,.ref b7,.ref b7])) rfl (by rw [hml]; rfl) (Steps.refl _) (a:=b7) (argsL:=[.ref o17]) (rest:=[.ref b7]) (lenOf pd_0_1 rfl) rfl (Nat.le_of_eq rfl) (hb hby at_419) (fun _ _ => ⟨rfl,e7,(by show cells + 1 + 2 ≤ _; omega),(by show slots + 4 + 600 ≤ _; omega)⟩)
 dsimp only [Pt.U,Pt.locs,Pt.cells,Pt.slots] at X8 l8 y8 z8 st8 hQ8
 subst l8 y8 z8
 obtain ⟨rfl,N8q,K8,St8⟩ := hQ8
 have KK : Keep h0 T8.heap [] := K7.trans K8 (allS (Or.inr sz_b7) all0)
 have TX8 : own_Str Z T8.heap b7 true cs := St8
 have TY8 := TY.keep0 KK
 have O8 := O.keep KK all0
 have N8 := Fr.app N0 N8q
 obtain ⟨cq9,kq9,q9a,q9b,q9c⟩ := isOf hZ rfl TX8.1
 obtain ⟨_,T9,Lc9,X9,hQ9,st9⟩ := zU X8 hx hZ hown (zW hw 41 rfl) (zW hw 42 rfl) (zW hw 44 rfl) (zW hw 43 rfl) (by decide) (own_eqs (W:=0) hZ hw TX8 TY8 (SWz.ext O8.2) hbb hwd hwy (by omega) n0 (by decide) (by decide)) q9a q9c (g:=(mkF m 424 #[s0,s1,s2,s3,s4,s5,s6,s7,s8,s9,s10,vr o11,s12,s13,s14,s15,s16,vr o17,s18] [.ref o11,.ref b7])) rfl (by rw [hml]; rfl) (argsL:=[.ref o11]) (rest:=[]) (lenOf pd_0_7 rfl) rfl (Nat.le_of_eq rfl) (hb hby at_424) rfl rfl (by show cells + 1 + 2 + 0 ≤ _; omega) (by show slots + 4 + 600 + 0 ≤ _; omega)
 obtain ⟨rfl,N9q,e9⟩ := hQ9
 have N9 := Fr.app N8 N9q
 refine ⟨T9,_,_,_,X9,by show cells + 1 + 2 + 0 ≤ _; omega,by show slots + 4 + 600 + 0 ≤ _; omega,N9,by rw [e9]; exact KK.1,fun target kt => ?_⟩
 refine st7 _ (XS.dup X7.here hx rfl (hb hby at_416) rfl rfl (aL X7.here hx rfl (hb hby at_417) rfl rfl (st8.trans ?_)))
 refine aL X8.here hx rfl (hb hby at_422) rfl rfl (st9.trans ?_)
 exact kt
theorem os0_103_lde {s0:Slot} {s1:Slot} {s2:Slot} {s3:Slot} {s4:Slot} {s5:Slot} {z6:Value} {s7:Slot} {s8:Slot} {s9:Slot} {s10:Slot} {s11:Slot} {s12:Slot} {s13:Slot} {s14:Slot} {s15:Slot} {s16:Slot} {s17:Slot} {s18:Slot} {v:Addr} (h:One s10) : storeLocals #[s0,s1,s2,s3,s4,s5,.val z6,s7,s8,s9,s10,s11,s12,s13,s14,s15,s16,s17,s18] 10 (.ref v) = some #[s0,s1,s2,s3,s4,s5,.val z6,s7,s8,s9,vr v,s11,s12,s13,s14,s15,s16,s17,s18] := by
 rcases h with rfl | ⟨w,rfl,hw⟩
 · rfl
 · cases w <;> first | rfl | (simp [Value.category] at hw)
theorem lde {h0:Heap} (s0:Slot) (s1:Slot) (s2:Slot) (s3:Slot) (s4:Slot) (s5:Slot) (o6:Addr) (s7:Slot) (s8:Slot) (s9:Slot) (s10:Slot) (s11:Slot) (s12:Slot) (s13:Slot) (s14:Slot) (s15:Slot) (s16:Slot) (s17:Slot) (s18:Slot) (kc:ClassId) (n0:Nat)
   (X0:Stand p l e room_1 s m args below meth c T0 locs cells slots) (hx:p.tables.exec = Jvm.exec) (hZ:Z.Warmed39 s.vm) (hw:zH Z a0) (hby:c.code = code) (hml:c.maxLocals = 19) (hown:s.vm.findClass "com/example/dolmetsch/dolmetsch/BriefTextOfPinLaw" = some m.cls) (e0:T0.heap = h0) (hwS:∀ d ∈ Bundle.stringAtoms,d.before a0 Z = true) (C:Arv Z h0 o6 kc .char (I 0) (([] : List Int32).map Value.int) (.int 0)) (O:Old Z n0 h0) (hCH:CHv Z own_EL s.vm h0) (hc9:cells + 3 ≤ room_1.cells) (hs9:slots + 8 ≤ room_1.slots) (Z0:n0 ≤ h0.size) (N0:Fr n0 locs) (hcl:cells ≤ room_1.cells) (hsl:slots ≤ room_1.slots) (hs10:One s10) :
   ∃ (T':State) (locs':List Loc) (b7:Addr),Stand p l e room_1 (s.setVm T'.vm) m args below meth c T' locs' (cells + 1 + 2) (slots + 4 + 4) ∧ s.Since T'.vm T'.heap.size ∧ Z.Warmed39 (s.setVm T'.vm).vm ∧ (s.setVm T'.vm).vm.findClass "com/example/dolmetsch/dolmetsch/BriefTextOfPinLaw" = some m.cls ∧ Fr n0 locs' ∧ Keep h0 T'.heap [] ∧ own_Str Z T'.heap b7 false [] ∧
     ∀ target,Steps p.tables e below (T'.setTop (mkF m 105 #[s0,s1,s2,s3,s4,s5,vr o6,s7,s8,s9,vr b7,s11,s12,s13,s14,s15,s16,s17,s18] [])) target → Steps p.tables e below (T0.setTop (mkF m 94 #[s0,s1,s2,s3,s4,s5,vr o6,s7,s8,s9,s10,s11,s12,s13,s14,s15,s16,s17,s18] [])) target := by
 have hEL := own_EW hw
 obtain ⟨cl0,Ar0,q0,S0,M0,H0,G0⟩ := id C
 obtain ⟨T7,h7,X7,e7,E7,A7,D7,-,st7⟩ := newO X0 hx hZ hown (zW hw 5 rfl) (zW hw 6 rfl) (zW hw 7 rfl) e0 (g:=(mkF m 94 #[s0,s1,s2,s3,s4,s5,vr o6,s7,s8,s9,s10,s11,s12,s13,s14,s15,s16,s17,s18] [])) rfl (hb hby at_94) (by omega) (by omega)
 obtain ⟨b7,g7⟩ : ∃ z,z = h0.size := ⟨_,rfl⟩
 rw [← g7] at A7 D7 st7
 have F_value_b7 : Fld Z h7 b7 "java/lang/String" "value" "[B" .null := D7 (Or.inr (zW hw 20 rfl)) (ty:=(.array .byte)) (by decide)
 have F_coder_b7 : Fld Z h7 b7 "java/lang/String" "coder" "B" (.int 0) := D7 (Or.inr (zW hw 21 rfl)) (ty:=.byte) (by decide)
 have E_b7 := A7
 have g_b7 : n0 ≤ b7 := Nat.le_trans Z0 (Nat.le_of_eq g7.symm)
 have sz_b7 : h0.size ≤ b7 := (Nat.le_trans (Keep.refl h0 []).1 (Nat.le_of_eq g7.symm))
 have K7 : Keep h0 h7 [] := (Keep.refl h0 []).ext E7
 obtain ⟨_,_,⟨T8,L8,k8,n8⟩,-,X8,S8',hz8,⟨Lc8,hQ8,l8,y8,z8,C8⟩,st8⟩ := X7.specialBackS (s:=s) hx (y:=y_13) rfl hown (zT hZ hw 8 rfl) (zT hZ hw 9 rfl) (zT hZ hw 10 rfl) (by decide) (backOfSH (s:=s) (vm0 := s.vm) (W:=1) (r2e l Z a0 hw hwS hEL [] b7 o6 cl0 h7 n0 (Nat.le_trans Z0 E7.1) (Ar0.ext E7) S0 E_b7 F_value_b7 F_coder_b7 g_b7) hZ (zW hw 10 rfl) (zW hw 7 rfl) (by decide) (by decide) hEL (hCH.ext E7)) (g:=(mkF m 100 #[s0,s1,s2,s3,s4,s5,vr o6,s7,s8,s9,s10,s11,s12,s13,s14,s15,s16,s17,s18] [.ref o6,.ref b7,.ref b7])) rfl (by rw [hml]; rfl) (Steps.refl _) (a:=b7) (argsL:=[.ref o6]) (rest:=[.ref b7]) (lenOf pd_0_1 rfl) rfl (Nat.le_of_eq rfl) (hb hby at_100) (fun _ _ => ⟨rfl,e7,hc9,hs9⟩)
 dsimp only [Pt.U,Pt.locs,Pt.cells,Pt.slots] at X8 S8' hz8 C8 l8 y8 z8 st8 hQ8
 subst l8 y8 z8
 obtain ⟨rfl,N8q,K8,E8,Fc8,bb8,kb8,Fv8,V8⟩ := hQ8
 have hZ8 : Z.Warmed39 (s.setVm T8.vm).vm := State.Warmed39.trans hZ S8'.1
 have hown8 : (s.setVm T8.vm).vm.findClass "com/example/dolmetsch/dolmetsch/BriefTextOfPinLaw" = some m.cls := by show (T8.vm).findClass _ = _; rw [S8'.1.alike.findClass]; exact hown
 have N8 := Fr.app N0 N8q
 refine ⟨T8,_,b7,X8,S8',hZ8,hown8,N8,K7.trans K8 (allS (Or.inr sz_b7) all0),⟨E8,Fc8,bb8,kb8,Fv8,V8⟩,fun target kt => ?_⟩
 refine st7 _ (XS.dup X7.here hx rfl (hb hby at_97) rfl rfl (aL X7.here hx rfl (hb hby at_98) rfl rfl (st8.trans ?_)))
 refine XS.astore X8.here hx rfl (hb hby at_103) rfl rfl (l':=#[s0,s1,s2,s3,s4,s5,vr o6,s7,s8,s9,vr b7,s11,s12,s13,s14,s15,s16,s17,s18]) (os0_103_lde hs10) ?_
 exact kt
theorem lf0 {h0:Heap} (s0:Slot) (s1:Slot) (s2:Slot) (s3:Slot) (s4:Slot) (s5:Slot) (s6:Slot) (i7:Int32) (s8:Slot) (s9:Slot) (s10:Slot) (s11:Slot) (s12:Slot) (s13:Slot) (s14:Slot) (s15:Slot) (s16:Slot) (s17:Slot) (s18:Slot)
   (X0:Stand p l e room_1 s m args below meth c T0 locs cells slots) (hx:p.tables.exec = Jvm.exec) (hZ:Z.Warmed39 s.vm) (hw:zH Z a0) (hby:c.code = code) (hml:c.maxLocals = 19) (hown:s.vm.findClass "com/example/dolmetsch/dolmetsch/BriefTextOfPinLaw" = some m.cls) (e0:T0.heap = h0) (hc116:¬ ((64:Int32) < i7)) :
   ∃ (T':State),Stand p l e room_1 s m args below meth c T' locs cells slots ∧ T'.heap = h0 ∧
     ∀ target,Steps p.tables e below (T'.setTop (mkF m 119 #[s0,s1,s2,s3,s4,s5,s6,vi i7,s8,s9,s10,s11,s12,s13,s14,s15,s16,s17,s18] [])) target → Steps p.tables e below (T0.setTop (mkF m 112 #[s0,s1,s2,s3,s4,s5,s6,vi i7,s8,s9,s10,s11,s12,s13,s14,s15,s16,s17,s18] [])) target := by
 refine ⟨T0,X0,e0,fun target kt => ?_⟩
 refine iL X0.here hx rfl (hb hby at_112) rfl (bP X0.here hx rfl (hb hby at_114) (cN X0.here hx rfl (hb hby at_116) rfl (flt hc116).2.2.1 ?_))
 exact kt
theorem own_sa (A R:List Int32) (E j:Nat) (v:Int32) (hA:A.length = E) : (A ++ R).set (E + j) v = A ++ R.set j v := by
 subst hA
 rw [List.set_append_right _ _ (Nat.le_add_right _ _),Nat.add_sub_cancel_left]
theorem own_wsa (A:List Int32) (E:Nat) (hA:A.length = E) : ∀ (xs R:List Int32) (j:Nat),own_wseti (A ++ R) (E + j) xs = A ++ own_wseti R j xs
 | [],_,_ => rfl
 | c :: cs,R,j => by
   show own_wseti ((A ++ R).set (E + j) c) (E + j + 1) cs = A ++ own_wseti (R.set j c) (j + 1) cs
   rw [own_sa A R E j c hA,Nat.add_assoc]
   exact own_wsa A E hA cs _ _
def own_f2 (R:List Int32) (L:Nat) : List Int32 := if 100 ≤ L then (R.set 0 40).set 1 (own_c ((48:Int32) + (I L / 100))) else R.set 0 40
def own_j2 (L:Nat) : Nat := if 100 ≤ L then 2 else 1
def own_f3 (R:List Int32) (L:Nat) : List Int32 := if 10 ≤ L then (own_f2 R L).set (own_j2 L) (own_c ((48:Int32) + (HMod.hMod (I L / 10) (10:Int32)))) else own_f2 R L
def own_j3 (L:Nat) : Nat := if 10 ≤ L then own_j2 L + 1 else own_j2 L
def own_f5 (R:List Int32) (L:Nat) : List Int32 := own_wseti ((own_f3 R L).set (own_j3 L) (own_c ((48:Int32) + (HMod.hMod (I L) (10:Int32))))) (own_j3 L + 1) own_cw
def own_f6 (R:List Int32) (L:Nat) : List Int32 := if L = 1 then own_f5 R L else (own_f5 R L).set (own_j3 L + 1 + 15) 115
def own_j6 (L:Nat) : Nat := if L = 1 then own_j3 L + 1 + 15 else own_j3 L + 1 + 15 + 1
def own_f7 (R:List Int32) (L:Nat) : List Int32 := (own_f6 R L).set (own_j6 L) 41
def own_N (E L:Nat) : Nat := E + own_j6 L + 1
def own_cm (n E:Nat) : Prop := (n = 65 ∧ E = 64) ∨ (n = 65 ∧ E = 63) ∨ (n = 66 ∧ E = 64) ∨ (n = 66 ∧ E = 63) ∨ (n = 75 ∧ E = 64) ∨ (n = 75 ∧ E = 63) ∨ (n = 164 ∧ E = 64) ∨ (n = 164 ∧ E = 63)
theorem own_fill (n E:Nat) (h:own_cm n E) : own_f7 (List.replicate (own_N E (n - E) - E) 0) (n - E) = own_suf (I n - I E) := by
 rcases h with ⟨rfl,rfl⟩ | ⟨rfl,rfl⟩ | ⟨rfl,rfl⟩ | ⟨rfl,rfl⟩ | ⟨rfl,rfl⟩ | ⟨rfl,rfl⟩ | ⟨rfl,rfl⟩ | ⟨rfl,rfl⟩ <;> decide +kernel
theorem own_cmf (n E:Nat) (h:own_cm n E) : own_cnt (I n - I E) ∧ own_L4 (I (own_N E (n - E))) ∧ own_N E (n - E) < 100 ∧ own_j3 (n - E) + 17 ≤ own_N E (n - E) - E ∧ own_j3 (n - E) ≤ 3 ∧ own_j2 (n - E) ≤ own_j3 (n - E) ∧ own_j6 (n - E) < own_N E (n - E) - E ∧ E < own_N E (n - E) ∧ own_wd (own_suf (I n - I E)) = false ∧ (∀ c ∈ own_suf (I n - I E),¬ c < 0 ∧ ¬ (65535:Int32) < c) ∧ (own_suf (I n - I E)).length = own_N E (n - E) - E ∧ I n - I E = I (n - E) ∧ 64 < n ∧ n ≤ 200 ∧ E ≤ 64 ∧ 63 ≤ E := by
 unfold own_cnt own_L4
 rcases h with ⟨rfl,rfl⟩ | ⟨rfl,rfl⟩ | ⟨rfl,rfl⟩ | ⟨rfl,rfl⟩ | ⟨rfl,rfl⟩ | ⟨rfl,rfl⟩ | ⟨rfl,rfl⟩ | ⟨rfl,rfl⟩ <;> decide +kernel
def own_e3 (cs:List Int32) (N E qi ri:Nat) : List Int32 :=
 let e1 := if qi < E then (List.replicate N (0:Int32)).set qi (cs.getD qi 0) else List.replicate N 0
 let e2 := if ri < E then e1.set ri (cs.getD ri 0) else e1
 if 63 < E then e2.set 63 (cs.getD 63 0) else e2
theorem own_copy (n N E qi ri:Nat) (a b c:Int32) (hn:64 < n) (hq:qi < n) (hr:ri < n) (hE:E ≤ 64) (hE3:63 ≤ E) (hN:E ≤ N) :
   own_e3 ((((List.replicate n (0:Int32)).set qi a).set ri b).set 63 c) N E qi ri = ((((List.replicate n (0:Int32)).set qi a).set ri b).set 63 c).take E ++ List.replicate (N - E) 0 := by
 obtain ⟨cs,hcs⟩ : ∃ cs,cs = (((List.replicate n (0:Int32)).set qi a).set ri b).set 63 c := ⟨_,rfl⟩
 have hl : cs.length = n := by rw [hcs]; simp
 have hz : ∀ i,i < n → i ≠ qi → i ≠ ri → i ≠ 63 → cs.getD i 0 = 0 := fun i hi h1 h2 h3 => by
   rw [hcs,List.getD_eq_getElem?_getD,List.getElem?_set_ne (Ne.symm h3),List.getElem?_set_ne (Ne.symm h2),List.getElem?_set_ne (Ne.symm h1),List.getElem?_replicate]
   simp [hi]
 rw [← hcs]
 apply List.ext_getElem?
 intro i
 have hset : ∀ (xs:List Int32) (j:Nat) (v:Int32),j < xs.length → (xs.set j v)[i]? = if i = j then some v else xs[i]? := fun xs j v hj => by
   by_cases h : i = j
   · subst h; rw [if_pos rfl,List.getElem?_set_self hj]
   · rw [if_neg h,List.getElem?_set_ne (Ne.symm h)]
 have hrep : (List.replicate N (0:Int32))[i]? = if i < N then some 0 else none := List.getElem?_replicate
 have hg : ∀ j,j < n → cs[j]? = some (cs.getD j 0) := fun j hj => by
   rw [List.getD_eq_getElem?_getD,List.getElem?_eq_getElem (show j < cs.length by omega)]; rfl
 have hrhs : (cs.take E ++ List.replicate (N - E) 0)[i]? = if i < E then some (cs.getD i 0) else if i < N then some 0 else none := by
   have htl : (cs.take E).length = E := by rw [List.length_take]; omega
   by_cases h : i < E
   · rw [if_pos h,List.getElem?_append_left (by omega),List.getElem?_take_of_lt h,hg i (by omega)]
   · rw [if_neg h,List.getElem?_append_right (by omega),htl,List.getElem?_replicate]
     by_cases h2 : i < N
     · rw [if_pos h2,if_pos (by omega)]
     · rw [if_neg h2,if_neg (by omega)]
 rw [hrhs]
 have l1 : (if qi < E then (List.replicate N (0:Int32)).set qi (cs.getD qi 0) else List.replicate N 0).length = N := by split <;> simp
 have g1 : (if qi < E then (List.replicate N (0:Int32)).set qi (cs.getD qi 0) else List.replicate N 0)[i]? = if i = qi ∧ qi < E then some (cs.getD qi 0) else if i < N then some 0 else none := by
   by_cases h : qi < E
   · rw [if_pos h,hset _ _ _ (by simp; omega),hrep]
     by_cases h2 : i = qi
     · rw [if_pos h2,if_pos ⟨h2,h⟩]
     · rw [if_neg h2,if_neg (show ¬ (i = qi ∧ qi < E) from fun q => h2 q.1)]
   · rw [if_neg h,hrep,if_neg (show ¬ (i = qi ∧ qi < E) from fun q => h q.2)]
 obtain ⟨x1,hx1⟩ : ∃ x,x = (if qi < E then (List.replicate N (0:Int32)).set qi (cs.getD qi 0) else List.replicate N 0) := ⟨_,rfl⟩
 have l2 : (if ri < E then x1.set ri (cs.getD ri 0) else x1).length = N := by
   have l1x : x1.length = N := by rw [hx1]; exact l1
   split
   · rw [List.length_set]; exact l1x
   · exact l1x
 have g2 : (if ri < E then x1.set ri (cs.getD ri 0) else x1)[i]? = if i = ri ∧ ri < E then some (cs.getD ri 0) else if i = qi ∧ qi < E then some (cs.getD qi 0) else if i < N then some 0 else none := by
   rw [← g1,← hx1]
   by_cases h : ri < E
   · rw [if_pos h,hset _ _ _ (by rw [hx1,l1]; omega)]
     by_cases h2 : i = ri
     · rw [if_pos h2,if_pos ⟨h2,h⟩]
     · rw [if_neg h2,if_neg (show ¬ (i = ri ∧ ri < E) from fun q => h2 q.1)]
   · rw [if_neg h,if_neg (show ¬ (i = ri ∧ ri < E) from fun q => h q.2)]
 obtain ⟨x2,hx2⟩ : ∃ x,x = (if ri < E then x1.set ri (cs.getD ri 0) else x1) := ⟨_,rfl⟩
 have he : own_e3 cs N E qi ri = if 63 < E then x2.set 63 (cs.getD 63 0) else x2 := by rw [hx2,hx1]; rfl
 rw [he]
 have g3 : (if 63 < E then x2.set 63 (cs.getD 63 0) else x2)[i]? = if i = 63 ∧ 63 < E then some (cs.getD 63 0) else x2[i]? := by
   by_cases h : 63 < E
   · rw [if_pos h,hset _ _ _ (by rw [hx2,l2]; omega)]
     by_cases h2 : i = 63
     · rw [if_pos h2,if_pos ⟨h2,h⟩]
     · rw [if_neg h2,if_neg (show ¬ (i = 63 ∧ 63 < E) from fun q => h2 q.1)]
   · rw [if_neg h,if_neg (show ¬ (i = 63 ∧ 63 < E) from fun q => h q.2)]
 rw [g3,hx2,g2]
 by_cases h3 : i = 63 ∧ 63 < E
 · rw [if_pos h3,if_pos (by omega),h3.1]
 · rw [if_neg h3]
   by_cases h2 : i = ri ∧ ri < E
   · rw [if_pos h2,if_pos (by omega),h2.1]
   · rw [if_neg h2]
     by_cases h1 : i = qi ∧ qi < E
     · rw [if_pos h1,if_pos (by omega),h1.1]
     · rw [if_neg h1]
       by_cases hi : i < E
       · rw [if_pos hi,if_pos (by omega),hz i (by omega) (fun q => h1 ⟨q,by omega⟩) (fun q => h2 ⟨q,by omega⟩) (fun q => h3 ⟨q,by omega⟩)]
       · rw [if_neg hi]
theorem own_Crep (n:Nat) : own_C (List.replicate n (0:Int32)) := fun c hc => by rw [(List.mem_replicate.mp hc).2]; decide
theorem own_Cset {cs:List Int32} (h:own_C cs) (i:Nat) (c:Int32) (hc:¬ c < 0 ∧ ¬ (65535:Int32) < c) : own_C (cs.set i c) := fun x hx => by
 rcases List.mem_or_eq_of_mem_set hx with h1 | h1
 · exact h x h1
 · rw [h1]; exact hc
theorem own_head {h0:Heap} (i0 i1 i2 i3 i4 i5:Int32) (o6:Addr) (n:Nat) (kc:ClassId) (n0:Nat) (X0:Stand p l e room_1 s m args below meth c T0 locs cells slots) (hx:p.tables.exec = Jvm.exec) (hZ:Z.Warmed39 s.vm) (hw:zH Z a0) (hby:c.code = code) (hml:c.maxLocals = 19) (hown:s.vm.findClass "com/example/dolmetsch/dolmetsch/BriefTextOfPinLaw" = some m.cls) (e0:T0.heap = h0) (hn1:0 < n) (hn:n ≤ 200) (C:Arv Z h0 o6 kc .char (I n) ((List.replicate n (0:Int32)).map Value.int) (.int 0)) (O:Old Z n0 h0) (SWz:own_SW Z Z.heap) (g_o6:n0 ≤ o6) (Z0:n0 ≤ h0.size) (N0:Fr n0 locs) (hcl:cells ≤ 20) (hsl:slots ≤ 2000) :
   ∃ (T':State) (locs':List Loc) (b10:Addr) (cs:List Int32) (qi ri kk nn:Nat),Stand p l e room_1 s m args below meth c T' locs' kk nn ∧ kk ≤ cells + 3 ∧ nn ≤ slots + 604 ∧ Fr n0 locs' ∧ Keep h0 T'.heap [o6] ∧ Arv Z T'.heap o6 kc .char (I n) (cs.map Value.int) (.int 0) ∧ own_Str Z T'.heap b10 (own_wd cs) cs ∧ own_C cs ∧ cs.length = n ∧ qi < n ∧ ri < n ∧ (64 < n → ∃ a b c : Int32,cs = (((List.replicate n (0:Int32)).set qi a).set ri b).set 63 c) ∧ ∀ target,Steps p.tables e below (T'.setTop (mkF m 105 #[vi i0,vi i1,vi i2,vi i3,vi i4,vi i5,vr o6,vi (I n),vi (I qi),vi (I ri),vr b10,.unset,.unset,.unset,.unset,.unset,.unset,.unset,.unset] [])) target → Steps p.tables e below (T0.setTop (mkF m 20 #[vi i0,vi i1,vi i2,vi i3,vi i4,vi i5,vr o6,vi (I n),vi 0,vi 0,.unset,.unset,.unset,.unset,.unset,.unset,.unset,.unset,.unset] [])) target := by
 have hr : room_1.cells = 48 ∧ room_1.slots = 8192 := ⟨rfl,rfl⟩
 have hn0 : (0:Int) < (I n).toInt := by rw [own_ti n (by omega)]; omega
 obtain ⟨qi,hq1,hq2⟩ := own_modn i1 (I n) hn0
 obtain ⟨ri,hr1,hr2⟩ := own_modn i3 (I n) hn0
 rw [own_ti n (by omega)] at hq1 hr1
 have hqn : qi < n := by omega
 have hrn : ri < n := by omega
 have hz : ¬ ((I n) = 0) := fun q => by have := (own_eq n 0 (by omega) (by decide)).mp q; omega
 obtain ⟨T1,L1,X1,N1,K1,V1,st1⟩ := lb1 (vi i0) i1 i2 i3 i4 (vi i5) o6 (I n) (vi 0) (vi 0) .unset .unset .unset .unset .unset .unset .unset .unset .unset (List.replicate n (0:Int32)) n qi ri kc n0 X0 hx hZ hw hby hml hown e0 List.length_replicate hn hqn hrn hq2 hr2 C Z0 N0 (by omega) (by omega) (One.val rfl) (One.val rfl) g_o6 ((own_lt 0 n (by decide) (by omega)).mpr hn1) hz hz
 rw [hq2,hr2] at st1
 obtain ⟨cs1,hcs1⟩ : ∃ x,x = ((List.replicate n (0:Int32)).set qi (own_c i2)).set ri (own_c i4) := ⟨_,rfl⟩
 rw [← hcs1] at V1
 have hl1 : cs1.length = n := by rw [hcs1]; simp
 have hC1 : own_C cs1 := by rw [hcs1]; exact own_Cset (own_Cset (own_Crep n) _ _ (own_crng _)) _ _ (own_crng _)
 have O1 := O.keep K1 (allS g_o6 all0)
 have Z1 := Nat.le_trans Z0 K1.1
 have h2 : ∃ (T':State) (locs':List Loc) (cs:List Int32),Stand p l e room_1 s m args below meth c T' locs' cells slots ∧ Fr n0 locs' ∧ Keep T1.heap T'.heap [o6] ∧ Arv Z T'.heap o6 kc .char (I n) (cs.map Value.int) (.int 0) ∧ own_C cs ∧ cs.length = n ∧ (64 < n → ∃ c : Int32,cs = cs1.set 63 c) ∧ ∀ target,Steps p.tables e below (T'.setTop (mkF m 94 #[vi i0,vi i1,vi i2,vi i3,vi i4,vi i5,vr o6,vi (I n),vi (I qi),vi (I ri),.unset,.unset,.unset,.unset,.unset,.unset,.unset,.unset,.unset] [])) target → Steps p.tables e below (T1.setTop (mkF m 58 #[vi i0,vi i1,vi i2,vi i3,vi i4,vi i5,vr o6,vi (I n),vi (I qi),vi (I ri),.unset,.unset,.unset,.unset,.unset,.unset,.unset,.unset,.unset] [])) target := by
   by_cases h6 : 63 < n
   · by_cases h7 : (i5 &&& 65536) = 0
     · obtain ⟨T2,L2,X2,N2,K2,V2,st2⟩ := lc2 (vi i0) (vi i1) (vi i2) (vi i3) (vi i4) i5 o6 (I n) (vi (I qi)) (vi (I ri)) .unset .unset .unset .unset .unset .unset .unset .unset .unset cs1 n kc n0 X1 hx hZ hw hby hml hown rfl hl1 hn h6 V1 Z1 N1 (by omega) (by omega) g_o6 ((own_lt 63 n (by decide) (by omega)).mpr h6) h7
       exact ⟨T2,L2,_,X2,N2,K2,V2,own_Cset hC1 _ _ (own_crng _),by rw [List.length_set]; exact hl1,fun _ => ⟨_,rfl⟩,st2⟩
     · obtain ⟨T2,L2,X2,N2,K2,V2,st2⟩ := lc1 (vi i0) (vi i1) (vi i2) (vi i3) (vi i4) i5 o6 (I n) (vi (I qi)) (vi (I ri)) .unset .unset .unset .unset .unset .unset .unset .unset .unset cs1 n kc n0 X1 hx hZ hw hby hml hown rfl hl1 hn h6 V1 Z1 N1 (by omega) (by omega) g_o6 ((own_lt 63 n (by decide) (by omega)).mpr h6) h7
       exact ⟨T2,L2,_,X2,N2,K2,V2,own_Cset hC1 _ _ (own_crng _),by rw [List.length_set]; exact hl1,fun _ => ⟨_,rfl⟩,st2⟩
   · obtain ⟨T2,X2,e2,st2⟩ := lc0 (vi i0) (vi i1) (vi i2) (vi i3) (vi i4) (vi i5) (vr o6) (I n) (vi (I qi)) (vi (I ri)) .unset .unset .unset .unset .unset .unset .unset .unset .unset X1 hx hZ hw hby hml hown rfl (fun q => h6 ((own_lt 63 n (by decide) (by omega)).mp q))
     exact ⟨T2,L1,cs1,X2,N1,by rw [e2]; exact Keep.refl _ _,by rw [e2]; exact V1,hC1,hl1,fun q => absurd q (by omega),st2⟩
 obtain ⟨T2,L2,cs,X2,N2,K2,V2,hC,hl,hform,st2⟩ := h2
 have O2 := O1.keep K2 (allS g_o6 all0)
 have Z2 := Nat.le_trans Z1 K2.1
 have m6 : ∀ x ∈ [o6],x ∈ [o6] ∨ h0.size ≤ x := fun x hx => Or.inl hx
 have hf2 : 64 < n → ∃ a b c : Int32,cs = (((List.replicate n (0:Int32)).set qi a).set ri b).set 63 c := fun q => by
   obtain ⟨c,hc⟩ := hform q
   exact ⟨_,_,c,by rw [hc,hcs1]⟩
 by_cases hw_ : own_wd cs = true
 · obtain ⟨k,hk,hlo,hhi⟩ := own_first cs hw_
   obtain ⟨T3,L3,b10,kk,nn,X3,hk3,hn3,N3,K3,S3,st3⟩ := ldw (vi i0) (vi i1) (vi i2) (vi i3) (vi i4) (vi i5) o6 (vi (I n)) (vi (I qi)) (vi (I ri)) .unset .unset .unset .unset .unset .unset .unset .unset .unset cs n kc n0 X2 hx hZ hw hby hml hown rfl hl hn hC V2 O2 SWz k (by omega) hlo hhi (by omega) (by omega) Z2 N2 (by omega) (by omega) One.u
   exact ⟨T3,L3,b10,cs,qi,ri,kk,nn,X3,hk3,hn3,N3,(K1.trans K2 m6).trans K3 all0,V2.keep K3 nin0,by rw [hw_]; exact S3,hC,hl,hqn,hrn,hf2,fun t q => st1 _ (st2 _ (st3 _ q))⟩
 · replace hw_ : own_wd cs = false := Bool.eq_false_iff.mpr hw_
   obtain ⟨T3,L3,b10,kk,nn,X3,hk3,hn3,N3,K3,S3,st3⟩ := ldl (vi i0) (vi i1) (vi i2) (vi i3) (vi i4) (vi i5) o6 (vi (I n)) (vi (I qi)) (vi (I ri)) .unset .unset .unset .unset .unset .unset .unset .unset .unset cs n kc n0 X2 hx hZ hw hby hml hown rfl hl hn hC V2 O2 SWz hn1 hw_ (by omega) (by omega) Z2 N2 (by omega) (by omega) One.u
   exact ⟨T3,L3,b10,cs,qi,ri,kk,nn,X3,hk3,hn3,N3,(K1.trans K2 m6).trans K3 all0,V2.keep K3 nin0,by rw [hw_]; exact S3,hC,hl,hqn,hrn,hf2,fun t q => st1 _ (st2 _ (st3 _ q))⟩
theorem own_mid {h0:Heap} (i0 i1 i2 i3 i4 i5 i12:Int32) (o6 b10 b11:Addr) (n E qi ri:Nat) (X0:Stand p l e room_1 s m args below meth c T0 locs cells slots) (hx:p.tables.exec = Jvm.exec) (hZ:Z.Warmed39 s.vm) (hw:zH Z a0) (hby:c.code = code) (hml:c.maxLocals = 19) (hown:s.vm.findClass "com/example/dolmetsch/dolmetsch/BriefTextOfPinLaw" = some m.cls) (e0:T0.heap = h0) (hcm:own_cm n E) :
   ∃ (T':State) (i15:Int32),Stand p l e room_1 s m args below meth c T' locs cells slots ∧ T'.heap = h0 ∧ ∀ target,Steps p.tables e below (T'.setTop (mkF m 226 #[vi i0,vi i1,vi i2,vi i3,vi i4,vi i5,vr o6,vi (I n),vi (I qi),vi (I ri),vr b10,vr b11,vi i12,vi (I E),vi (I (n - E)),vi i15,vi (I (own_N E (n - E))),.unset,.unset] [])) target → Steps p.tables e below (T0.setTop (mkF m 168 #[vi i0,vi i1,vi i2,vi i3,vi i4,vi i5,vr o6,vi (I n),vi (I qi),vi (I ri),vr b10,vr b11,vi i12,vi (I E),.unset,.unset,.unset,.unset,.unset] [])) target := by
 rcases hcm with ⟨rfl,rfl⟩ | ⟨rfl,rfl⟩ | ⟨rfl,rfl⟩ | ⟨rfl,rfl⟩ | ⟨rfl,rfl⟩ | ⟨rfl,rfl⟩ | ⟨rfl,rfl⟩ | ⟨rfl,rfl⟩
 · obtain ⟨T1,X1,e1,st1⟩ := li1 (vi i0) (vi i1) (vi i2) (vi i3) (vi i4) (vi i5) (vr o6) (I 65) (vi (I qi)) (vi (I ri)) (vr b10) (vr b11) (vi i12) (I 64) .unset .unset .unset .unset .unset X0 hx hZ hw hby hml hown e0 One.u One.u One.u (by decide) (by decide) (by decide)
   rw [show ((I 65) - (I 64)) = I (65 - 64) by decide,show ((((((I 64) + 1) + 1) + 15) + 0) + 1) = I (own_N 64 (65 - 64)) by decide] at st1
   exact ⟨T1,_,X1,e1,st1⟩
 · obtain ⟨T1,X1,e1,st1⟩ := li2 (vi i0) (vi i1) (vi i2) (vi i3) (vi i4) (vi i5) (vr o6) (I 65) (vi (I qi)) (vi (I ri)) (vr b10) (vr b11) (vi i12) (I 63) .unset .unset .unset .unset .unset X0 hx hZ hw hby hml hown e0 One.u One.u One.u (by decide) (by decide) (by decide)
   rw [show ((I 65) - (I 63)) = I (65 - 63) by decide,show ((((((I 63) + 1) + 1) + 15) + 1) + 1) = I (own_N 63 (65 - 63)) by decide] at st1
   exact ⟨T1,_,X1,e1,st1⟩
 · obtain ⟨T1,X1,e1,st1⟩ := li2 (vi i0) (vi i1) (vi i2) (vi i3) (vi i4) (vi i5) (vr o6) (I 66) (vi (I qi)) (vi (I ri)) (vr b10) (vr b11) (vi i12) (I 64) .unset .unset .unset .unset .unset X0 hx hZ hw hby hml hown e0 One.u One.u One.u (by decide) (by decide) (by decide)
   rw [show ((I 66) - (I 64)) = I (66 - 64) by decide,show ((((((I 64) + 1) + 1) + 15) + 1) + 1) = I (own_N 64 (66 - 64)) by decide] at st1
   exact ⟨T1,_,X1,e1,st1⟩
 · obtain ⟨T1,X1,e1,st1⟩ := li2 (vi i0) (vi i1) (vi i2) (vi i3) (vi i4) (vi i5) (vr o6) (I 66) (vi (I qi)) (vi (I ri)) (vr b10) (vr b11) (vi i12) (I 63) .unset .unset .unset .unset .unset X0 hx hZ hw hby hml hown e0 One.u One.u One.u (by decide) (by decide) (by decide)
   rw [show ((I 66) - (I 63)) = I (66 - 63) by decide,show ((((((I 63) + 1) + 1) + 15) + 1) + 1) = I (own_N 63 (66 - 63)) by decide] at st1
   exact ⟨T1,_,X1,e1,st1⟩
 · obtain ⟨T1,X1,e1,st1⟩ := li3 (vi i0) (vi i1) (vi i2) (vi i3) (vi i4) (vi i5) (vr o6) (I 75) (vi (I qi)) (vi (I ri)) (vr b10) (vr b11) (vi i12) (I 64) .unset .unset .unset .unset .unset X0 hx hZ hw hby hml hown e0 One.u One.u One.u (by decide) (by decide) (by decide)
   rw [show ((I 75) - (I 64)) = I (75 - 64) by decide,show ((((((I 64) + 1) + 2) + 15) + 1) + 1) = I (own_N 64 (75 - 64)) by decide] at st1
   exact ⟨T1,_,X1,e1,st1⟩
 · obtain ⟨T1,X1,e1,st1⟩ := li3 (vi i0) (vi i1) (vi i2) (vi i3) (vi i4) (vi i5) (vr o6) (I 75) (vi (I qi)) (vi (I ri)) (vr b10) (vr b11) (vi i12) (I 63) .unset .unset .unset .unset .unset X0 hx hZ hw hby hml hown e0 One.u One.u One.u (by decide) (by decide) (by decide)
   rw [show ((I 75) - (I 63)) = I (75 - 63) by decide,show ((((((I 63) + 1) + 2) + 15) + 1) + 1) = I (own_N 63 (75 - 63)) by decide] at st1
   exact ⟨T1,_,X1,e1,st1⟩
 · obtain ⟨T1,X1,e1,st1⟩ := li4 (vi i0) (vi i1) (vi i2) (vi i3) (vi i4) (vi i5) (vr o6) (I 164) (vi (I qi)) (vi (I ri)) (vr b10) (vr b11) (vi i12) (I 64) .unset .unset .unset .unset .unset X0 hx hZ hw hby hml hown e0 One.u One.u One.u (by decide) (by decide)
   rw [show ((I 164) - (I 64)) = I (164 - 64) by decide,show ((((((I 64) + 1) + 3) + 15) + 1) + 1) = I (own_N 64 (164 - 64)) by decide] at st1
   exact ⟨T1,_,X1,e1,st1⟩
 · obtain ⟨T1,X1,e1,st1⟩ := li4 (vi i0) (vi i1) (vi i2) (vi i3) (vi i4) (vi i5) (vr o6) (I 164) (vi (I qi)) (vi (I ri)) (vr b10) (vr b11) (vi i12) (I 63) .unset .unset .unset .unset .unset X0 hx hZ hw hby hml hown e0 One.u One.u One.u (by decide) (by decide)
   rw [show ((I 164) - (I 63)) = I (164 - 63) by decide,show ((((((I 63) + 1) + 3) + 15) + 1) + 1) = I (own_N 63 (164 - 63)) by decide] at st1
   exact ⟨T1,_,X1,e1,st1⟩
theorem own_hsx (c:Int32) : own_hs c = if c < 55296 then 0 else if (56319:Int32) < c then 0 else 1 := by
 unfold own_hs
 by_cases h : c < 55296
 · rw [if_pos h,if_pos h]
 · rw [if_neg h,if_neg h]
   have z1 : (56320:Int32).toInt = 56320 := by decide
   have z2 : (56319:Int32).toInt = 56319 := by decide
   by_cases h2 : (56319:Int32) < c
   · rw [if_pos h2,if_neg (by rw [Int32.lt_iff_toInt_lt] at h2 ⊢; omega)]
   · rw [if_neg h2,if_pos (by rw [Int32.lt_iff_toInt_lt] at h2 ⊢; omega)]
theorem own_high {h0:Heap} (i0 i1 i2 i3 i4 i5:Int32) (o6 b10 b11:Addr) (n qi ri:Nat) (cs:List Int32) (kc:ClassId) (X0:Stand p l e room_1 s m args below meth c T0 locs cells slots) (hx:p.tables.exec = Jvm.exec) (hZ:Z.Warmed39 s.vm) (hw:zH Z a0) (hby:c.code = code) (hml:c.maxLocals = 19) (hown:s.vm.findClass "com/example/dolmetsch/dolmetsch/BriefTextOfPinLaw" = some m.cls) (e0:T0.heap = h0) (hcs:cs.length = n) (hn:n ≤ 200) (hn6:64 < n) (V:Arv Z h0 o6 kc .char (I n) (cs.map Value.int) (.int 0)) :
   ∃ (T':State) (i12:Int32),Stand p l e room_1 s m args below meth c T' locs cells slots ∧ T'.heap = h0 ∧ ∀ target,Steps p.tables e below (T'.setTop (mkF m 168 #[vi i0,vi i1,vi i2,vi i3,vi i4,vi i5,vr o6,vi (I n),vi (I qi),vi (I ri),vr b10,vr b11,vi i12,vi (I (own_E cs)),.unset,.unset,.unset,.unset,.unset] [])) target → Steps p.tables e below (T0.setTop (mkF m 112 #[vi i0,vi i1,vi i2,vi i3,vi i4,vi i5,vr o6,vi (I n),vi (I qi),vi (I ri),vr b10,vr b11,.unset,.unset,.unset,.unset,.unset,.unset,.unset] [])) target := by
 have hc116 : (64:Int32) < (I n) := (own_lt 64 n (by decide) (by omega)).mpr hn6
 have eh := own_hsx (cs.getD 63 0)
 have h1 : ∃ (T':State),Stand p l e room_1 s m args below meth c T' locs cells slots ∧ T'.heap = h0 ∧ ∀ target,Steps p.tables e below (T'.setTop (mkF m 154 #[vi i0,vi i1,vi i2,vi i3,vi i4,vi i5,vr o6,vi (I n),vi (I qi),vi (I ri),vr b10,vr b11,vi (own_hs (cs.getD 63 0)),.unset,.unset,.unset,.unset,.unset,.unset] [])) target → Steps p.tables e below (T0.setTop (mkF m 112 #[vi i0,vi i1,vi i2,vi i3,vi i4,vi i5,vr o6,vi (I n),vi (I qi),vi (I ri),vr b10,vr b11,.unset,.unset,.unset,.unset,.unset,.unset,.unset] [])) target := by
   by_cases ha : (cs.getD 63 0) < 55296
   · rw [if_pos ha] at eh; rw [eh]
     exact lg1 (vi i0) (vi i1) (vi i2) (vi i3) (vi i4) (vi i5) o6 (I n) (vi (I qi)) (vi (I ri)) (vr b10) (vr b11) .unset .unset .unset .unset .unset .unset .unset cs n kc X0 hx hZ hw hby hml hown e0 hcs hn (by omega) V One.u hc116 ha
   · rw [if_neg ha] at eh
     by_cases hb_ : (56319:Int32) < (cs.getD 63 0)
     · rw [if_pos hb_] at eh; rw [eh]
       exact lg3 (vi i0) (vi i1) (vi i2) (vi i3) (vi i4) (vi i5) o6 (I n) (vi (I qi)) (vi (I ri)) (vr b10) (vr b11) .unset .unset .unset .unset .unset .unset .unset cs n kc X0 hx hZ hw hby hml hown e0 hcs hn (by omega) V One.u hc116 ha hb_
     · rw [if_neg hb_] at eh; rw [eh]
       exact lg2 (vi i0) (vi i1) (vi i2) (vi i3) (vi i4) (vi i5) o6 (I n) (vi (I qi)) (vi (I ri)) (vr b10) (vr b11) .unset .unset .unset .unset .unset .unset .unset cs n kc X0 hx hZ hw hby hml hown e0 hcs hn (by omega) V One.u hc116 ha hb_
 obtain ⟨T1,X1,e1,st1⟩ := h1
 by_cases hh_ : own_hs (cs.getD 63 0) = 0
 · have eE : own_E cs = 64 := if_pos hh_
   obtain ⟨T2,X2,e2,st2⟩ := lh64 (vi i0) (vi i1) (vi i2) (vi i3) (vi i4) (vi i5) (vr o6) (vi (I n)) (vi (I qi)) (vi (I ri)) (vr b10) (vr b11) (own_hs (cs.getD 63 0)) .unset .unset .unset .unset .unset .unset X1 hx hZ hw hby hml hown e1 One.u hh_
   exact ⟨T2,_,X2,e2,fun t q => st1 _ (st2 _ (by rw [eE] at q; exact q))⟩
 · have eE : own_E cs = 63 := if_neg hh_
   obtain ⟨T2,X2,e2,st2⟩ := lh63 (vi i0) (vi i1) (vi i2) (vi i3) (vi i4) (vi i5) (vr o6) (vi (I n)) (vi (I qi)) (vi (I ri)) (vr b10) (vr b11) (own_hs (cs.getD 63 0)) .unset .unset .unset .unset .unset .unset X1 hx hZ hw hby hml hown e1 One.u hh_
   exact ⟨T2,_,X2,e2,fun t q => st1 _ (st2 _ (by rw [eE] at q; exact q))⟩
theorem own_cps  (i0 i1 i2 i3 i4 i5 i12:Int32) (o6 b10 b11 o17:Addr) (n nt E qi ri:Nat) (s14 s15 s16:Slot) (cs:List Int32) (kc ke:ClassId) (n0:Nat) (X0:Stand p l e room_1 s m args below meth c T0 locs cells slots) (hx:p.tables.exec = Jvm.exec) (hZ:Z.Warmed39 s.vm) (hw:zH Z a0) (hby:c.code = code) (hml:c.maxLocals = 19) (hown:s.vm.findClass "com/example/dolmetsch/dolmetsch/BriefTextOfPinLaw" = some m.cls) (hct:cs.length = nt) (hnt:nt ≤ 200) (hC:own_C cs) (C0:Arv Z T0.heap o6 kc .char (I nt) (cs.map Value.int) (.int 0)) (V:Arv Z T0.heap o17 ke .char (I n) ((List.replicate n (0:Int32)).map Value.int) (.int 0)) (hne:o6 ≠ o17) (hn:n < 100) (hqn:qi < nt) (hrn:ri < nt) (hE:E ≤ 64) (hE3:63 ≤ E) (hEn:E < n) (hnt6:64 < nt) (g_o17:n0 ≤ o17) (Z0:n0 ≤ T0.heap.size) (N0:Fr n0 locs) (hcl:cells ≤ 40) (hsl:slots ≤ 6000) :
   ∃ (T':State) (locs':List Loc),Stand p l e room_1 s m args below meth c T' locs' cells slots ∧ Fr n0 locs' ∧ Keep T0.heap T'.heap [o17] ∧ Arv Z T'.heap o17 ke .char (I n) ((own_e3 cs n E qi ri).map Value.int) (.int 0) ∧ ∀ target,Steps p.tables e below (T'.setTop (mkF m 284 #[vi i0,vi i1,vi i2,vi i3,vi i4,vi i5,vr o6,vi (I nt),vi (I qi),vi (I ri),vr b10,vr b11,vi i12,vi (I E),s14,s15,s16,vr o17,.unset] [])) target → Steps p.tables e below (T0.setTop (mkF m 233 #[vi i0,vi i1,vi i2,vi i3,vi i4,vi i5,vr o6,vi (I nt),vi (I qi),vi (I ri),vr b10,vr b11,vi i12,vi (I E),s14,s15,s16,vr o17,.unset] [])) target := by
 have hr : room_1.cells = 48 ∧ room_1.slots = 8192 := ⟨rfl,rfl⟩
 have hl0 : (List.replicate n (0:Int32)).length = n := List.length_replicate
 have h1 : ∃ (T':State) (locs':List Loc),Stand p l e room_1 s m args below meth c T' locs' cells slots ∧ Fr n0 locs' ∧ Keep T0.heap T'.heap [o17] ∧ Arv Z T'.heap o17 ke .char (I n) ((if qi < E then (List.replicate n (0:Int32)).set qi (cs.getD qi 0) else (List.replicate n (0:Int32))).map Value.int) (.int 0) ∧ ∀ target,Steps p.tables e below (T'.setTop (mkF m 250 #[vi i0,vi i1,vi i2,vi i3,vi i4,vi i5,vr o6,vi (I nt),vi (I qi),vi (I ri),vr b10,vr b11,vi i12,vi (I E),s14,s15,s16,vr o17,.unset] [])) target → Steps p.tables e below (T0.setTop (mkF m 233 #[vi i0,vi i1,vi i2,vi i3,vi i4,vi i5,vr o6,vi (I nt),vi (I qi),vi (I ri),vr b10,vr b11,vi i12,vi (I E),s14,s15,s16,vr o17,.unset] [])) target := by
   by_cases hc_ : qi < E
   · obtain ⟨Ta,La,Xa,Na,Ka,Va,sta⟩ := lj1 (vi i0) (vi i1) (vi i2) (vi i3) (vi i4) (vi i5) o6 (vi (I nt)) (I qi) (vi (I ri)) (vr b10) (vr b11) (vi i12) (I E) s14 s15 s16 o17 .unset cs nt kc qi (List.replicate n (0:Int32)) n ke n0 X0 hx hZ hw hby hml hown rfl hct hnt hC C0 rfl (by omega) (by omega) hl0 hn V Z0 N0 (by omega) (by omega) g_o17 ((own_lt qi E (by omega) (by omega)).mpr hc_)
     exact ⟨Ta,La,Xa,Na,Ka,by rw [if_pos hc_]; exact Va,sta⟩
   · obtain ⟨Ta,Xa,ea,sta⟩ := lj1n (vi i0) (vi i1) (vi i2) (vi i3) (vi i4) (vi i5) (vr o6) (vi (I nt)) (I qi) (vi (I ri)) (vr b10) (vr b11) (vi i12) (I E) s14 s15 s16 (vr o17) .unset X0 hx hZ hw hby hml hown rfl (fun q => hc_ ((own_lt qi E (by omega) (by omega)).mp q))
     exact ⟨Ta,_,Xa,N0,by rw [ea]; exact Keep.refl _ _,by rw [ea,if_neg hc_]; exact V,sta⟩
 obtain ⟨T1,L1,X1,N1,K1,V1,st1⟩ := h1
 obtain ⟨x1,hx1⟩ : ∃ x,x = (if qi < E then (List.replicate n (0:Int32)).set qi (cs.getD qi 0) else (List.replicate n (0:Int32))) := ⟨_,rfl⟩
 rw [← hx1] at V1
 have hl1 : x1.length = n := by rw [hx1]; split; (rw [List.length_set]; exact hl0); exact hl0
 have C1 := C0.keep K1 (ninS hne nin0)
 have Z1 := Nat.le_trans Z0 K1.1
 have h2 : ∃ (T':State) (locs':List Loc),Stand p l e room_1 s m args below meth c T' locs' cells slots ∧ Fr n0 locs' ∧ Keep T1.heap T'.heap [o17] ∧ Arv Z T'.heap o17 ke .char (I n) ((if ri < E then x1.set ri (cs.getD ri 0) else x1).map Value.int) (.int 0) ∧ ∀ target,Steps p.tables e below (T'.setTop (mkF m 267 #[vi i0,vi i1,vi i2,vi i3,vi i4,vi i5,vr o6,vi (I nt),vi (I qi),vi (I ri),vr b10,vr b11,vi i12,vi (I E),s14,s15,s16,vr o17,.unset] [])) target → Steps p.tables e below (T1.setTop (mkF m 250 #[vi i0,vi i1,vi i2,vi i3,vi i4,vi i5,vr o6,vi (I nt),vi (I qi),vi (I ri),vr b10,vr b11,vi i12,vi (I E),s14,s15,s16,vr o17,.unset] [])) target := by
   by_cases hc_ : ri < E
   · obtain ⟨Ta,La,Xa,Na,Ka,Va,sta⟩ := lj2 (vi i0) (vi i1) (vi i2) (vi i3) (vi i4) (vi i5) o6 (vi (I nt)) (vi (I qi)) (I ri) (vr b10) (vr b11) (vi i12) (I E) s14 s15 s16 o17 .unset cs nt kc ri x1 n ke n0 X1 hx hZ hw hby hml hown rfl hct hnt hC C1 rfl (by omega) (by omega) hl1 hn V1 Z1 N1 (by omega) (by omega) g_o17 ((own_lt ri E (by omega) (by omega)).mpr hc_)
     exact ⟨Ta,La,Xa,Na,Ka,by rw [if_pos hc_]; exact Va,sta⟩
   · obtain ⟨Ta,Xa,ea,sta⟩ := lj2n (vi i0) (vi i1) (vi i2) (vi i3) (vi i4) (vi i5) (vr o6) (vi (I nt)) (vi (I qi)) (I ri) (vr b10) (vr b11) (vi i12) (I E) s14 s15 s16 (vr o17) .unset X1 hx hZ hw hby hml hown rfl (fun q => hc_ ((own_lt ri E (by omega) (by omega)).mp q))
     exact ⟨Ta,_,Xa,N1,by rw [ea]; exact Keep.refl _ _,by rw [ea,if_neg hc_]; exact V1,sta⟩
 obtain ⟨T2,L2,X2,N2,K2,V2,st2⟩ := h2
 obtain ⟨x2,hx2⟩ : ∃ x,x = (if ri < E then x1.set ri (cs.getD ri 0) else x1) := ⟨_,rfl⟩
 rw [← hx2] at V2
 have hl2 : x2.length = n := by rw [hx2]; split; (rw [List.length_set]; exact hl1); exact hl1
 have C2 := C1.keep K2 (ninS hne nin0)
 have Z2 := Nat.le_trans Z1 K2.1
 have h3 : ∃ (T':State) (locs':List Loc),Stand p l e room_1 s m args below meth c T' locs' cells slots ∧ Fr n0 locs' ∧ Keep T2.heap T'.heap [o17] ∧ Arv Z T'.heap o17 ke .char (I n) ((if 63 < E then x2.set 63 (cs.getD 63 0) else x2).map Value.int) (.int 0) ∧ ∀ target,Steps p.tables e below (T'.setTop (mkF m 284 #[vi i0,vi i1,vi i2,vi i3,vi i4,vi i5,vr o6,vi (I nt),vi (I qi),vi (I ri),vr b10,vr b11,vi i12,vi (I E),s14,s15,s16,vr o17,.unset] [])) target → Steps p.tables e below (T2.setTop (mkF m 267 #[vi i0,vi i1,vi i2,vi i3,vi i4,vi i5,vr o6,vi (I nt),vi (I qi),vi (I ri),vr b10,vr b11,vi i12,vi (I E),s14,s15,s16,vr o17,.unset] [])) target := by
   by_cases hc_ : 63 < E
   · obtain ⟨Ta,La,Xa,Na,Ka,Va,sta⟩ := lj3 (vi i0) (vi i1) (vi i2) (vi i3) (vi i4) (vi i5) o6 (vi (I nt)) (vi (I qi)) (vi (I ri)) (vr b10) (vr b11) (vi i12) (I E) s14 s15 s16 o17 .unset cs nt kc x2 n ke n0 X2 hx hZ hw hby hml hown rfl hct hnt hC C2 (by omega) (by omega) hl2 hn V2 Z2 N2 (by omega) (by omega) g_o17 ((own_lt 63 E (by decide) (by omega)).mpr hc_)
     exact ⟨Ta,La,Xa,Na,Ka,by rw [if_pos hc_]; exact Va,sta⟩
   · obtain ⟨Ta,Xa,ea,sta⟩ := lj3n (vi i0) (vi i1) (vi i2) (vi i3) (vi i4) (vi i5) (vr o6) (vi (I nt)) (vi (I qi)) (vi (I ri)) (vr b10) (vr b11) (vi i12) (I E) s14 s15 s16 (vr o17) .unset X2 hx hZ hw hby hml hown rfl (fun q => hc_ ((own_lt 63 E (by decide) (by omega)).mp q))
     exact ⟨Ta,_,Xa,N2,by rw [ea]; exact Keep.refl _ _,by rw [ea,if_neg hc_]; exact V2,sta⟩
 obtain ⟨T3,L3,X3,N3,K3,V3,st3⟩ := h3
 obtain ⟨x3,hx3⟩ : ∃ x,x = (if 63 < E then x2.set 63 (cs.getD 63 0) else x2) := ⟨_,rfl⟩
 rw [← hx3] at V3
 have hl3 : x3.length = n := by rw [hx3]; split; (rw [List.length_set]; exact hl2); exact hl2
 have C3 := C2.keep K3 (ninS hne nin0)
 have Z3 := Nat.le_trans Z2 K3.1
 have m17 : ∀ x ∈ [o17],x ∈ [o17] ∨ T0.heap.size ≤ x := fun x hx => Or.inl hx
 refine ⟨T3,L3,X3,N3,(K1.trans K2 m17).trans K3 m17,?_,fun t q => st1 _ (st2 _ (st3 _ q))⟩
 have e : own_e3 cs n E qi ri = x3 := by rw [hx3,hx2,hx1]; rfl
 rw [e]; exact V3
theorem own_fl2 (R:List Int32) (L:Nat) : (own_f2 R L).length = R.length := by unfold own_f2; split <;> simp
theorem own_fl3 (R:List Int32) (L:Nat) : (own_f3 R L).length = R.length := by unfold own_f3; split <;> simp [own_fl2]
theorem own_fl5 (R:List Int32) (L:Nat) : (own_f5 R L).length = R.length := by unfold own_f5; rw [own_wseti_len,List.length_set,own_fl3]
theorem own_fl6 (R:List Int32) (L:Nat) : (own_f6 R L).length = R.length := by unfold own_f6; split <;> simp [own_fl5]
theorem own_fil  (s0 s1 s2 s3 s4 s5 s6 s7 s8 s9 s10 s11 s12 s15 s16:Slot) (o17:Addr) (n E L:Nat) (A R:List Int32) (ke:ClassId) (n0:Nat) (X0:Stand p l e room_1 s m args below meth c T0 locs cells slots) (hx:p.tables.exec = Jvm.exec) (hZ:Z.Warmed39 s.vm) (hw:zH Z a0) (hby:c.code = code) (hml:c.maxLocals = 19) (hown:s.vm.findClass "com/example/dolmetsch/dolmetsch/BriefTextOfPinLaw" = some m.cls) (hA:A.length = E) (hlen:A.length + R.length = n) (V:Arv Z T0.heap o17 ke .char (I n) ((A ++ R).map Value.int) (.int 0)) (hn:n < 100) (hL:L ≤ 200) (hE:E ≤ 64) (hj3:own_j3 L + 17 ≤ R.length) (hj2:own_j2 L ≤ own_j3 L) (hj6:own_j6 L < R.length) (g_o17:n0 ≤ o17) (Z0:n0 ≤ T0.heap.size) (N0:Fr n0 locs) (hcl:cells ≤ 40) (hsl:slots ≤ 6000) :
   ∃ (T':State) (locs':List Loc),Stand p l e room_1 s m args below meth c T' locs' cells slots ∧ Fr n0 locs' ∧ Keep T0.heap T'.heap [o17] ∧ Arv Z T'.heap o17 ke .char (I n) ((A ++ own_f7 R L).map Value.int) (.int 0) ∧ ∀ target,Steps p.tables e below (T'.setTop (mkF m 413 #[s0,s1,s2,s3,s4,s5,s6,s7,s8,s9,s10,s11,s12,vi (I E),vi (I L),s15,s16,vr o17,vi (I (E + own_j6 L))] [])) target → Steps p.tables e below (T0.setTop (mkF m 284 #[s0,s1,s2,s3,s4,s5,s6,s7,s8,s9,s10,s11,s12,vi (I E),vi (I L),s15,s16,vr o17,.unset] [])) target := by
 have hr : room_1.cells = 48 ∧ room_1.slots = 8192 := ⟨rfl,rfl⟩
 have m17 : ∀ {h:Heap},∀ x ∈ [o17],x ∈ [o17] ∨ h.size ≤ x := fun x hx => Or.inl hx
 obtain ⟨T1,L1,X1,N1,K1,V1,st1⟩ := ln1 s0 s1 s2 s3 s4 s5 s6 s7 s8 s9 s10 s11 s12 (I E) (vi (I L)) s15 s16 o17 .unset E (A ++ R) n ke n0 X0 hx hZ hw hby hml hown rfl rfl (by omega) (by rw [List.length_append]; exact hlen) hn V Z0 N0 (by omega) (by omega) One.u g_o17
 rw [show (A ++ R).set E 40 = A ++ R.set 0 40 from own_sa A R E 0 40 hA] at V1
 rw [own_succ] at st1
 have Z1 := Nat.le_trans Z0 K1.1
 have h2 : ∃ (T':State) (locs':List Loc),Stand p l e room_1 s m args below meth c T' locs' cells slots ∧ Fr n0 locs' ∧ Keep T1.heap T'.heap [o17] ∧ Arv Z T'.heap o17 ke .char (I n) ((A ++ own_f2 R L).map Value.int) (.int 0) ∧ ∀ target,Steps p.tables e below (T'.setTop (mkF m 328 #[s0,s1,s2,s3,s4,s5,s6,s7,s8,s9,s10,s11,s12,vi (I E),vi (I L),s15,s16,vr o17,vi (I (E + own_j2 L))] [])) target → Steps p.tables e below (T1.setTop (mkF m 301 #[s0,s1,s2,s3,s4,s5,s6,s7,s8,s9,s10,s11,s12,vi (I E),vi (I L),s15,s16,vr o17,vi (I (E + 1))] [])) target := by
   by_cases hc_ : 100 ≤ L
   · obtain ⟨Ta,La,Xa,Na,Ka,Va,sta⟩ := ln2 s0 s1 s2 s3 s4 s5 s6 s7 s8 s9 s10 s11 s12 (vi (I E)) (I L) s15 s16 o17 (I (E + 1)) (E + 1) (A ++ R.set 0 40) n ke n0 X1 hx hZ hw hby hml hown rfl rfl (by omega) (by rw [List.length_append,List.length_set]; exact hlen) hn V1 Z1 N1 (by omega) (by omega) g_o17 (fun q => by have := (own_lt L 100 (by omega) (by decide)).mp q; omega) (by decide)
     rw [own_sa A _ E 1 _ hA] at Va
     rw [own_succ] at sta
     exact ⟨Ta,La,Xa,Na,Ka,by rw [show own_f2 R L = _ from if_pos hc_]; exact Va,by rw [show own_j2 L = 2 from if_pos hc_]; exact sta⟩
   · obtain ⟨Ta,Xa,ea,sta⟩ := ln2n s0 s1 s2 s3 s4 s5 s6 s7 s8 s9 s10 s11 s12 (vi (I E)) (I L) s15 s16 (vr o17) (vi (I (E + 1))) X1 hx hZ hw hby hml hown rfl ((own_lt L 100 (by omega) (by decide)).mpr (by omega))
     exact ⟨Ta,_,Xa,N1,by rw [ea]; exact Keep.refl _ _,by rw [ea,show own_f2 R L = _ from if_neg hc_]; exact V1,by rw [show own_j2 L = 1 from if_neg hc_]; exact sta⟩
 obtain ⟨T2,L2,X2,N2,K2,V2,st2⟩ := h2
 have Z2 := Nat.le_trans Z1 K2.1
 have h3 : ∃ (T':State) (locs':List Loc),Stand p l e room_1 s m args below meth c T' locs' cells slots ∧ Fr n0 locs' ∧ Keep T2.heap T'.heap [o17] ∧ Arv Z T'.heap o17 ke .char (I n) ((A ++ own_f3 R L).map Value.int) (.int 0) ∧ ∀ target,Steps p.tables e below (T'.setTop (mkF m 358 #[s0,s1,s2,s3,s4,s5,s6,s7,s8,s9,s10,s11,s12,vi (I E),vi (I L),s15,s16,vr o17,vi (I (E + own_j3 L))] [])) target → Steps p.tables e below (T2.setTop (mkF m 328 #[s0,s1,s2,s3,s4,s5,s6,s7,s8,s9,s10,s11,s12,vi (I E),vi (I L),s15,s16,vr o17,vi (I (E + own_j2 L))] [])) target := by
   by_cases hc_ : 10 ≤ L
   · have ej : own_j3 L = own_j2 L + 1 := if_pos hc_
     obtain ⟨Ta,La,Xa,Na,Ka,Va,sta⟩ := ln3 s0 s1 s2 s3 s4 s5 s6 s7 s8 s9 s10 s11 s12 (vi (I E)) (I L) s15 s16 o17 (I (E + own_j2 L)) (E + own_j2 L) (A ++ own_f2 R L) n ke n0 X2 hx hZ hw hby hml hown rfl rfl (by omega) (by rw [List.length_append,own_fl2]; exact hlen) hn V2 Z2 N2 (by omega) (by omega) g_o17 (fun q => by have := (own_lt L 10 (by omega) (by decide)).mp q; omega) (by decide) (by decide)
     rw [own_sa A _ E _ _ hA] at Va
     rw [own_succ,Nat.add_assoc] at sta
     exact ⟨Ta,La,Xa,Na,Ka,by rw [show own_f3 R L = _ from if_pos hc_]; exact Va,by rw [ej]; exact sta⟩
   · obtain ⟨Ta,Xa,ea,sta⟩ := ln3n s0 s1 s2 s3 s4 s5 s6 s7 s8 s9 s10 s11 s12 (vi (I E)) (I L) s15 s16 (vr o17) (vi (I (E + own_j2 L))) X2 hx hZ hw hby hml hown rfl ((own_lt L 10 (by omega) (by decide)).mpr (by omega))
     exact ⟨Ta,_,Xa,N2,by rw [ea]; exact Keep.refl _ _,by rw [ea,show own_f3 R L = _ from if_neg hc_]; exact V2,by rw [show own_j3 L = own_j2 L from if_neg hc_]; exact sta⟩
 obtain ⟨T3,L3,X3,N3,K3,V3,st3⟩ := h3
 have Z3 := Nat.le_trans Z2 K3.1
 obtain ⟨T4,L4,X4,N4,K4,V4,st4⟩ := ln4 s0 s1 s2 s3 s4 s5 s6 s7 s8 s9 s10 s11 s12 (vi (I E)) (I L) s15 s16 o17 (I (E + own_j3 L)) (E + own_j3 L) (A ++ own_f3 R L) n ke n0 X3 hx hZ hw hby hml hown rfl rfl (by omega) (by rw [List.length_append,own_fl3]; exact hlen) hn V3 Z3 N3 (by omega) (by omega) g_o17 (by decide)
 rw [own_sa A _ E _ _ hA] at V4
 rw [own_succ,Nat.add_assoc] at st4
 have Z4 := Nat.le_trans Z3 K4.1
 obtain ⟨T5,L5,X5,N5,K5,V5,st5⟩ := ln5 s0 s1 s2 s3 s4 s5 s6 s7 s8 s9 s10 s11 s12 (vi (I E)) (vi (I L)) s15 s16 o17 (I (E + (own_j3 L + 1))) (A ++ (own_f3 R L).set (own_j3 L) (own_c ((48:Int32) + (HMod.hMod (I L) (10:Int32))))) n (E + (own_j3 L + 1)) ke n0 X4 hx hZ hw hby hml hown rfl (by rw [List.length_append,List.length_set,own_fl3]; exact hlen) hn rfl (by omega) V4 g_o17 Z4 N4 (by omega) (by omega)
 rw [own_wsa A E hA] at V5
 rw [Nat.add_assoc] at st5
 have V5' : Arv Z T5.heap o17 ke .char (I n) ((A ++ own_f5 R L).map Value.int) (.int 0) := V5
 have Z5 := Nat.le_trans Z4 K5.1
 have h6 : ∃ (T':State) (locs':List Loc),Stand p l e room_1 s m args below meth c T' locs' cells slots ∧ Fr n0 locs' ∧ Keep T5.heap T'.heap [o17] ∧ Arv Z T'.heap o17 ke .char (I n) ((A ++ own_f6 R L).map Value.int) (.int 0) ∧ ∀ target,Steps p.tables e below (T'.setTop (mkF m 406 #[s0,s1,s2,s3,s4,s5,s6,s7,s8,s9,s10,s11,s12,vi (I E),vi (I L),s15,s16,vr o17,vi (I (E + own_j6 L))] [])) target → Steps p.tables e below (T5.setTop (mkF m 387 #[s0,s1,s2,s3,s4,s5,s6,s7,s8,s9,s10,s11,s12,vi (I E),vi (I L),s15,s16,vr o17,vi (I (E + (own_j3 L + 1 + 15)))] [])) target := by
   by_cases hc_ : L = 1
   · obtain ⟨Ta,Xa,ea,sta⟩ := ln6n s0 s1 s2 s3 s4 s5 s6 s7 s8 s9 s10 s11 s12 (vi (I E)) (I L) s15 s16 (vr o17) (vi (I (E + (own_j3 L + 1 + 15)))) X5 hx hZ hw hby hml hown rfl (by rw [hc_]; rfl)
     exact ⟨Ta,_,Xa,N5,by rw [ea]; exact Keep.refl _ _,by rw [ea,show own_f6 R L = _ from if_pos hc_]; exact V5',by rw [show own_j6 L = _ from if_pos hc_]; exact sta⟩
   · have ej : own_j6 L = own_j3 L + 1 + 15 + 1 := if_neg hc_
     obtain ⟨Ta,La,Xa,Na,Ka,Va,sta⟩ := ln6 s0 s1 s2 s3 s4 s5 s6 s7 s8 s9 s10 s11 s12 (vi (I E)) (I L) s15 s16 o17 (I (E + (own_j3 L + 1 + 15))) (E + (own_j3 L + 1 + 15)) (A ++ own_f5 R L) n ke n0 X5 hx hZ hw hby hml hown rfl rfl (by omega) (by rw [List.length_append,own_fl5]; exact hlen) hn V5' Z5 N5 (by omega) (by omega) g_o17 (fun q => hc_ ((own_eq L 1 (by omega) (by decide)).mp q))
     rw [own_sa A _ E _ _ hA] at Va
     rw [own_succ,Nat.add_assoc] at sta
     exact ⟨Ta,La,Xa,Na,Ka,by rw [show own_f6 R L = _ from if_neg hc_]; exact Va,by rw [ej]; exact sta⟩
 obtain ⟨T6,L6,X6,N6,K6,V6,st6⟩ := h6
 have Z6 := Nat.le_trans Z5 K6.1
 obtain ⟨T7,L7,X7,N7,K7,V7,st7⟩ := ln7 s0 s1 s2 s3 s4 s5 s6 s7 s8 s9 s10 s11 s12 (vi (I E)) (vi (I L)) s15 s16 o17 (I (E + own_j6 L)) (E + own_j6 L) (A ++ own_f6 R L) n ke n0 X6 hx hZ hw hby hml hown rfl rfl (by omega) (by rw [List.length_append,own_fl6]; exact hlen) hn V6 Z6 N6 (by omega) (by omega) g_o17
 rw [own_sa A _ E _ _ hA] at V7
 exact ⟨T7,L7,X7,N7,(((((K1.trans K2 m17).trans K3 m17).trans K4 m17).trans K5 m17).trans K6 m17).trans K7 m17,V7,fun t q => st1 _ (st2 _ (st3 _ (st4 _ (st5 _ (st6 _ (st7 _ q))))))⟩
theorem own_tnc (p:Int32) : own_tn p = 0 ∨ own_tn p = 1 ∨ own_tn p = 63 ∨ own_tn p = 64 ∨ own_tn p = 65 ∨ own_tn p = 66 ∨ own_tn p = 75 ∨ own_tn p = 164 := by
 unfold own_tn
 repeat' split
 all_goals simp
theorem own_Ec (cs:List Int32) : own_E cs = 64 ∨ own_E cs = 63 := by unfold own_E; split <;> simp
def Q0 (h0:Heap) (n0:Nat) (v:Option Value) (h:Heap) (L:List Loc) : Prop := v = some (.int 1) ∧ Fr n0 L
theorem ef_0 (m:MethodId) (x0:Int32) (x1:Int32) (x2:Int32) (x3:Int32) (x4:Int32) (x5:Int32) : entryFrame m #[.int x0,.int x1,.int x2,.int x3,.int x4,.int x5] maxLocals = mkF m 0 #[.val (.int x0),.val (.int x1),.val (.int x2),.val (.int x3),.val (.int x4),.val (.int x5),.unset,.unset,.unset,.unset,.unset,.unset,.unset,.unset,.unset,.unset,.unset,.unset,.unset] [] := by first | (simp [entryFrame,mkF,argsToLocals,Value.category,maxLocals]; done) | rfl
theorem own_safeC {Z:State} {vm:Vm} {h:Heap} {t:Addr} {k:ClassId} {N:Int32} {vs:List Value} {d:Value} {a0:Array Value} (hw:zH Z a0) (hZ:Z.Warmed39 vm) (F:Arv Z h t k .char N vs d) : Safe Z own_EL vm h t := Safe.arv hZ.alike F (by decide)
theorem rm0 (l:Launch) (Z:State) (a0:Array Value) (hw:zH Z a0) (hwS:∀ d ∈ Bundle.stringAtoms,d.before a0 Z = true) (ws:List Jvm.Cond) (p1:Int32) (p2:Int32) (p3:Int32) (p4:Int32) (p5:Int32) (p6:Int32) (h0:Heap) (n0:Nat) (Z0:n0 ≤ h0.size) (O:Old Z n0 h0) (SWz:own_SW Z Z.heap) (DT:own_DT Z) (IF:own_IF Z) :
   MetFree l x (head1 (Jvm.Cond.code x code maxLocals ret :: ws) room_1) (fun a U => a = #[.int p1,.int p2,.int p3,.int p4,.int p5,.int p6] ∧ Z.Warmed39 U.vm ∧ U.heap = h0 ∧ CHv Z own_EL U.vm h0) (fun _ _ _ _ _ => True) (fun _ U o U' => ∃ v L,o = .returned v ∧ Q0 h0 n0 v U'.heap L ∧ ReturnedEndW U o U' L room_1.cells room_1.slots) := by
 refine MetFree.of_bodySF (plainFor_of_name pn_1) hisR ?_
 intro p e s m args below meth c s₁ Bd hml0 hP hK
 obtain ⟨rfl,hZ,hh,hC⟩ := hP
 have hx := Bd.exec
 have hby := Bd.bytes
 have hml : c.maxLocals = 19 := hml0
 have hown : s.vm.findClass "com/example/dolmetsch/dolmetsch/BriefTextOfPinLaw" = some m.cls := findClass_of_methodNamed Bd.named
 have X0 : Stand p l e room_1 s m #[.int p1,.int p2,.int p3,.int p4,.int p5,.int p6] below meth c s₁ [] 0 0 := Stand.of_body Bd
 have e0 : s₁.heap = h0 := by rw [← hh,Bd.state]; rfl
 have N0 := Fr.nil n0
 have pre0 := zP p e below s₁ (ef_0 m p1 p2 p3 p4 p5 p6)
 have hr : room_1.cells = 48 ∧ room_1.slots = 8192 := ⟨rfl,rfl⟩
 obtain ⟨T1,L1,kc,X1,N1,K1,V1,st1⟩ := la p1 (vi p2) (vi p3) (vi p4) (vi p5) (vi p6) .unset .unset .unset .unset .unset .unset .unset .unset .unset .unset .unset .unset .unset n0 X0 hx hZ hw hby hml hown e0 (own_k8_of p1) (by decide) (by decide) Z0 N0 (Nat.zero_le _) (Nat.zero_le _) One.u One.u One.u One.u
 obtain ⟨n,hnd⟩ : ∃ n,n = own_tn (p1 &&& 7) := ⟨_,rfl⟩
 rw [← hnd] at V1 st1
 have htc := own_tnc (p1 &&& 7)
 rw [← hnd] at htc
 have O1 := O.keep K1 all0
 have Z1 := Nat.le_trans Z0 K1.1
 have hC1 := hC.keep K1 all0
 by_cases hn0 : n = 0
 · rw [hn0] at V1 st1
   obtain ⟨T2,X2,e2,st2⟩ := lb0 (vi p1) (vi p2) (vi p3) (vi p4) (vi p5) (vi p6) (vr h0.size) (I 0) (vi 0) (vi 0) .unset .unset .unset .unset .unset .unset .unset .unset .unset X1 hx hZ hw hby hml hown rfl (by decide)
   obtain ⟨T3,X3,e3,st3⟩ := lc0 (vi p1) (vi p2) (vi p3) (vi p4) (vi p5) (vi p6) (vr h0.size) (I 0) (vi 0) (vi 0) .unset .unset .unset .unset .unset .unset .unset .unset .unset X2 hx hZ hw hby hml hown e2 (by decide)
   obtain ⟨T4,L4,b10,X4,S4',hZ4,hown4,N4,K4,S4,st4⟩ := lde (vi p1) (vi p2) (vi p3) (vi p4) (vi p5) (vi p6) h0.size (vi (I 0)) (vi 0) (vi 0) .unset .unset .unset .unset .unset .unset .unset .unset .unset kc n0 X3 hx hZ hw hby hml hown e3 hwS V1 O1 hC1 (by decide) (by decide) Z1 N1 (by decide) (by decide) One.u
   have O4 := O1.keep K4 all0
   have Z4 := Nat.le_trans Z1 K4.1
   have hC0 : own_C ([] : List Int32) := fun c hc => by cases hc
   obtain ⟨T5,L5,X5,N5,e5,st5⟩ := le1 (vi p1) (vi p2) (vi p3) (vi p4) (vi p5) (vi p6) (vr h0.size) (vi (I 0)) (vi 0) (vi 0) b10 .unset .unset .unset .unset .unset .unset .unset .unset false [] n0 X4 hx hZ4 hw hby hml hown4 rfl S4 (SWz.ext O4.2) hC0 rfl (by decide) Z4 N4 (by decide) (by decide) One.u
   obtain ⟨T6,X6,e6,st6⟩ := lf0 (vi p1) (vi p2) (vi p3) (vi p4) (vi p5) (vi p6) (vr h0.size) (I 0) (vi 0) (vi 0) (vr b10) (vr b10) .unset .unset .unset .unset .unset .unset .unset X5 hx hZ4 hw hby hml hown4 e5 (by decide)
   obtain ⟨T7,L7,X7,N7,e7,st7⟩ := lf (vi p1) (vi p2) (vi p3) (vi p4) (vi p5) (vi p6) (vr h0.size) (vi (I 0)) (vi 0) (vi 0) b10 b10 .unset .unset .unset .unset .unset .unset .unset false [] n0 X6 hx hZ4 hw hby hml hown4 e6 S4 rfl (SWz.ext O4.2) hC0 rfl (by decide) Z4 N5 (by decide) (by decide)
   obtain ⟨fs,hr,hrun,hended,hRW⟩ := X7.leaveW (s:=s) S4' (by rw [e7]; exact Nat.le_refl _) (v:=some (.int 1)) (fun h => by rw [Bd.returns] at h; cases h)
   refine ⟨_,_,pre0 _ ?_,hrun,hended,_,_,rfl,?_,⟨hRW.1,hRW.2.1,hRW.2.2.1,hRW.2.2.2.mono (by show 0 + 1 + 1 + 2 ≤ 48; omega) (by show 0 + 164 + 4 + 4 ≤ 8192; omega)⟩⟩
   · refine st1 _ (st2 _ (st3 _ (st4 _ (st5 _ (st6 _ (st7 _ (?_)))))))
     exact retN X7 hx (t:=.boolean) Bd.returns (by simp) (hb hby at_126) hr
   · exact ⟨rfl,N7⟩
 · obtain ⟨T2,L2,b10,cs,qi,ri,kk,nn,X2,hkk,hnn,N2,K2,V2,S2,hCc,hcl,hqn,hrn,hform,st2⟩ := own_head p1 p2 p3 p4 p5 p6 h0.size n kc n0 X1 hx hZ hw hby hml hown rfl (by omega) (by omega) V1 O1 SWz Z0 Z1 N1 (by omega) (by omega)
   have O2 := O1.keep K2 (allS Z0 all0)
   have Z2 := Nat.le_trans Z1 K2.1
   by_cases h64 : n ≤ 64
   · obtain ⟨T5,L5,X5,N5,e5,st5⟩ := le1 (vi p1) (vi p2) (vi p3) (vi p4) (vi p5) (vi p6) (vr h0.size) (vi (I n)) (vi (I qi)) (vi (I ri)) b10 .unset .unset .unset .unset .unset .unset .unset .unset (own_wd cs) cs n0 X2 hx hZ hw hby hml hown rfl S2 (SWz.ext O2.2) hCc rfl (by omega) Z2 N2 (by omega) (by omega) One.u
     obtain ⟨T6,X6,e6,st6⟩ := lf0 (vi p1) (vi p2) (vi p3) (vi p4) (vi p5) (vi p6) (vr h0.size) (I n) (vi (I qi)) (vi (I ri)) (vr b10) (vr b10) .unset .unset .unset .unset .unset .unset .unset X5 hx hZ hw hby hml hown e5 (fun q => by have := (own_lt 64 n (by decide) (by omega)).mp q; omega)
     obtain ⟨T7,L7,X7,N7,e7,st7⟩ := lf (vi p1) (vi p2) (vi p3) (vi p4) (vi p5) (vi p6) (vr h0.size) (vi (I n)) (vi (I qi)) (vi (I ri)) b10 b10 .unset .unset .unset .unset .unset .unset .unset (own_wd cs) cs n0 X6 hx hZ hw hby hml hown e6 S2 rfl (SWz.ext O2.2) hCc rfl (by omega) Z2 N5 (by omega) (by omega)
     obtain ⟨fs,hr,hrun,hended,hRW⟩ := X7.leaveW (s:=s) own_noW (Nat.zero_le _) (v:=some (.int 1)) (fun h => by rw [Bd.returns] at h; cases h)
     refine ⟨_,_,pre0 _ ?_,hrun,hended,_,_,rfl,?_,⟨hRW.1,hRW.2.1,hRW.2.2.1,hRW.2.2.2.mono (by show kk ≤ 48; omega) (by show nn ≤ 8192; omega)⟩⟩
     · refine st1 _ (st2 _ (st5 _ (st6 _ (st7 _ (?_)))))
       exact retN X7 hx (t:=.boolean) Bd.returns (by simp) (hb hby at_126) hr
     · exact ⟨rfl,N7⟩
   · have hE_ := own_Ec cs
     obtain ⟨E,hEd⟩ : ∃ E,E = own_E cs := ⟨_,rfl⟩
     rw [← hEd] at hE_
     have hcm : own_cm n E := by unfold own_cm; omega
     obtain ⟨c1,c2,c3,c4,c5,c6,c7,c8,c9,c10,c11,c12,c13,c14,c15,c16⟩ := own_cmf n E hcm
     have hform := hform c13
     have hC2 := hC1.keep K2 (allS (own_safeC hw hZ V1) all0)
     obtain ⟨T3,L3,b11,X3,S3',hZ3,hown3,N3,K3,S3,st3⟩ := le2 (vi p1) (vi p2) (vi p3) (vi p4) (vi p5) (vi p6) (vr h0.size) (vi (I n)) (vi (I qi)) (vi (I ri)) b10 .unset .unset .unset .unset .unset .unset .unset .unset (own_wd cs) cs n0 X2 hx hZ hw hby hml hown rfl hwS S2 O2 SWz DT IF hCc rfl (by omega) (by omega) (by rw [hcl,← hEd]; exact c1) hC2 (by omega) (by omega) Z2 N2 (by omega) (by omega) One.u
     rw [hcl,← hEd] at S3
     have O3 := O2.keep K3 all0
     have Z3 := Nat.le_trans Z2 K3.1
     have V3 := V2.keep K3 nin0
     obtain ⟨T4,i12,X4,e4,st4⟩ := own_high p1 p2 p3 p4 p5 p6 h0.size b10 b11 n qi ri cs kc X3 hx hZ3 hw hby hml hown3 rfl hcl (by omega) (by omega) V3
     rw [← hEd] at st4
     obtain ⟨T5,i15,X5,e5,st5⟩ := own_mid p1 p2 p3 p4 p5 p6 i12 h0.size b10 b11 n E qi ri X4 hx hZ3 hw hby hml hown3 e4 hcm
     rw [← e5] at S3 O3 Z3 V3
     obtain ⟨T6,L6,ke,X6,N6,K6,V6,st6⟩ := lm (vi p1) (vi p2) (vi p3) (vi p4) (vi p5) (vi p6) (vr h0.size) (vi (I n)) (vi (I qi)) (vi (I ri)) (vr b10) (vr b11) (vi i12) (vi (I E)) (vi (I (n - E))) (vi i15) (I (own_N E (n - E))) .unset .unset (own_N E (n - E)) n0 X5 hx hZ3 hw hby hml hown3 rfl c2 rfl c3 (by omega) (by omega) Z3 N3 (by omega) (by omega) One.u
     have O6 := O3.keep K6 all0
     have Z6 := Nat.le_trans Z3 K6.1
     have hne : h0.size ≠ T5.heap.size := Nat.ne_of_lt V3.lt
     obtain ⟨T7,L7,X7,N7,K7,V7,st7⟩ := own_cps p1 p2 p3 p4 p5 p6 i12 h0.size b10 b11 T5.heap.size (own_N E (n - E)) n E qi ri _ _ _ cs kc ke n0 X6 hx hZ3 hw hby hml hown3 hcl (by omega) hCc (V3.keep K6 nin0) V6 hne c3 hqn hrn c15 c16 c8 c13 Z3 Z6 N6 (by omega) (by omega)
     have eC : own_e3 cs (own_N E (n - E)) E qi ri = cs.take E ++ List.replicate (own_N E (n - E) - E) 0 := by
       obtain ⟨a,b,c,rfl⟩ := hform
       exact own_copy n (own_N E (n - E)) E qi ri a b c c13 hqn hrn c15 c16 (by omega)
     rw [eC] at V7
     have hA : (cs.take E).length = E := by rw [List.length_take]; omega
     have hRl : (List.replicate (own_N E (n - E) - E) (0:Int32)).length = own_N E (n - E) - E := List.length_replicate
     obtain ⟨T8,L8,X8,N8,K8,V8,st8⟩ := own_fil _ _ _ _ _ _ _ _ _ _ _ _ _ _ _ T5.heap.size (own_N E (n - E)) E (n - E) (cs.take E) _ ke n0 X7 hx hZ3 hw hby hml hown3 hA (by rw [hA,hRl]; omega) V7 c3 (by omega) c15 (by rw [hRl]; exact c4) c6 (by rw [hRl]; exact c7) Z3 (Nat.le_trans Z6 K7.1) N7 (by omega) (by omega)
     rw [own_fill n E hcm] at V8
     have m5 : ∀ x ∈ [T5.heap.size],x ∈ ([] : List Addr) ∨ T5.heap.size ≤ x := allS (Or.inr (Nat.le_refl _)) all0
     have KK : Keep T5.heap T8.heap [] := (K6.trans K7 m5).trans K8 m5
     have O8 := O3.keep KK all0
     have Z8 := Nat.le_trans Z3 KK.1
     have S8 := S3.keep0 KK
     have hwd8 : own_wd (cs.take E ++ own_suf (I n - I E)) = own_wd (cs.take E) := by rw [own_wd_app,c9,Bool.or_false]
     have hC8 : own_C (cs.take E ++ own_suf (I n - I E)) := fun c hc => by
       rcases List.mem_append.mp hc with h | h
       · exact own_C_take hCc E c h
       · exact c10 c h
     have hl8 : (cs.take E ++ own_suf (I n - I E)).length = own_N E (n - E) := by rw [List.length_append,hA,c11]; omega
     have h9 : ∃ (T':State) (locs':List Loc) (k9 n9:Nat),Stand p l e room_1 (s.setVm T3.vm) m #[.int p1,.int p2,.int p3,.int p4,.int p5,.int p6] below meth c T' locs' k9 n9 ∧ k9 ≤ kk + 11 + 1 + 3 ∧ n9 ≤ nn + 904 + 85 + 604 ∧ Fr n0 locs' ∧ T8.heap.size ≤ T'.heap.size ∧ ∀ target,Steps p.tables e below (T'.setTop (mkF m 427 #[vi p1,vi p2,vi p3,vi p4,vi p5,vi p6,vr h0.size,vi (I n),vi (I qi),vi (I ri),vr b10,vr b11,vi i12,vi (I E),vi (I (n - E)),vi i15,vi (I (own_N E (n - E))),vr T5.heap.size,vi (I (E + own_j6 (n - E)))] [.int 1])) target → Steps p.tables e below (T8.setTop (mkF m 413 #[vi p1,vi p2,vi p3,vi p4,vi p5,vi p6,vr h0.size,vi (I n),vi (I qi),vi (I ri),vr b10,vr b11,vi i12,vi (I E),vi (I (n - E)),vi i15,vi (I (own_N E (n - E))),vr T5.heap.size,vi (I (E + own_j6 (n - E)))] [])) target := by
       by_cases hww : own_wd (cs.take E ++ own_suf (I n - I E)) = true
       · obtain ⟨k,hk,hlo,hhi⟩ := own_first _ hww
         exact lpw (vi p1) (vi p2) (vi p3) (vi p4) (vi p5) (vi p6) (vr h0.size) (vi (I n)) (vi (I qi)) (vi (I ri)) (vr b10) b11 (vi i12) (vi (I E)) (vi (I (n - E))) (vi i15) (vi (I (own_N E (n - E)))) T5.heap.size (vi (I (E + own_j6 (n - E)))) (cs.take E ++ own_suf (I n - I E)) (own_N E (n - E)) ke n0 X8 hx hZ3 hw hby hml hown3 rfl hl8 (by omega) hC8 V8 O8 SWz _ S8 hwd8 k (by omega) hlo hhi hww (by omega) (by omega) Z8 N8 (by omega) (by omega)
       · replace hww : own_wd (cs.take E ++ own_suf (I n - I E)) = false := Bool.eq_false_iff.mpr hww
         exact lpl (vi p1) (vi p2) (vi p3) (vi p4) (vi p5) (vi p6) (vr h0.size) (vi (I n)) (vi (I qi)) (vi (I ri)) (vr b10) b11 (vi i12) (vi (I E)) (vi (I (n - E))) (vi i15) (vi (I (own_N E (n - E)))) T5.heap.size (vi (I (E + own_j6 (n - E)))) (cs.take E ++ own_suf (I n - I E)) (own_N E (n - E)) ke n0 X8 hx hZ3 hw hby hml hown3 rfl hl8 (by omega) hC8 V8 O8 SWz _ S8 hwd8 (by omega) hww (by omega) (by omega) Z8 N8 (by omega) (by omega)
     obtain ⟨T9,L9,k9,n9,X9,hk9,hn9,N9,hsz9,st9⟩ := h9
     obtain ⟨fs,hr,hrun,hended,hRW⟩ := X9.leaveW (s:=s) S3' (Nat.le_trans (Nat.le_trans (Nat.le_of_eq (by rw [e5])) KK.1) hsz9) (v:=some (.int 1)) (fun h => by rw [Bd.returns] at h; cases h)
     refine ⟨_,_,pre0 _ ?_,hrun,hended,_,_,rfl,?_,⟨hRW.1,hRW.2.1,hRW.2.2.1,hRW.2.2.2.mono (by show k9 ≤ 48; omega) (by show n9 ≤ 8192; omega)⟩⟩
     · refine st1 _ (st2 _ (st3 _ (st4 _ (st5 _ (st6 _ (st7 _ (st8 _ (st9 _ (?_)))))))))
       exact retN X9 hx (t:=.boolean) Bd.returns (by simp) (hb hby at_427) hr
     · exact ⟨rfl,N9⟩
open Jvm.Free.SBG in
theorem own_tbl {a:Array Value} {s:State} {name:String} {rhs:Term} {F:Nat → Nat} (h1:(Cond.laysStatic INT name "[B").before a s = true) (h2:(Cond.exactly (Tof name) "[B").before a s = true) (h3:(Cond.eq (.length (Tof name)) (.int 100)).before a s = true) (hini:(Cond.initialized INT).before a s = true) (harr:(Cond.arrayClass .byte).before a s = true) (hrhs:∀ r,r < 100 → rhs.eval a s none [r] s = some (.int (I (F r)))) (hall:(Cond.all (Tof name) (.eq (.elem (Tof name) (.index 0)) rhs)).before a s = true) : own_T s name F := by
 obtain ⟨d,cB,D,kB,hev,hfcB,hcellD,hkB,hstatD,hclsD,-⟩ := Cond.exactly_spec h2
 have hevI : ∀ idx,(Tof name).eval a s none idx s = some (.ref d) := fun idx => hev
 have hl := Cond.eq_int h3 rfl
 obtain ⟨d',D',hev',harrAt,hlen⟩ := Term.length_spec hl
 cases hev.symm.trans hev'
 obtain ⟨hcellD',hknD,-,-⟩ := State.arrayAt?_spec harrAt
 cases hcellD.symm.trans hcellD'
 have h31 := Jvm.Free.SBG.length_lt hev harrAt hl
 have hsz : D.slots.size = 100 := by
   have q : I D.slots.size = I 100 := by simpa using hlen.symm
   have := congrArg Int32.toInt q
   rw [Int32.toInt_ofNat_of_lt (by omega),Int32.toInt_ofNat_of_lt (by omega)] at this; omega
 obtain ⟨cB',kB',comp,hnameB,hkB',hkindB⟩ := Cond.arrayClass_spec harr
 have eBA : ("[" ++ FieldType.toString .byte) = "[B" := by decide
 rw [eBA] at hnameB
 cases hfcB.symm.trans hnameB
 cases hkB.symm.trans hkB'
 have hel : ∀ r,r < 100 → D.slots[r]? = some (.int (I (F r))) := fun r hr => by
   have h := Cond.all_elim (hevI []) harrAt (Jvm.Free.AList.val_of_holds hall) r (by omega)
   have eL : (Term.elem (Tof name) (.index 0)).eval a s none [r] s = D.slots[r]? := Jvm.Free.SBG.elem_at (ix:=.index 0) (hevI [r]) harrAt (by omega) (by omega) rfl
   have hv := Array.getElem?_eq_getElem (show r < D.slots.size by omega)
   rw [hv] at eL ⊢
   cases e : D.slots[r]'(by omega) with
   | int x =>
     rw [e] at eL
     rw [Cond.eq_ints eL (hrhs r hr)] at h
     rw [of_decide_eq_true (Option.some.inj h)]
   | _ => rw [e] at eL; simp [Cond.value,eL,hrhs r hr] at h
 exact ⟨d,D,Sta.start hev (Or.inr ⟨hini,h1⟩),⟨hcellD,⟨(fun q h => by rw [h] at hstatD; cases hstatD),kB,(by rw [hclsD]; exact hkB),comp,hkindB⟩,hknD⟩,hsz,hel⟩
open Jvm.Free.SBG in
theorem own_DTof {a:Array Value} {s:State} (hini:(Cond.initialized INT).before a s = true) (harr:(Cond.arrayClass .byte).before a s = true) (o1:(Cond.laysStatic INT "DigitOnes" "[B").before a s = true) (o2:(Cond.exactly (Tof "DigitOnes") "[B").before a s = true) (o3:(Cond.eq (.length (Tof "DigitOnes")) (.int 100)).before a s = true) (o4:onesW.before a s = true) (t1:(Cond.laysStatic INT "DigitTens" "[B").before a s = true) (t2:(Cond.exactly (Tof "DigitTens") "[B").before a s = true) (t3:(Cond.eq (.length (Tof "DigitTens")) (.int 100)).before a s = true) (t4:tensW.before a s = true) : own_DT s :=
 ⟨own_tbl (F:=fun r => 48 + r % 10) o1 o2 o3 hini harr (fun r hr => by rw [← ones_num r hr]; rfl) o4,own_tbl (F:=fun r => 48 + r / 10) t1 t2 t3 hini harr (fun r hr => by rw [← tens_num r hr]; rfl) t4⟩
theorem own_perm : ∀ p ∈ own_EL,p ∈ consts_1 := by decide
theorem own_isRef {args:Array Value} {s:State} {t:Term} (h:(Cond.isRef t).value args s none s [] = some true) : ∃ v,t.eval args s none [] s = some v ∧ v.isRef = true := by
 cases hv : t.eval args s none [] s with
 | none => simp [Cond.value,hv] at h
 | some v => exact ⟨v,rfl,by cases v <;> simp_all [Cond.value,Value.isRef]⟩
theorem own_IFof {a:Array Value} {s:State} (hF:s.heap.all (fun c => (List.range c.slots.size).all fun i => match c.slots[i]? with
   | some v => s.fitsSlot c.cls c.vm i v
   | none => true) = true) (hini:(Cond.initialized "jdk/internal/util/Preconditions").before a s = true) (hl:(Cond.laysStatic "jdk/internal/util/Preconditions" "IOOBE_FORMATTER" "Ljava/util/function/BiFunction;").before a s = true) : own_IF s := by
 obtain ⟨c,k,i,f,st,cell,hc,hf,hst,hsta,hcell,hiss,hcls,hlt,hty⟩ := Cond.laysStatic_spec hl
 have hv : cell.slots[f.slot]? = some cell.slots[f.slot] := Array.getElem?_eq_getElem hlt
 have hk : s.vm.classes[c]? = some k := (State.fieldFound?_spec hf).1
 obtain ⟨hi,he⟩ := Array.getElem?_eq_some_iff.mp hcell
 have h1 := (Array.all_eq_true.mp hF) st hi
 rw [he] at h1
 have h2 := (List.all_eq_true.mp h1) f.slot (List.mem_range.mpr hlt)
 rw [hv] at h2
 have ht : parseFieldDescriptor "Ljava/util/function/BiFunction;" = some (.object "java/util/function/BiFunction") := by decide +kernel
 have h3 : fits (.object "java/util/function/BiFunction") cell.slots[f.slot] = true := by
   have htt := (State.fieldFound?_type hf ht).2
   cases hvm : cell.vm with
   | statics x => simpa [State.fitsSlot,State.slotType?,hcls,hk,hvm,hty,htt] using h2
   | _ => simp [hvm,VmData.isStatics] at hiss
 refine ⟨cell.slots[f.slot],Sta.start (args:=a) (by simp [Term.eval,State.fieldNamed?,hf,hst,hsta,hcell,hiss,hv]) (Or.inr ⟨hini,hl⟩),?_⟩
 cases hq : cell.slots[f.slot] with
 | null => rfl
 | ref a => rfl
 | _ => rw [hq] at h3; cases h3
theorem own_eqv {args:Array Value} {s:State} {t:Term} {k:Int32} (h:(Cond.eq t (.int k)).value args s none s [] = some true) : t.eval args s none [] s = some (.int k) := by
 obtain ⟨x,y,hx,hy,k1,k2⟩ := cmp_v (Or.inl h)
 obtain rfl : y = .int k := (Option.some.inj ((Term.int_eval k).symm.trans hy)).symm
 obtain ⟨z,rfl⟩ := k2
 rw [hx]; congr 2
 exact gotT (Cond.eq_ints hx hy) h
theorem own_eqr {args:Array Value} {s:State} {t u:Term} {b:Addr} (h:(Cond.eq t u).value args s none s [] = some true) (hu:u.eval args s none [] s = some (.ref b)) : t.eval args s none [] s = some (.ref b) := by
 obtain ⟨x,y,hx,hy,k1,k2⟩ := cmp_v (Or.inl h)
 obtain rfl : y = .ref b := (Option.some.inj (hu.symm.trans hy)).symm
 rw [hx]; congr 1
 exact gotT (eq_R hx hy k2.2 rfl) h
theorem own_len {args:Array Value} {s:State} {t:Term} {a:Addr} {cl:Cell} {n:Int32} (h:(Term.length t).eval args s none [] s = some (.int n)) (ht:t.eval args s none [] s = some (.ref a)) (hc:s.heap[a]? = some cl) : cl.slots.size = n.toNatClampNeg ∧ ¬ n < 0 := by
 obtain ⟨a',cell,e1,e2,e3⟩ := Term.length_spec h
 cases ht.symm.trans e1
 cases hc.symm.trans (State.arrayAt?_spec e2).1
 have hl : cl.slots.size < 2 ^ 31 := by
   by_cases hn : cl.slots.size < 2147483648
   · exact hn
   · simp [Term.eval,ht,e2,hn] at h
 have q := len_toInt hl
 cases e3
 refine ⟨?_,fun hh => ?_⟩
 · simp only [Int32.toNatClampNeg,q]; rfl
 · rw [Int32.lt_iff_toInt_lt,q] at hh
   have z0 : (0:Int32).toInt = 0 := by decide
   omega
theorem comes_1 {Post:Tables → Env → Array Value → State → Outcome → State → Prop} (hpost:∀ tb e args s v u,(limb_1_1.after args s (.returned v) u = true ∧ limb_1_2.after args s (.returned v) u = true ∧ True) → ReturnedEndW s (.returned v) u (Jvm.fieldLocs frame_1_writes args s ++ Jvm.arrayLocs frame_1_arrays args s ++ Jvm.staticLocs frame_1_statics s) 48 8192 → Post tb e args s (.returned v) u) :
   ArmFor flags0 classFile x code maxLocals ret World_1 tables_1 room_1 Calls_1 rest_1 Pre_1 Post := by
 intro l hfl _ _ p e ha hc hk s m args below hf hA hF happ hP
 obtain ⟨hcalls,hrest,hpre⟩ := hP
 obtain ⟨-,-,-,hnamed,-,-,-,hat⟩ := (Spec.applies_iff hf).mp happ
 obtain ⟨hg,hn⟩ := and_e (Cond.before_iff.mp (show (Jvm.Cond.and given_1 narrow_1).before args s = true from hpre))
 obtain ⟨g0,r0⟩ := and_e hg
 obtain ⟨g1,r1_⟩ := and_e r0
 obtain ⟨g2,r2_⟩ := and_e r1_
 obtain ⟨g3,r3_⟩ := and_e r2_
 obtain ⟨g4,r4_⟩ := and_e r3_
 obtain ⟨g5,g6⟩ := and_e r4_
 obtain ⟨w0,w1,w2,w3,w4,w5,rfl⟩ : ∃ w0 w1 w2 w3 w4 w5 : Value,args = #[w0,w1,w2,w3,w4,w5] := by
   have hs : args.size = 6 := by simpa [Cond.value,given_1] using g0
   obtain ⟨L⟩ := args
   match L,hs with
   | [w0,w1,w2,w3,w4,w5],_ => exact ⟨w0,w1,w2,w3,w4,w5,rfl⟩
 have hw := fun d (hd:d ∈ tables_1) => atoms_spec (ws:=Jvm.Cond.code x code maxLocals ret :: tables_1) hat d (List.mem_cons_of_mem _ hd)
 obtain ⟨hsets,hown0⟩ := atoms_of _ (rest_1_c_eq ▸ (show rest_1_c.before _ s = true from hrest))
 obtain ⟨i0,ei0⟩ := is_v g1
 obtain rfl : w0 = (.int i0) := Option.some.inj ei0
 obtain ⟨i1,ei1⟩ := is_v g2
 obtain rfl : w1 = (.int i1) := Option.some.inj ei1
 obtain ⟨i2,ei2⟩ := is_v g3
 obtain rfl : w2 = (.int i2) := Option.some.inj ei2
 obtain ⟨i3,ei3⟩ := is_v g4
 obtain rfl : w3 = (.int i3) := Option.some.inj ei3
 obtain ⟨i4,ei4⟩ := is_v g5
 obtain rfl : w4 = (.int i4) := Option.some.inj ei4
 obtain ⟨i5,ei5⟩ := is_v g6
 obtain rfl : w5 = (.int i5) := Option.some.inj ei5
 have n5 := not_v (Cond.before_iff.mp (hsets _ (List.mem_of_getElem? (i:=2) rfl)))
 obtain ⟨G1,e9⟩ := is_v (Cond.before_iff.mp (hsets _ (List.mem_of_getElem? (i:=1) rfl)))
 have SCS : Sta s s.heap "java/lang/String" "COMPACT_STRINGS" "Z" (.int G1) := Sta.start e9 (Or.inl (hsets _ (List.mem_of_getElem? (i:=0) rfl)))
 have hcs : ¬ (G1 = 0) := gotF (Cond.eq_ints e9 (Term.int_eval (0))) n5
 obtain ⟨fm,ef,rf⟩ := own_isRef (Cond.before_iff.mp (hsets _ (List.mem_of_getElem? (i:=8) rfl)))
 have SFM : Sta s s.heap "jdk/internal/util/Preconditions" "SIOOBE_FORMATTER" "Ljava/util/function/BiFunction;" fm := Sta.start ef (Or.inl (hsets _ (List.mem_of_getElem? (i:=7) rfl)))
 have SA0 : Sta s s.heap "java/lang/StringUTF16" "$assertionsDisabled" "Z" (.int 1) := Sta.start (own_eqv (Cond.before_iff.mp (hsets _ (List.mem_of_getElem? (i:=23) rfl)))) (Or.inl (hsets _ (List.mem_of_getElem? (i:=22) rfl)))
 have SH0 : Sta s s.heap "java/lang/StringUTF16" "HI_BYTE_SHIFT" "I" (.int 0) := Sta.start (own_eqv (Cond.before_iff.mp (hsets _ (List.mem_of_getElem? (i:=26) rfl)))) (Or.inl (hsets _ (List.mem_of_getElem? (i:=25) rfl)))
 have SL0 : Sta s s.heap "java/lang/StringUTF16" "LO_BYTE_SHIFT" "I" (.int 8) := Sta.start (own_eqv (Cond.before_iff.mp (hsets _ (List.mem_of_getElem? (i:=29) rfl)))) (Or.inl (hsets _ (List.mem_of_getElem? (i:=28) rfl)))
 have hDT : own_DT s := own_DTof (hsets _ (List.mem_of_getElem? (i:=9) rfl)) (zW hw 19 rfl) (hsets _ (List.mem_of_getElem? (i:=10) rfl)) (hsets _ (List.mem_of_getElem? (i:=12) rfl)) (hsets _ (List.mem_of_getElem? (i:=13) rfl)) (hsets _ (List.mem_of_getElem? (i:=14) rfl)) (hsets _ (List.mem_of_getElem? (i:=15) rfl)) (hsets _ (List.mem_of_getElem? (i:=17) rfl)) (hsets _ (List.mem_of_getElem? (i:=18) rfl)) (hsets _ (List.mem_of_getElem? (i:=19) rfl))
 have hIF : own_IF s := own_IFof hF (hsets _ (List.mem_of_getElem? (i:=5) rfl)) (zW hw 124 rfl)
 have hwS : ∀ d ∈ Bundle.stringAtoms,d.before #[.int i0,.int i1,.int i2,.int i3,.int i4,.int i5] s = true := fun d hd => hw d ((by decide +kernel : ∀ d ∈ Bundle.stringAtoms,d ∈ tables_1) d hd)
 have hCH : CHv s own_EL s.vm s.heap := CHv.start (own_EW hw) (fun p hp => hcalls.1 p (own_perm p hp)) (hsets _ (List.mem_of_getElem? (i:=2) rfl)) (zW hw 19 rfl) (zW hw 6 rfl)
 obtain ⟨n,o,h1,h2,h3,_,L,rfl,⟨rfl,N⟩,hq⟩ := rm0 l s _ hw hwS tables_1 i0 i1 i2 i3 i4 i5 s.heap s.heap.size (Nat.le_refl _) (Old.start s) ⟨G1,fm,SCS,hcs,SFM,rf,SA0,SH0,SL0⟩ hDT hIF p e ha hc hk s m _ below hf ((Spec.applies_iff_loose hf).mp happ).1 ⟨rfl,State.Warmed39.refl s,rfl,hCH⟩ trivial
 exact ⟨n,_,h1,h2,h3,hpost _ _ _ _ _ _ ⟨Cond.after_iff.mpr rfl,Cond.after_iff.mpr (eq_i res_at (Term.int_eval (1)) rfl),trivial⟩ ⟨hq.1,hq.2.1,hq.2.2.1,(hq.2.2.2.sift fun y hy => Or.inr (N y hy)).mono (by decide) (by decide)⟩⟩
theorem main_1_1 : Claimed_1_1 := comes_1 fun _ _ _ _ _ _ h hF => ⟨h.1,hF⟩
theorem main_1_2 : Claimed_1_2 := comes_1 fun _ _ _ _ _ _ h hF => ⟨h.2.1,hF⟩
end Jvm.Pilot.@@N@@
namespace Jvm.Pilot.@@N@@
open Jvm Jvm.ClassFile Sem Op Lib Jvm.Free Jvm.Stand Jvm.Pilot.@@N@@.Jvm.D
namespace start1
open Jvm.ClassFile
set_option maxRecDepth 65536
def u (s:String) : CpInfo := .utf8 (stringToUtf16 s)
def gap : Nat → List CpInfo → List CpInfo
  | 0,r => r
  | n + 1,r => .unusable :: gap n r
def poolList (es:List (Nat × CpInfo)) (last:Nat) : List CpInfo := es.foldr (fun e r => gap e.1 (e.2 :: r)) (gap last [])
def pool (es:List (Nat × CpInfo)) (last:Nat) : Array CpInfo := ⟨poolList es last⟩
def fileOf (pool:Array CpInfo) (this:Nat) (attrs:Array Attribute := #[]) (ms:Array MethodInfo := #[]) (fl:Nat := 33) (sup:Nat := 0) (ifs:Array Nat := #[]) (fds:Array FieldInfo := #[]) : ClassFile where
  minorVersion := 0
  majorVersion := 65
  constantPool := pool
  accessFlags := fl
  thisClass := this
  superClass := sup
  interfaces := ifs
  fields := fds
  methods := ms
  attributes := attrs
def plain (name:String) (sup:Option ClassId) : Class where
  name := name
  kind := .ordinary
  loader := none
  accessFlags := 33
  super := sup
  interfaces := #[]
  cf := none
  fields := #[]
  methods := #[]
  instanceTypes := #[]
  staticTypes := #[]
  resolved := #[]
  callSites := []
  init := .initialized
  statics := none
  mirror := none
def pool0 : Array CpInfo := pool [(5,u "<init>"),(0,u "()V"),(1,.class_ 10),(1,u "java/lang/Object")] 113
def k0c0 : Code := ⟨0,1,object_method_1_code,#[],#[]⟩
def k0m0 : Method := ⟨"<init>", "()V",⟨[],none⟩,1,some k0c0⟩
def k0 : Class := { plain "java/lang/Object" none with
  accessFlags := 33
  cf := some (fileOf pool0 8 #[] #[⟨1,5,6,#[]⟩] 33 0 #[] #[])
  methods := #[k0m0]
  resolved := Array.replicate 124 none
  statics := none }
def pool1 : Array CpInfo := pool [(2,.class_ 4),(1,u "java/lang/Object"),(0,u "<init>"),(0,u "()V"),(0,.methodref 8 9),(0,.class_ 10),(0,.nameAndType 11 12),(0,u "com/example/dolmetsch/dolmetsch/BriefTextOfPinLaw"),(0,u "textArray"),(0,u "(I)[C"),(0,.integer 2147483647),(0,.integer 65536),(0,.integer 55296),(0,.class_ 17),(0,u "java/lang/String"),(0,.methodref 16 19),(0,.nameAndType 5 20),(0,u "([C)V"),(0,.methodref 22 23),(0,.class_ 24),(0,.nameAndType 25 26),(0,u "com/example/dolmetsch/dolmetsch/BriefText"),(0,u "of"),(0,u "(Ljava/lang/String;)Ljava/lang/String;"),(0,.methodref 16 28),(0,.nameAndType 29 30),(0,u "equals"),(0,u "(Ljava/lang/Object;)Z"),(0,.integer 56319),(0,.methodref 8 33),(0,.nameAndType 34 12),(0,u "expectedArray"),(0,.methodref 8 36),(0,.nameAndType 37 38),(0,u "word"),(0,u "([CI)I"),(2,u "law"),(0,u "(IIIIII)Z")] 5
def k1m0 : Method := ⟨"<init>", "()V",⟨[],none⟩,2,none⟩
def k1c1 : Code := ⟨5,19,code,#[],#[]⟩
def k1m1 : Method := ⟨"law", "(IIIIII)Z",⟨[.int,.int,.int,.int,.int,.int],some .boolean⟩,9,some k1c1⟩
def k1c2 : Code := ⟨3,2,method_3_code,#[],#[]⟩
def k1m2 : Method := ⟨"word", "([CI)I",⟨[(.array .char),.int],some .int⟩,10,some k1c2⟩
def k1c3 : Code := ⟨2,1,method_4_code,#[],#[]⟩
def k1m3 : Method := ⟨"textArray", "(I)[C",⟨[.int],some (.array .char)⟩,10,some k1c3⟩
def k1c4 : Code := ⟨2,1,method_5_code,#[],#[]⟩
def k1m4 : Method := ⟨"expectedArray", "(I)[C",⟨[.int],some (.array .char)⟩,10,some k1c4⟩
def k1 : Class := { plain "com/example/dolmetsch/dolmetsch/BriefTextOfPinLaw" (some 0) with
  accessFlags := 49
  cf := some (fileOf pool1 8 #[] #[⟨2,5,6,#[]⟩,⟨9,41,42,#[]⟩,⟨10,37,38,#[]⟩,⟨10,11,12,#[]⟩,⟨10,34,12,#[]⟩] 49 2 #[] #[])
  methods := #[k1m0,k1m1,k1m2,k1m3,k1m4]
  resolved := Array.replicate 48 none
  statics := none }
def pool2 : Array CpInfo := pool [(1,.class_ 2),(0,u "java/io/Serializable"),(0,.class_ 4),(0,u "java/lang/Object")] 2
def k2 : Class := { plain "java/io/Serializable" (some 0) with
  accessFlags := 1537
  cf := some (fileOf pool2 1 #[] #[] 1537 3 #[] #[])
  resolved := Array.replicate 7 none
  statics := none }
def pool3 : Array CpInfo := pool [(1,.class_ 2),(0,u "java/lang/Comparable"),(0,.class_ 4),(0,u "java/lang/Object")] 7
def k3 : Class := { plain "java/lang/Comparable" (some 0) with
  accessFlags := 1537
  cf := some (fileOf pool3 1 #[] #[] 1537 3 #[] #[])
  resolved := Array.replicate 12 none
  statics := none }
def pool4 : Array CpInfo := pool [(2,.class_ 4),(1,u "java/lang/CharSequence"),(0,u "length"),(0,u "()I"),(40,.class_ 48),(0,u "java/lang/CharSequence$1CodePointIterator"),(10,.class_ 60),(0,u "java/lang/CharSequence$1CharIterator"),(5,.class_ 67),(0,u "java/lang/Object")] 63
def k4m0 : Method := ⟨"length", "()I",⟨[],some .int⟩,1025,none⟩
def k4 : Class := { plain "java/lang/CharSequence" (some 0) with
  accessFlags := 1537
  cf := some (fileOf pool4 2 #[.nestMembers #[47,59]] #[⟨1025,5,6,#[]⟩] 1537 66 #[] #[])
  methods := #[k4m0]
  resolved := Array.replicate 131 none
  statics := none }
def pool5 : Array CpInfo := pool [(1,.class_ 2),(0,u "java/lang/constant/Constable"),(0,.class_ 4),(0,u "java/lang/Object")] 6
def k5 : Class := { plain "java/lang/constant/Constable" (some 0) with
  accessFlags := 1537
  cf := some (fileOf pool5 1 #[] #[] 1537 3 #[] #[])
  resolved := Array.replicate 11 none
  statics := none }
def pool6 : Array CpInfo := pool [(1,.class_ 2),(0,u "java/lang/constant/ConstantDesc"),(0,.class_ 4),(0,u "java/lang/Object")] 32
def k6 : Class := { plain "java/lang/constant/ConstantDesc" (some 0) with
  accessFlags := 1537
  cf := some (fileOf pool6 1 #[] #[] 1537 3 #[] #[])
  resolved := Array.replicate 37 none
  statics := none }
def pool7 : Array CpInfo := pool [(1,.methodref 2 3),(0,.class_ 4),(0,.nameAndType 5 6),(0,u "java/lang/Object"),(0,u "<init>"),(0,u "()V"),(0,.string 8),(0,u ""),(0,.fieldref 10 11),(0,.class_ 12),(0,.nameAndType 13 14),(0,u "java/lang/String"),(0,u "value"),(0,u "[B"),(0,.fieldref 10 16),(0,.nameAndType 17 18),(0,u "coder"),(0,u "B"),(2,u "hash"),(0,u "I"),(2,u "hashIsZero"),(0,u "Z"),(0,.methodref 10 28),(0,.nameAndType 5 29),(0,u "([CIILjava/lang/Void;)V"),(6,u "checkBoundsOffCount"),(0,u "(III)I"),(0,.fieldref 10 39),(0,.nameAndType 40 26),(0,u "COMPACT_STRINGS"),(1,.class_ 44),(1,u "java/lang/StringUTF16"),(0,u "compress"),(1,.methodref 42 48),(0,.nameAndType 49 50),(0,u "coderFromArrayLen"),(0,u "([BI)B"),(3,.methodref 55 56),(0,.class_ 57),(0,.nameAndType 58 59),(0,u "java/util/Arrays"),(0,u "copyOfRange"),(0,u "([BII)[B"),(46,.methodref 107 108),(0,.class_ 109),(0,.nameAndType 110 111),(0,u "java/lang/StringLatin1"),(0,u "inflate"),(0,u "([BI[BII)V"),(30,u "()Z"),(34,.methodref 42 178),(0,.nameAndType 45 179),(0,u "([CII)[B"),(13,.class_ 195),(1,u "java/lang/System"),(16,.methodref 193 213),(0,.nameAndType 214 215),(0,u "arraycopy"),(0,u "(Ljava/lang/Object;ILjava/lang/Object;II)V"),(118,u "()I"),(0,.methodref 10 336),(0,.nameAndType 17 337),(0,u "()B"),(2,u "()[B"),(22,u "([BI)C"),(27,u "(II)V"),(35,u "(I)C"),(61,.methodref 10 490),(0,.nameAndType 5 491),(0,u "(Ljava/lang/AbstractStringBuilder;Ljava/lang/Void;)V"),(0,.methodref 10 493),(0,.nameAndType 494 142),(0,u "isLatin1"),(0,.methodref 107 496),(0,.nameAndType 497 363),(0,u "charAt"),(0,.methodref 42 496),(2,u "checkIndex"),(4,.nameAndType 507 334),(0,u "length"),(5,u "checkFromToIndex"),(9,u "checkBoundsBeginEnd"),(0,u "(III)V"),(7,u "getBytes"),(8,.methodref 107 542),(0,.nameAndType 543 544),(0,u "equals"),(0,u "([B[B)Z"),(4,.methodref 550 506),(0,.class_ 551),(0,u "java/lang/AbstractStringBuilder"),(0,.methodref 550 553),(0,.nameAndType 554 340),(0,u "getValue"),(18,u "(Ljava/lang/Object;)Z"),(1,.class_ 576),(0,u "java/lang/CharSequence"),(22,u "CASE_INSENSITIVE_ORDER"),(0,u "Ljava/util/Comparator;"),(220,u "([BIB)V"),(188,u "([C)V"),(36,.methodref 550 493),(0,.fieldref 550 1049),(0,.nameAndType 1050 26),(0,u "maybeLatin1"),(2,.fieldref 1054 1055),(0,.class_ 1056),(0,.nameAndType 1057 1058),(0,u "jdk/internal/util/Preconditions"),(0,u "SIOOBE_FORMATTER"),(0,u "Ljava/util/function/BiFunction;"),(0,.methodref 1054 1060),(0,.nameAndType 501 1061),(0,u "(IILjava/util/function/BiFunction;)I"),(0,.methodref 1054 1063),(0,.nameAndType 513 1064),(0,u "(IIILjava/util/function/BiFunction;)I"),(0,.methodref 1054 1066),(0,.nameAndType 1067 1064),(0,u "checkFromIndexSize"),(33,u "serialPersistentFields"),(0,u "[Ljava/io/ObjectStreamField;"),(0,.class_ 1104),(0,u "java/lang/String$CaseInsensitiveComparator"),(1,.class_ 1107),(0,u "java/io/Serializable"),(0,.class_ 1109),(0,u "java/lang/Comparable"),(0,.class_ 1111),(0,u "java/lang/constant/Constable"),(0,.class_ 1113),(0,u "java/lang/constant/ConstantDesc"),(2,u "serialVersionUID"),(0,u "J"),(3,u "REPL"),(0,u "C"),(2,u "LATIN1"),(1,u "UTF16"),(105,u "(Ljava/lang/StringBuilder;)V")] 217
def k7m0 : Method := ⟨"<init>", "()V",⟨[],none⟩,1,none⟩
def k7c1 : Code := ⟨5,2,jdk_42_method_3_code,#[],#[]⟩
def k7m1 : Method := ⟨"<init>", "([C)V",⟨[(.array .char)],none⟩,1,some k7c1⟩
def k7c2 : Code := ⟨3,2,jdk_42_method_53_code,#[],#[]⟩
def k7m2 : Method := ⟨"<init>", "(Ljava/lang/StringBuilder;)V",⟨[(.object "java/lang/StringBuilder")],none⟩,1,some k7c2⟩
def k7c3 : Code := ⟨2,1,jdk_42_method_54_code,#[],#[]⟩
def k7m3 : Method := ⟨"length", "()I",⟨[],some .int⟩,1,some k7c3⟩
def k7c4 : Code := ⟨2,2,jdk_42_method_56_code,#[],#[]⟩
def k7m4 : Method := ⟨"charAt", "(I)C",⟨[.int],some .char⟩,1,some k7c4⟩
def k7c5 : Code := ⟨2,3,jdk_42_method_66_code,#[],#[]⟩
def k7m5 : Method := ⟨"equals", "(Ljava/lang/Object;)Z",⟨[(.object "java/lang/Object")],some .boolean⟩,1,some k7c5⟩
def k7c6 : Code := ⟨5,4,jdk_42_method_147_code,#[],#[]⟩
def k7m6 : Method := ⟨"getBytes", "([BIB)V",⟨[(.array .byte),.int,.byte],none⟩,0,some k7c6⟩
def k7c7 : Code := ⟨4,6,jdk_42_method_149_code,#[],#[]⟩
def k7m7 : Method := ⟨"<init>", "([CIILjava/lang/Void;)V",⟨[(.array .char),.int,.int,(.object "java/lang/Void")],none⟩,2,some k7c7⟩
def k7c8 : Code := ⟨5,5,jdk_42_method_150_code,#[],#[]⟩
def k7m8 : Method := ⟨"<init>", "(Ljava/lang/AbstractStringBuilder;Ljava/lang/Void;)V",⟨[(.object "java/lang/AbstractStringBuilder"),(.object "java/lang/Void")],none⟩,0,some k7c8⟩
def k7c9 : Code := ⟨1,1,jdk_42_method_152_code,#[],#[]⟩
def k7m9 : Method := ⟨"coder", "()B",⟨[],some .byte⟩,0,some k7c9⟩
def k7c10 : Code := ⟨1,1,jdk_42_method_153_code,#[],#[]⟩
def k7m10 : Method := ⟨"value", "()[B",⟨[],some (.array .byte)⟩,0,some k7c10⟩
def k7c11 : Code := ⟨1,1,jdk_42_method_154_code,#[],#[]⟩
def k7m11 : Method := ⟨"isLatin1", "()Z",⟨[],some .boolean⟩,0,some k7c11⟩
def k7c12 : Code := ⟨3,2,jdk_42_method_155_code,#[],#[]⟩
def k7m12 : Method := ⟨"checkIndex", "(II)V",⟨[.int,.int],none⟩,8,some k7c12⟩
def k7c13 : Code := ⟨4,3,jdk_42_method_157_code,#[],#[]⟩
def k7m13 : Method := ⟨"checkBoundsOffCount", "(III)I",⟨[.int,.int,.int],some .int⟩,8,some k7c13⟩
def k7c14 : Code := ⟨4,3,jdk_42_method_158_code,#[],#[]⟩
def k7m14 : Method := ⟨"checkBoundsBeginEnd", "(III)V",⟨[.int,.int,.int],none⟩,8,some k7c14⟩
def k7 : Class := { plain "java/lang/String" (some 0) with
  accessFlags := 49
  interfaces := #[2,3,4,5,6]
  cf := some (fileOf pool7 10 #[.nestMembers #[1103]] #[⟨1,5,6,#[]⟩,⟨1,5,1010,#[]⟩,⟨1,5,1233,#[]⟩,⟨1,507,334,#[]⟩,⟨1,497,427,#[]⟩,⟨1,543,573,#[]⟩,⟨0,532,821,#[]⟩,⟨2,5,29,#[]⟩,⟨0,5,491,#[]⟩,⟨0,17,337,#[]⟩,⟨0,13,340,#[]⟩,⟨0,494,142,#[]⟩,⟨8,501,391,#[]⟩,⟨8,36,37,#[]⟩,⟨8,523,524,#[]⟩] 49 2 #[1106,1108,575,1110,1112] #[⟨18,13,14,#[]⟩,⟨18,17,18,#[]⟩,⟨2,21,22,#[]⟩,⟨2,25,26,#[]⟩,⟨26,1116,1117,#[]⟩,⟨24,40,26,#[]⟩,⟨26,1101,1102,#[]⟩,⟨26,1121,1122,#[]⟩,⟨25,599,600,#[]⟩,⟨24,1125,18,#[]⟩,⟨24,1127,18,#[]⟩])
  fields := #[⟨"value",(.array .byte),18,0,0⟩,⟨"coder",.byte,18,1,0⟩,⟨"hash",.int,2,2,0⟩,⟨"hashIsZero",.boolean,2,3,0⟩,⟨"serialVersionUID",.long,26,0,0⟩,⟨"COMPACT_STRINGS",.boolean,24,1,0⟩,⟨"serialPersistentFields",(.array (.object "java/io/ObjectStreamField")),26,2,0⟩,⟨"REPL",.char,26,3,0⟩,⟨"CASE_INSENSITIVE_ORDER",(.object "java/util/Comparator"),25,4,0⟩,⟨"LATIN1",.byte,24,5,0⟩,⟨"UTF16",.byte,24,6,0⟩]
  methods := #[k7m0,k7m1,k7m2,k7m3,k7m4,k7m5,k7m6,k7m7,k7m8,k7m9,k7m10,k7m11,k7m12,k7m13,k7m14]
  instanceTypes := #[(.array .byte),.byte,.int,.boolean]
  staticTypes := #[.long,.boolean,(.array (.object "java/io/ObjectStreamField")),.char,(.object "java/util/Comparator"),.byte,.byte]
  resolved := Array.replicate 1451 none
  statics := some 0 }
def pool8 : Array CpInfo := pool [(2,.class_ 4),(1,u "java/lang/Object"),(0,u "<init>"),(0,u "()V"),(0,.methodref 8 9),(0,.class_ 10),(0,.nameAndType 11 12),(0,u "java/lang/String"),(0,u "length"),(0,u "()I"),(0,.class_ 14),(0,u "com/example/dolmetsch/dolmetsch/BriefText"),(0,.class_ 16),(0,u "java/lang/StringBuilder"),(0,.methodref 15 18),(0,.nameAndType 5 19),(0,u "(I)V"),(0,.methodref 13 21),(0,.nameAndType 22 23),(0,u "append"),(0,u "(Ljava/lang/StringBuilder;Ljava/lang/String;II)V"),(0,.methodref 15 25),(0,.nameAndType 26 27),(0,u "toString"),(0,u "()Ljava/lang/String;"),(6,.class_ 36),(1,u "java/lang/Character"),(5,.methodref 8 43),(0,.nameAndType 44 45),(0,u "charAt"),(0,u "(I)C"),(0,.methodref 15 47),(0,.nameAndType 22 48),(0,u "(C)Ljava/lang/StringBuilder;"),(0,.methodref 15 50),(0,.nameAndType 22 51),(0,u "(Ljava/lang/CharSequence;II)Ljava/lang/StringBuilder;"),(0,.methodref 34 53),(0,.nameAndType 54 55),(0,u "isHighSurrogate"),(0,u "(C)Z"),(0,.string 57),(0,u "character"),(0,.methodref 13 59),(0,.nameAndType 60 61),(0,u "more"),(0,u "(Ljava/lang/StringBuilder;ILjava/lang/String;)V"),(0,.methodref 15 63),(0,.nameAndType 22 64),(0,u "(I)Ljava/lang/StringBuilder;"),(0,.string 66),(0,u " more "),(0,.methodref 15 68),(0,.nameAndType 22 69),(0,u "(Ljava/lang/String;)Ljava/lang/StringBuilder;"),(0,.string 71),(0,u ")"),(0,.string 73),(0,u "s)"),(0,u "LONGEST"),(0,u "I"),(4,u "of"),(0,u "(Ljava/lang/String;)Ljava/lang/String;")] 4
def k8m0 : Method := ⟨"<init>", "()V",⟨[],none⟩,2,none⟩
def k8c1 : Code := ⟨4,2,prog_4_method_2_code,#[],#[]⟩
def k8m1 : Method := ⟨"of", "(Ljava/lang/String;)Ljava/lang/String;",⟨[(.object "java/lang/String")],some (.object "java/lang/String")⟩,8,some k8c1⟩
def k8c2 : Code := ⟨4,6,prog_4_method_4_code,#[],#[]⟩
def k8m2 : Method := ⟨"append", "(Ljava/lang/StringBuilder;Ljava/lang/String;II)V",⟨[(.object "java/lang/StringBuilder"),(.object "java/lang/String"),.int,.int],none⟩,10,some k8c2⟩
def k8c3 : Code := ⟨3,3,prog_4_method_5_code,#[],#[]⟩
def k8m3 : Method := ⟨"more", "(Ljava/lang/StringBuilder;ILjava/lang/String;)V",⟨[(.object "java/lang/StringBuilder"),.int,(.object "java/lang/String")],none⟩,8,some k8c3⟩
def k8 : Class := { plain "com/example/dolmetsch/dolmetsch/BriefText" (some 0) with
  accessFlags := 32
  cf := some (fileOf pool8 13 #[] #[⟨2,5,6,#[]⟩,⟨8,80,81,#[]⟩,⟨10,22,23,#[]⟩,⟨8,60,61,#[]⟩] 32 2 #[] #[⟨26,74,75,#[]⟩])
  fields := #[⟨"LONGEST",.int,26,0,0⟩]
  methods := #[k8m0,k8m1,k8m2,k8m3]
  staticTypes := #[.int]
  resolved := Array.replicate 86 none
  statics := none }
def pool9 : Array CpInfo := pool [(1,.class_ 2),(0,u "java/lang/Integer"),(0,.class_ 4),(0,u "java/lang/String"),(1,.class_ 8),(1,u "java/lang/Object"),(0,u "<init>"),(0,u "()V"),(0,.methodref 12 13),(0,.class_ 14),(0,.nameAndType 15 16),(0,u "java/lang/StringUTF16"),(0,u "newBytesLength"),(0,u "(I)I"),(3,.integer 1073741823),(23,.fieldref 12 45),(0,.nameAndType 46 47),(0,u "$assertionsDisabled"),(0,u "Z"),(0,.methodref 12 49),(0,.nameAndType 50 51),(0,u "length"),(0,u "([B)I"),(7,.fieldref 12 60),(0,.nameAndType 61 62),(0,u "HI_BYTE_SHIFT"),(0,u "I"),(0,.fieldref 12 64),(0,.nameAndType 65 62),(0,u "LO_BYTE_SHIFT"),(1,.methodref 12 68),(0,.nameAndType 69 70),(0,u "checkIndex"),(0,u "(I[B)V"),(0,.methodref 12 72),(0,.nameAndType 73 74),(0,u "getChar"),(0,u "([BI)C"),(21,.methodref 12 97),(0,.nameAndType 98 99),(0,u "checkBoundsBeginEnd"),(0,u "(II[B)V"),(5,u "getChars"),(1,.methodref 12 108),(0,.nameAndType 109 110),(0,u "newBytesFor"),(0,u "(I)[B"),(0,.methodref 12 112),(0,.nameAndType 113 114),(0,u "putChar"),(0,u "([BII)V"),(0,.methodref 12 116),(0,.nameAndType 117 118),(0,u "compress"),(0,u "([CI[BII)I"),(0,.methodref 12 120),(0,.nameAndType 121 122),(0,u "toBytes"),(0,u "([CII)[B"),(17,u "inflate"),(0,u "([BI[BII)V"),(31,.methodref 12 174),(0,.nameAndType 175 99),(0,u "checkBoundsOffCount"),(65,.methodref 3 242),(0,.nameAndType 98 243),(0,u "(III)V"),(17,u "coderFromArrayLen"),(0,u "([BI)B"),(18,u "(III)I"),(87,.class_ 371),(1,u "java/lang/StringUTF16$LinesSpliterator"),(20,u "charAt"),(0,.methodref 12 394),(0,.nameAndType 105 395),(0,u "(II[B)I"),(7,.fieldref 1 404),(0,.nameAndType 405 406),(0,u "DigitOnes"),(0,u "[B"),(0,.fieldref 1 408),(0,.nameAndType 409 406),(0,u "DigitTens"),(4,.methodref 3 415),(0,.nameAndType 69 416),(0,u "(II)V"),(2,.methodref 3 420),(0,.nameAndType 175 281),(9,u "MAX_LENGTH"),(155,u "putCharSB"),(8,u "(III[B)I"),(31,.class_ 628),(0,u "java/lang/StringUTF16$CodePointsSpliterator"),(0,.class_ 630),(0,u "java/lang/StringUTF16$CharsSpliterator")] 4
def k9m0 : Method := ⟨"<init>", "()V",⟨[],none⟩,0,none⟩
def k9c1 : Code := ⟨1,1,jdk_52_method_2_code,#[],#[]⟩
def k9m1 : Method := ⟨"newBytesFor", "(I)[B",⟨[.int],some (.array .byte)⟩,9,some k9c1⟩
def k9c2 : Code := ⟨4,1,jdk_52_method_3_code,#[],#[]⟩
def k9m2 : Method := ⟨"newBytesLength", "(I)I",⟨[.int],some .int⟩,9,some k9c2⟩
def k9c3 : Code := ⟨4,3,jdk_52_method_4_code,#[],#[]⟩
def k9m3 : Method := ⟨"putChar", "([BII)V",⟨[(.array .byte),.int,.int],none⟩,8,some k9c3⟩
def k9c4 : Code := ⟨3,2,jdk_52_method_5_code,#[],#[]⟩
def k9m4 : Method := ⟨"getChar", "([BI)C",⟨[(.array .byte),.int],some .char⟩,8,some k9c4⟩
def k9c5 : Code := ⟨2,1,jdk_52_method_6_code,#[],#[]⟩
def k9m5 : Method := ⟨"length", "([B)I",⟨[(.array .byte)],some .int⟩,9,some k9c5⟩
def k9c6 : Code := ⟨4,5,jdk_52_method_14_code,#[],#[]⟩
def k9m6 : Method := ⟨"toBytes", "([CII)[B",⟨[(.array .char),.int,.int],some (.array .byte)⟩,9,some k9c6⟩
def k9c7 : Code := ⟨2,2,jdk_52_method_15_code,#[],#[]⟩
def k9m7 : Method := ⟨"coderFromArrayLen", "([BI)B",⟨[(.array .byte),.int],some .byte⟩,8,some k9c7⟩
def k9c8 : Code := ⟨5,6,jdk_52_method_16_code,#[],#[]⟩
def k9m8 : Method := ⟨"compress", "([CII)[B",⟨[(.array .char),.int,.int],some (.array .byte)⟩,9,some k9c8⟩
def k9c9 : Code := ⟨3,7,jdk_52_method_21_code,#[],#[]⟩
def k9m9 : Method := ⟨"compress", "([CI[BII)I",⟨[(.array .char),.int,(.array .byte),.int,.int],some .int⟩,9,some k9c9⟩
def k9c10 : Code := ⟨3,3,jdk_52_method_71_code,#[],#[]⟩
def k9m10 : Method := ⟨"putCharSB", "([BII)V",⟨[(.array .byte),.int,.int],none⟩,9,some k9c10⟩
def k9c11 : Code := ⟨3,5,jdk_52_method_77_code,#[],#[]⟩
def k9m11 : Method := ⟨"getChars", "(III[B)I",⟨[.int,.int,.int,(.array .byte)],some .int⟩,9,some k9c11⟩
def k9c12 : Code := ⟨2,2,jdk_52_method_83_code,#[],#[]⟩
def k9m12 : Method := ⟨"charAt", "([BI)C",⟨[(.array .byte),.int],some .char⟩,9,some k9c12⟩
def k9c13 : Code := ⟨4,6,jdk_52_method_86_code,#[],#[]⟩
def k9m13 : Method := ⟨"inflate", "([BI[BII)V",⟨[(.array .byte),.int,(.array .byte),.int,.int],none⟩,9,some k9c13⟩
def k9c14 : Code := ⟨4,7,jdk_52_method_89_code,#[],#[]⟩
def k9m14 : Method := ⟨"getChars", "(II[B)I",⟨[.int,.int,(.array .byte)],some .int⟩,8,some k9c14⟩
def k9c15 : Code := ⟨2,2,jdk_52_method_91_code,#[],#[]⟩
def k9m15 : Method := ⟨"checkIndex", "(I[B)V",⟨[.int,(.array .byte)],none⟩,9,some k9c15⟩
def k9c16 : Code := ⟨3,3,jdk_52_method_93_code,#[],#[]⟩
def k9m16 : Method := ⟨"checkBoundsBeginEnd", "(II[B)V",⟨[.int,.int,(.array .byte)],none⟩,9,some k9c16⟩
def k9c17 : Code := ⟨3,3,jdk_52_method_94_code,#[],#[]⟩
def k9m17 : Method := ⟨"checkBoundsOffCount", "(II[B)V",⟨[.int,.int,(.array .byte)],none⟩,9,some k9c17⟩
def k9 : Class := { plain "java/lang/StringUTF16" (some 0) with
  accessFlags := 48
  cf := some (fileOf pool9 12 #[.nestMembers #[627,629,369]] #[⟨0,9,10,#[]⟩,⟨9,109,110,#[]⟩,⟨9,15,16,#[]⟩,⟨8,113,114,#[]⟩,⟨8,73,74,#[]⟩,⟨9,50,51,#[]⟩,⟨9,121,122,#[]⟩,⟨8,261,262,#[]⟩,⟨9,117,122,#[]⟩,⟨9,117,118,#[]⟩,⟨9,586,114,#[]⟩,⟨9,105,595,#[]⟩,⟨9,392,74,#[]⟩,⟨9,140,141,#[]⟩,⟨8,105,395,#[]⟩,⟨9,69,70,#[]⟩,⟨9,98,99,#[]⟩,⟨9,175,99,#[]⟩] 48 6 #[] #[⟨26,61,62,#[]⟩,⟨26,65,62,#[]⟩,⟨24,430,62,#[]⟩,⟨4120,46,47,#[]⟩])
  fields := #[⟨"HI_BYTE_SHIFT",.int,26,0,0⟩,⟨"LO_BYTE_SHIFT",.int,26,1,0⟩,⟨"MAX_LENGTH",.int,24,2,0⟩,⟨"$assertionsDisabled",.boolean,4120,3,0⟩]
  methods := #[k9m0,k9m1,k9m2,k9m3,k9m4,k9m5,k9m6,k9m7,k9m8,k9m9,k9m10,k9m11,k9m12,k9m13,k9m14,k9m15,k9m16,k9m17]
  staticTypes := #[.int,.int,.int,.boolean]
  resolved := Array.replicate 635 none
  statics := some 1 }
def pool10 : Array CpInfo := pool [(1,.class_ 2),(0,u "java/lang/Appendable"),(0,.class_ 4),(0,u "java/lang/Object")] 9
def k10 : Class := { plain "java/lang/Appendable" (some 0) with
  accessFlags := 1537
  cf := some (fileOf pool10 1 #[] #[] 1537 3 #[] #[])
  resolved := Array.replicate 14 none
  statics := none }
def pool11 : Array CpInfo := pool [(1,.class_ 2),(0,u "java/lang/String"),(0,.methodref 4 5),(0,.class_ 6),(0,.nameAndType 7 8),(0,u "java/lang/Object"),(0,u "<init>"),(0,u "()V"),(1,.class_ 12),(1,u "java/lang/AbstractStringBuilder"),(0,u "EMPTYVALUE"),(0,u "[B"),(0,.fieldref 10 16),(0,.nameAndType 17 14),(0,u "value"),(0,.fieldref 1 19),(0,.nameAndType 20 21),(0,u "COMPACT_STRINGS"),(0,u "Z"),(0,.fieldref 10 23),(0,.nameAndType 24 25),(0,u "coder"),(0,u "B"),(0,.methodref 27 28),(0,.class_ 29),(0,.nameAndType 30 31),(0,u "java/lang/StringUTF16"),(0,u "newBytesFor"),(0,u "(I)[B"),(0,.methodref 1 33),(0,.nameAndType 34 35),(0,u "length"),(0,u "()I"),(0,.class_ 37),(0,u "java/lang/Integer"),(2,.methodref 1 41),(0,.nameAndType 24 42),(0,u "()B"),(2,u "append"),(0,u "(Ljava/lang/String;)Ljava/lang/AbstractStringBuilder;"),(0,.interfaceMethodref 48 33),(0,.class_ 49),(0,u "java/lang/CharSequence"),(19,u "(Ljava/lang/String;)V"),(5,u "maybeLatin1"),(3,.fieldref 10 80),(0,.nameAndType 81 82),(0,u "count"),(0,u "I"),(0,.methodref 10 84),(0,.nameAndType 85 86),(0,u "isLatin1"),(0,u "()Z"),(1,.class_ 90),(1,u "java/lang/StringLatin1"),(9,.methodref 10 101),(0,.nameAndType 102 103),(0,u "ensureCapacityInternal"),(0,u "(I)V"),(3,u "(I)I"),(17,.methodref 88 126),(0,.nameAndType 127 128),(0,u "inflate"),(0,u "([BI[BII)V"),(7,u "([BII)V"),(24,.methodref 162 163),(0,.class_ 164),(0,.nameAndType 165 166),(0,u "jdk/internal/util/Preconditions"),(0,u "checkFromToIndex"),(0,u "(IIILjava/util/function/BiFunction;)I"),(15,u "Ljava/util/function/BiFunction;"),(0,.fieldref 162 184),(0,.nameAndType 185 182),(0,u "IOOBE_FORMATTER"),(2,u "getChars"),(2,.methodref 88 192),(0,.nameAndType 193 194),(0,u "canEncode"),(0,u "(C)Z"),(0,.methodref 10 196),(0,.nameAndType 127 8),(0,.methodref 27 198),(0,.nameAndType 199 136),(0,u "putCharSB"),(8,.methodref 10 209),(0,.nameAndType 210 211),(0,u "putStringAt"),(0,u "(ILjava/lang/String;)V"),(5,u "inflateIfNeededFor"),(2,.nameAndType 221 222),(0,u "getBytes"),(0,u "([BIB)V"),(2,u "(Ljava/lang/CharSequence;II)Ljava/lang/AbstractStringBuilder;"),(6,.methodref 10 233),(0,.nameAndType 234 235),(0,u "appendChars"),(0,u "(Ljava/lang/String;II)V"),(9,.methodref 36 246),(0,.nameAndType 247 107),(0,u "stringSize"),(0,.methodref 36 249),(0,.nameAndType 188 250),(0,u "(II[B)I"),(0,.methodref 27 252),(0,.nameAndType 188 253),(0,u "(III[B)I"),(38,u "(C)Ljava/lang/AbstractStringBuilder;"),(16,.methodref 310 311),(0,.class_ 312),(0,.nameAndType 313 314),(0,u "java/lang/System"),(0,u "arraycopy"),(0,u "(Ljava/lang/Object;ILjava/lang/Object;II)V"),(76,.nameAndType 392 393),(0,u "charAt"),(0,u "(I)C"),(3,.methodref 10 398),(0,.nameAndType 217 69),(0,.methodref 1 220),(0,.methodref 1 84),(0,.methodref 1 402),(0,.nameAndType 17 403),(0,u "()[B"),(0,.methodref 1 391),(39,.class_ 445),(0,u "java/lang/Appendable"),(65,u "(I)Ljava/lang/AbstractStringBuilder;"),(40,u "getValue")] 56
def k11m0 : Method := ⟨"<init>", "()V",⟨[],none⟩,0,none⟩
def k11c1 : Code := ⟨2,2,jdk_68_method_2_code,#[],#[]⟩
def k11m1 : Method := ⟨"<init>", "(I)V",⟨[.int],none⟩,0,some k11c1⟩
def k11c2 : Code := ⟨1,1,jdk_68_method_6_code,#[],#[]⟩
def k11m2 : Method := ⟨"length", "()I",⟨[],some .int⟩,1,some k11c2⟩
def k11c3 : Code := ⟨4,3,jdk_68_method_9_code,#[],#[]⟩
def k11m3 : Method := ⟨"ensureCapacityInternal", "(I)V",⟨[.int],none⟩,2,some k11c3⟩
def k11c4 : Code := ⟨5,2,jdk_68_method_11_code,#[],#[]⟩
def k11m4 : Method := ⟨"inflate", "()V",⟨[],none⟩,2,some k11c4⟩
def k11c5 : Code := ⟨3,3,jdk_68_method_22_code,#[],#[]⟩
def k11m5 : Method := ⟨"append", "(Ljava/lang/String;)Ljava/lang/AbstractStringBuilder;",⟨[(.object "java/lang/String")],some (.object "java/lang/AbstractStringBuilder")⟩,1,some k11c5⟩
def k11c6 : Code := ⟨4,5,jdk_68_method_27_code,#[],#[]⟩
def k11m6 : Method := ⟨"append", "(Ljava/lang/CharSequence;II)Ljava/lang/AbstractStringBuilder;",⟨[(.object "java/lang/CharSequence"),.int,.int],some (.object "java/lang/AbstractStringBuilder")⟩,1,some k11c6⟩
def k11c7 : Code := ⟨5,2,jdk_68_method_31_code,#[],#[]⟩
def k11m7 : Method := ⟨"append", "(C)Ljava/lang/AbstractStringBuilder;",⟨[.char],some (.object "java/lang/AbstractStringBuilder")⟩,1,some k11c7⟩
def k11c8 : Code := ⟨4,4,jdk_68_method_32_code,#[],#[]⟩
def k11m8 : Method := ⟨"append", "(I)Ljava/lang/AbstractStringBuilder;",⟨[.int],some (.object "java/lang/AbstractStringBuilder")⟩,1,some k11c8⟩
def k11c9 : Code := ⟨1,1,jdk_68_method_64_code,#[],#[]⟩
def k11m9 : Method := ⟨"getValue", "()[B",⟨[],some (.array .byte)⟩,16,some k11c9⟩
def k11c10 : Code := ⟨1,1,jdk_68_method_68_code,#[],#[]⟩
def k11m10 : Method := ⟨"isLatin1", "()Z",⟨[],some .boolean⟩,16,some k11c10⟩
def k11c11 : Code := ⟨2,2,jdk_68_method_71_code,#[],#[]⟩
def k11m11 : Method := ⟨"inflateIfNeededFor", "(Ljava/lang/String;)V",⟨[(.object "java/lang/String")],none⟩,2,some k11c11⟩
def k11c12 : Code := ⟨4,3,jdk_68_method_73_code,#[],#[]⟩
def k11m12 : Method := ⟨"putStringAt", "(ILjava/lang/String;)V",⟨[.int,(.object "java/lang/String")],none⟩,2,some k11c12⟩
def k11c13 : Code := ⟨6,8,jdk_68_method_75_code,#[],#[]⟩
def k11m13 : Method := ⟨"appendChars", "(Ljava/lang/String;II)V",⟨[(.object "java/lang/String"),.int,.int],none⟩,18,some k11c13⟩
def k11 : Class := { plain "java/lang/AbstractStringBuilder" (some 0) with
  accessFlags := 1056
  interfaces := #[10,4]
  cf := some (fileOf pool11 10 #[] #[⟨0,7,8,#[]⟩,⟨0,7,103,#[]⟩,⟨1,34,35,#[]⟩,⟨2,102,103,#[]⟩,⟨2,127,8,#[]⟩,⟨1,45,46,#[]⟩,⟨1,45,225,#[]⟩,⟨1,45,292,#[]⟩,⟨1,45,511,#[]⟩,⟨16,552,403,#[]⟩,⟨16,85,86,#[]⟩,⟨2,217,69,#[]⟩,⟨2,210,211,#[]⟩,⟨18,234,235,#[]⟩] 1056 4 #[444,48] #[⟨0,17,14,#[]⟩,⟨0,24,25,#[]⟩,⟨0,75,21,#[]⟩,⟨0,81,82,#[]⟩,⟨26,13,14,#[]⟩])
  fields := #[⟨"value",(.array .byte),0,0,0⟩,⟨"coder",.byte,0,1,0⟩,⟨"maybeLatin1",.boolean,0,2,0⟩,⟨"count",.int,0,3,0⟩,⟨"EMPTYVALUE",(.array .byte),26,0,0⟩]
  methods := #[k11m0,k11m1,k11m2,k11m3,k11m4,k11m5,k11m6,k11m7,k11m8,k11m9,k11m10,k11m11,k11m12,k11m13]
  instanceTypes := #[(.array .byte),.byte,.boolean,.int]
  staticTypes := #[(.array .byte)]
  resolved := Array.replicate 609 none
  statics := none }
def pool12 : Array CpInfo := pool [(1,.methodref 2 3),(0,.class_ 4),(0,.nameAndType 5 6),(0,u "java/lang/AbstractStringBuilder"),(0,u "<init>"),(0,u "(I)V"),(11,.class_ 20),(1,u "java/lang/String"),(3,.class_ 26),(1,u "java/lang/StringBuilder"),(0,u "append"),(0,u "(Ljava/lang/String;)Ljava/lang/StringBuilder;"),(0,.methodref 2 30),(0,.nameAndType 27 31),(0,u "(Ljava/lang/String;)Ljava/lang/AbstractStringBuilder;"),(6,.methodref 2 39),(0,.nameAndType 27 40),(0,u "(Ljava/lang/CharSequence;II)Ljava/lang/AbstractStringBuilder;"),(9,.methodref 2 51),(0,.nameAndType 27 52),(0,u "(C)Ljava/lang/AbstractStringBuilder;"),(0,.methodref 2 54),(0,.nameAndType 27 55),(0,u "(I)Ljava/lang/AbstractStringBuilder;"),(81,.methodref 18 138),(0,.nameAndType 5 139),(0,u "(Ljava/lang/StringBuilder;)V"),(5,u "()V"),(10,u "()I"),(111,u "(I)Ljava/lang/StringBuilder;"),(17,u "(C)Ljava/lang/StringBuilder;"),(11,u "(Ljava/lang/CharSequence;II)Ljava/lang/StringBuilder;"),(44,.methodref 2 344),(0,.nameAndType 345 156),(0,u "length"),(3,.class_ 350),(0,u "java/lang/Appendable"),(0,.class_ 352),(0,u "java/io/Serializable"),(0,.class_ 354),(0,u "java/lang/Comparable"),(0,.class_ 356),(0,u "java/lang/CharSequence"),(0,u "serialVersionUID"),(0,u "J"),(40,u "toString"),(0,u "()Ljava/lang/String;")] 21
def k12m0 : Method := ⟨"<init>", "()V",⟨[],none⟩,1,none⟩
def k12c1 : Code := ⟨2,2,jdk_67_method_2_code,#[],#[]⟩
def k12m1 : Method := ⟨"<init>", "(I)V",⟨[.int],none⟩,1,some k12c1⟩
def k12c2 : Code := ⟨2,2,jdk_67_method_7_code,#[],#[]⟩
def k12m2 : Method := ⟨"append", "(Ljava/lang/String;)Ljava/lang/StringBuilder;",⟨[(.object "java/lang/String")],some (.object "java/lang/StringBuilder")⟩,1,some k12c2⟩
def k12c3 : Code := ⟨4,4,jdk_67_method_10_code,#[],#[]⟩
def k12m3 : Method := ⟨"append", "(Ljava/lang/CharSequence;II)Ljava/lang/StringBuilder;",⟨[(.object "java/lang/CharSequence"),.int,.int],some (.object "java/lang/StringBuilder")⟩,1,some k12c3⟩
def k12c4 : Code := ⟨2,2,jdk_67_method_14_code,#[],#[]⟩
def k12m4 : Method := ⟨"append", "(C)Ljava/lang/StringBuilder;",⟨[.char],some (.object "java/lang/StringBuilder")⟩,1,some k12c4⟩
def k12c5 : Code := ⟨2,2,jdk_67_method_15_code,#[],#[]⟩
def k12m5 : Method := ⟨"append", "(I)Ljava/lang/StringBuilder;",⟨[.int],some (.object "java/lang/StringBuilder")⟩,1,some k12c5⟩
def k12c6 : Code := ⟨3,1,jdk_67_method_42_code,#[],#[]⟩
def k12m6 : Method := ⟨"toString", "()Ljava/lang/String;",⟨[],some (.object "java/lang/String")⟩,1,some k12c6⟩
def k12c7 : Code := ⟨1,1,jdk_67_method_93_code,#[],#[]⟩
def k12m7 : Method := ⟨"length", "()I",⟨[],some .int⟩,4161,some k12c7⟩
def k12 : Class := { plain "java/lang/StringBuilder" (some 11) with
  accessFlags := 49
  interfaces := #[10,2,3,4]
  cf := some (fileOf pool12 24 #[] #[⟨1,5,145,#[]⟩,⟨1,5,6,#[]⟩,⟨1,27,28,#[]⟩,⟨1,27,298,#[]⟩,⟨1,27,286,#[]⟩,⟨1,27,268,#[]⟩,⟨1,399,400,#[]⟩,⟨4161,345,156,#[]⟩] 49 2 #[349,351,353,355] #[⟨24,357,358,#[]⟩])
  fields := #[⟨"serialVersionUID",.long,24,0,0⟩]
  methods := #[k12m0,k12m1,k12m2,k12m3,k12m4,k12m5,k12m6,k12m7]
  instanceTypes := #[(.array .byte),.byte,.boolean,.int]
  staticTypes := #[.long]
  resolved := Array.replicate 422 none
  statics := none }
def pool13 : Array CpInfo := pool [(1,.class_ 2),(0,u "java/lang/String"),(1,.class_ 6),(1,u "java/lang/Object"),(0,u "<init>"),(0,u "()V"),(0,.methodref 1 10),(0,.nameAndType 11 12),(0,u "checkIndex"),(0,u "(II)V"),(1,.class_ 16),(1,u "java/lang/StringLatin1"),(0,u "inflate"),(2,.class_ 22),(1,u "java/lang/StringUTF16"),(3,.nameAndType 17 27),(0,u "([BI[BII)V"),(25,u "([BI)C"),(36,u "canEncode"),(14,u "(C)Z"),(15,u "$assertionsDisabled"),(0,u "Z"),(98,.class_ 223),(1,u "java/lang/StringLatin1$LinesSpliterator"),(16,.methodref 20 26),(11,u "charAt"),(28,u "equals"),(0,u "([B[B)Z"),(107,.class_ 391),(0,u "java/lang/StringLatin1$CharsSpliterator")] 3
def k13m0 : Method := ⟨"<init>", "()V",⟨[],none⟩,0,none⟩
def k13c1 : Code := ⟨2,2,jdk_43_method_2_code,#[],#[]⟩
def k13m1 : Method := ⟨"charAt", "([BI)C",⟨[(.array .byte),.int],some .char⟩,9,some k13c1⟩
def k13c2 : Code := ⟨2,1,jdk_43_method_3_code,#[],#[]⟩
def k13m2 : Method := ⟨"canEncode", "(C)Z",⟨[.char],some .boolean⟩,9,some k13c2⟩
def k13c3 : Code := ⟨3,3,jdk_43_method_13_code,#[],#[]⟩
def k13m3 : Method := ⟨"equals", "([B[B)Z",⟨[(.array .byte),(.array .byte)],some .boolean⟩,9,some k13c3⟩
def k13c4 : Code := ⟨5,5,jdk_43_method_50_code,#[],#[]⟩
def k13m4 : Method := ⟨"inflate", "([BI[BII)V",⟨[(.array .byte),.int,(.array .byte),.int,.int],none⟩,9,some k13c4⟩
def k13 : Class := { plain "java/lang/StringLatin1" (some 0) with
  accessFlags := 48
  cf := some (fileOf pool13 14 #[.nestMembers #[390,221]] #[⟨0,7,8,#[]⟩,⟨9,252,53,#[]⟩,⟨9,90,105,#[]⟩,⟨9,281,282,#[]⟩,⟨9,17,27,#[]⟩] 48 4 #[] #[⟨4120,121,122,#[]⟩])
  fields := #[⟨"$assertionsDisabled",.boolean,4120,0,0⟩]
  methods := #[k13m0,k13m1,k13m2,k13m3,k13m4]
  staticTypes := #[.boolean]
  resolved := Array.replicate 395 none
  statics := none }
def pool14 : Array CpInfo := pool [(2,.class_ 4),(1,u "java/lang/Object"),(0,u "<init>"),(0,u "()V"),(17,.class_ 26),(1,u "jdk/internal/util/Preconditions"),(6,u "checkIndex"),(13,u "checkFromToIndex"),(1,u "checkFromIndexSize"),(5,.class_ 56),(0,u "jdk/internal/util/Preconditions$4"),(57,.class_ 115),(0,u "jdk/internal/util/Preconditions$1"),(7,u "SIOOBE_FORMATTER"),(0,u "Ljava/util/function/BiFunction;"),(0,.class_ 126),(0,u "jdk/internal/util/Preconditions$2"),(3,u "AIOOBE_FORMATTER"),(0,.class_ 132),(0,u "jdk/internal/util/Preconditions$3"),(3,u "IOOBE_FORMATTER"),(41,u "(IILjava/util/function/BiFunction;)I"),(4,u "(IIILjava/util/function/BiFunction;)I")] 10
def k14m0 : Method := ⟨"<init>", "()V",⟨[],none⟩,1,none⟩
def k14c1 : Code := ⟨3,3,jdk_41_method_11_code,#[],#[]⟩
def k14m1 : Method := ⟨"checkIndex", "(IILjava/util/function/BiFunction;)I",⟨[.int,.int,(.object "java/util/function/BiFunction")],some .int⟩,9,some k14c1⟩
def k14c2 : Code := ⟨4,4,jdk_41_method_12_code,#[],#[]⟩
def k14m2 : Method := ⟨"checkFromToIndex", "(IIILjava/util/function/BiFunction;)I",⟨[.int,.int,.int,(.object "java/util/function/BiFunction")],some .int⟩,9,some k14c2⟩
def k14c3 : Code := ⟨4,4,jdk_41_method_13_code,#[],#[]⟩
def k14m3 : Method := ⟨"checkFromIndexSize", "(IIILjava/util/function/BiFunction;)I",⟨[.int,.int,.int,(.object "java/util/function/BiFunction")],some .int⟩,9,some k14c3⟩
def k14 : Class := { plain "jdk/internal/util/Preconditions" (some 0) with
  accessFlags := 33
  cf := some (fileOf pool14 24 #[.nestMembers #[55,131,125,114]] #[⟨1,5,6,#[]⟩,⟨9,33,178,#[]⟩,⟨9,47,183,#[]⟩,⟨9,49,183,#[]⟩] 33 2 #[] #[⟨25,123,124,#[]⟩,⟨25,130,124,#[]⟩,⟨25,136,124,#[]⟩])
  fields := #[⟨"SIOOBE_FORMATTER",(.object "java/util/function/BiFunction"),25,0,0⟩,⟨"AIOOBE_FORMATTER",(.object "java/util/function/BiFunction"),25,1,0⟩,⟨"IOOBE_FORMATTER",(.object "java/util/function/BiFunction"),25,2,0⟩]
  methods := #[k14m0,k14m1,k14m2,k14m3]
  staticTypes := #[(.object "java/util/function/BiFunction"),(.object "java/util/function/BiFunction"),(.object "java/util/function/BiFunction")]
  resolved := Array.replicate 194 none
  statics := some 2 }
def pool15 : Array CpInfo := pool [(1,.class_ 2),(0,u "java/lang/Character"),(18,u "value"),(0,u "C"),(19,.class_ 44),(1,u "java/lang/Object"),(3,.class_ 50),(1,u "java/lang/Character$CharacterCache"),(24,.integer 55296),(0,.integer 56320),(3,u "isHighSurrogate"),(0,u "(C)Z"),(202,u "$assertionsDisabled"),(0,u "Z"),(21,.class_ 309),(1,u "java/lang/Character$UnicodeBlock"),(73,u "TYPE"),(0,u "Ljava/lang/Class;"),(0,.class_ 386),(0,u "java/io/Serializable"),(0,.class_ 388),(0,u "java/lang/Comparable"),(0,.class_ 390),(0,u "java/lang/constant/Constable"),(0,u "MIN_RADIX"),(0,u "I"),(2,u "MAX_RADIX"),(1,u "MIN_VALUE"),(1,u "MAX_VALUE"),(3,u "UNASSIGNED"),(0,u "B"),(0,u "UPPERCASE_LETTER"),(1,u "LOWERCASE_LETTER"),(0,u "TITLECASE_LETTER"),(1,u "MODIFIER_LETTER"),(1,u "OTHER_LETTER"),(1,u "NON_SPACING_MARK"),(1,u "ENCLOSING_MARK"),(1,u "COMBINING_SPACING_MARK"),(1,u "DECIMAL_DIGIT_NUMBER"),(1,u "LETTER_NUMBER"),(1,u "OTHER_NUMBER"),(1,u "SPACE_SEPARATOR"),(1,u "LINE_SEPARATOR"),(1,u "PARAGRAPH_SEPARATOR"),(1,u "CONTROL"),(1,u "FORMAT"),(1,u "PRIVATE_USE"),(1,u "SURROGATE"),(1,u "DASH_PUNCTUATION"),(1,u "START_PUNCTUATION"),(1,u "END_PUNCTUATION"),(1,u "CONNECTOR_PUNCTUATION"),(1,u "OTHER_PUNCTUATION"),(1,u "MATH_SYMBOL"),(1,u "CURRENCY_SYMBOL"),(1,u "MODIFIER_SYMBOL"),(1,u "OTHER_SYMBOL"),(1,u "INITIAL_QUOTE_PUNCTUATION"),(1,u "FINAL_QUOTE_PUNCTUATION"),(1,u "ERROR"),(1,u "DIRECTIONALITY_UNDEFINED"),(0,u "DIRECTIONALITY_LEFT_TO_RIGHT"),(0,u "DIRECTIONALITY_RIGHT_TO_LEFT"),(0,u "DIRECTIONALITY_RIGHT_TO_LEFT_ARABIC"),(0,u "DIRECTIONALITY_EUROPEAN_NUMBER"),(0,u "DIRECTIONALITY_EUROPEAN_NUMBER_SEPARATOR"),(0,u "DIRECTIONALITY_EUROPEAN_NUMBER_TERMINATOR"),(0,u "DIRECTIONALITY_ARABIC_NUMBER"),(0,u "DIRECTIONALITY_COMMON_NUMBER_SEPARATOR"),(0,u "DIRECTIONALITY_NONSPACING_MARK"),(0,u "DIRECTIONALITY_BOUNDARY_NEUTRAL"),(0,u "DIRECTIONALITY_PARAGRAPH_SEPARATOR"),(0,u "DIRECTIONALITY_SEGMENT_SEPARATOR"),(0,u "DIRECTIONALITY_WHITESPACE"),(0,u "DIRECTIONALITY_OTHER_NEUTRALS"),(0,u "DIRECTIONALITY_LEFT_TO_RIGHT_EMBEDDING"),(0,u "DIRECTIONALITY_LEFT_TO_RIGHT_OVERRIDE"),(0,u "DIRECTIONALITY_RIGHT_TO_LEFT_EMBEDDING"),(0,u "DIRECTIONALITY_RIGHT_TO_LEFT_OVERRIDE"),(1,u "DIRECTIONALITY_POP_DIRECTIONAL_FORMAT"),(0,u "DIRECTIONALITY_LEFT_TO_RIGHT_ISOLATE"),(0,u "DIRECTIONALITY_RIGHT_TO_LEFT_ISOLATE"),(0,u "DIRECTIONALITY_FIRST_STRONG_ISOLATE"),(0,u "DIRECTIONALITY_POP_DIRECTIONAL_ISOLATE"),(0,u "MIN_HIGH_SURROGATE"),(0,u "MAX_HIGH_SURROGATE"),(1,u "MIN_LOW_SURROGATE"),(0,u "MAX_LOW_SURROGATE"),(1,u "MIN_SURROGATE"),(0,u "MAX_SURROGATE"),(0,u "MIN_SUPPLEMENTARY_CODE_POINT"),(0,u "MIN_CODE_POINT"),(0,u "MAX_CODE_POINT"),(1,u "serialVersionUID"),(0,u "J"),(2,u "SIZE"),(0,u "BYTES"),(88,.class_ 596),(0,u "java/lang/Character$UnicodeScript"),(0,.class_ 598),(0,u "java/lang/Character$Subset")] 5
def k15c0 : Code := ⟨2,1,jdk_89_method_14_code,#[],#[]⟩
def k15m0 : Method := ⟨"isHighSurrogate", "(C)Z",⟨[.char],some .boolean⟩,9,some k15c0⟩
def k15 : Class := { plain "java/lang/Character" (some 0) with
  accessFlags := 49
  interfaces := #[2,3,5]
  cf := some (fileOf pool15 1 #[.nestMembers #[48,595,307,597]] #[⟨9,80,81,#[]⟩] 49 42 #[385,387,389] #[⟨25,391,392,#[]⟩,⟨25,395,392,#[]⟩,⟨25,397,22,#[]⟩,⟨25,399,22,#[]⟩,⟨25,383,384,#[]⟩,⟨25,403,404,#[]⟩,⟨25,405,404,#[]⟩,⟨25,407,404,#[]⟩,⟨25,408,404,#[]⟩,⟨25,410,404,#[]⟩,⟨25,412,404,#[]⟩,⟨25,414,404,#[]⟩,⟨25,416,404,#[]⟩,⟨25,418,404,#[]⟩,⟨25,420,404,#[]⟩,⟨25,422,404,#[]⟩,⟨25,424,404,#[]⟩,⟨25,426,404,#[]⟩,⟨25,428,404,#[]⟩,⟨25,430,404,#[]⟩,⟨25,432,404,#[]⟩,⟨25,434,404,#[]⟩,⟨25,436,404,#[]⟩,⟨25,438,404,#[]⟩,⟨25,440,404,#[]⟩,⟨25,442,404,#[]⟩,⟨25,444,404,#[]⟩,⟨25,446,404,#[]⟩,⟨25,448,404,#[]⟩,⟨25,450,404,#[]⟩,⟨25,452,404,#[]⟩,⟨25,454,404,#[]⟩,⟨25,456,404,#[]⟩,⟨25,458,404,#[]⟩,⟨25,460,404,#[]⟩,⟨24,462,392,#[]⟩,⟨25,464,404,#[]⟩,⟨25,465,404,#[]⟩,⟨25,466,404,#[]⟩,⟨25,467,404,#[]⟩,⟨25,468,404,#[]⟩,⟨25,469,404,#[]⟩,⟨25,470,404,#[]⟩,⟨25,471,404,#[]⟩,⟨25,472,404,#[]⟩,⟨25,473,404,#[]⟩,⟨25,474,404,#[]⟩,⟨25,475,404,#[]⟩,⟨25,476,404,#[]⟩,⟨25,477,404,#[]⟩,⟨25,478,404,#[]⟩,⟨25,479,404,#[]⟩,⟨25,480,404,#[]⟩,⟨25,481,404,#[]⟩,⟨25,482,404,#[]⟩,⟨25,484,404,#[]⟩,⟨25,485,404,#[]⟩,⟨25,486,404,#[]⟩,⟨25,487,404,#[]⟩,⟨25,488,404,#[]⟩,⟨25,489,22,#[]⟩,⟨25,490,22,#[]⟩,⟨25,492,22,#[]⟩,⟨25,493,22,#[]⟩,⟨25,495,22,#[]⟩,⟨25,496,22,#[]⟩,⟨25,497,392,#[]⟩,⟨25,498,392,#[]⟩,⟨25,499,392,#[]⟩,⟨18,21,22,#[]⟩,⟨26,501,502,#[]⟩,⟨25,505,392,#[]⟩,⟨25,506,392,#[]⟩,⟨4120,284,285,#[]⟩])
  fields := #[⟨"MIN_RADIX",.int,25,0,0⟩,⟨"MAX_RADIX",.int,25,1,0⟩,⟨"MIN_VALUE",.char,25,2,0⟩,⟨"MAX_VALUE",.char,25,3,0⟩,⟨"TYPE",(.object "java/lang/Class"),25,4,0⟩,⟨"UNASSIGNED",.byte,25,5,0⟩,⟨"UPPERCASE_LETTER",.byte,25,6,0⟩,⟨"LOWERCASE_LETTER",.byte,25,7,0⟩,⟨"TITLECASE_LETTER",.byte,25,8,0⟩,⟨"MODIFIER_LETTER",.byte,25,9,0⟩,⟨"OTHER_LETTER",.byte,25,10,0⟩,⟨"NON_SPACING_MARK",.byte,25,11,0⟩,⟨"ENCLOSING_MARK",.byte,25,12,0⟩,⟨"COMBINING_SPACING_MARK",.byte,25,13,0⟩,⟨"DECIMAL_DIGIT_NUMBER",.byte,25,14,0⟩,⟨"LETTER_NUMBER",.byte,25,15,0⟩,⟨"OTHER_NUMBER",.byte,25,16,0⟩,⟨"SPACE_SEPARATOR",.byte,25,17,0⟩,⟨"LINE_SEPARATOR",.byte,25,18,0⟩,⟨"PARAGRAPH_SEPARATOR",.byte,25,19,0⟩,⟨"CONTROL",.byte,25,20,0⟩,⟨"FORMAT",.byte,25,21,0⟩,⟨"PRIVATE_USE",.byte,25,22,0⟩,⟨"SURROGATE",.byte,25,23,0⟩,⟨"DASH_PUNCTUATION",.byte,25,24,0⟩,⟨"START_PUNCTUATION",.byte,25,25,0⟩,⟨"END_PUNCTUATION",.byte,25,26,0⟩,⟨"CONNECTOR_PUNCTUATION",.byte,25,27,0⟩,⟨"OTHER_PUNCTUATION",.byte,25,28,0⟩,⟨"MATH_SYMBOL",.byte,25,29,0⟩,⟨"CURRENCY_SYMBOL",.byte,25,30,0⟩,⟨"MODIFIER_SYMBOL",.byte,25,31,0⟩,⟨"OTHER_SYMBOL",.byte,25,32,0⟩,⟨"INITIAL_QUOTE_PUNCTUATION",.byte,25,33,0⟩,⟨"FINAL_QUOTE_PUNCTUATION",.byte,25,34,0⟩,⟨"ERROR",.int,24,35,0⟩,⟨"DIRECTIONALITY_UNDEFINED",.byte,25,36,0⟩,⟨"DIRECTIONALITY_LEFT_TO_RIGHT",.byte,25,37,0⟩,⟨"DIRECTIONALITY_RIGHT_TO_LEFT",.byte,25,38,0⟩,⟨"DIRECTIONALITY_RIGHT_TO_LEFT_ARABIC",.byte,25,39,0⟩,⟨"DIRECTIONALITY_EUROPEAN_NUMBER",.byte,25,40,0⟩,⟨"DIRECTIONALITY_EUROPEAN_NUMBER_SEPARATOR",.byte,25,41,0⟩,⟨"DIRECTIONALITY_EUROPEAN_NUMBER_TERMINATOR",.byte,25,42,0⟩,⟨"DIRECTIONALITY_ARABIC_NUMBER",.byte,25,43,0⟩,⟨"DIRECTIONALITY_COMMON_NUMBER_SEPARATOR",.byte,25,44,0⟩,⟨"DIRECTIONALITY_NONSPACING_MARK",.byte,25,45,0⟩,⟨"DIRECTIONALITY_BOUNDARY_NEUTRAL",.byte,25,46,0⟩,⟨"DIRECTIONALITY_PARAGRAPH_SEPARATOR",.byte,25,47,0⟩,⟨"DIRECTIONALITY_SEGMENT_SEPARATOR",.byte,25,48,0⟩,⟨"DIRECTIONALITY_WHITESPACE",.byte,25,49,0⟩,⟨"DIRECTIONALITY_OTHER_NEUTRALS",.byte,25,50,0⟩,⟨"DIRECTIONALITY_LEFT_TO_RIGHT_EMBEDDING",.byte,25,51,0⟩,⟨"DIRECTIONALITY_LEFT_TO_RIGHT_OVERRIDE",.byte,25,52,0⟩,⟨"DIRECTIONALITY_RIGHT_TO_LEFT_EMBEDDING",.byte,25,53,0⟩,⟨"DIRECTIONALITY_RIGHT_TO_LEFT_OVERRIDE",.byte,25,54,0⟩,⟨"DIRECTIONALITY_POP_DIRECTIONAL_FORMAT",.byte,25,55,0⟩,⟨"DIRECTIONALITY_LEFT_TO_RIGHT_ISOLATE",.byte,25,56,0⟩,⟨"DIRECTIONALITY_RIGHT_TO_LEFT_ISOLATE",.byte,25,57,0⟩,⟨"DIRECTIONALITY_FIRST_STRONG_ISOLATE",.byte,25,58,0⟩,⟨"DIRECTIONALITY_POP_DIRECTIONAL_ISOLATE",.byte,25,59,0⟩,⟨"MIN_HIGH_SURROGATE",.char,25,60,0⟩,⟨"MAX_HIGH_SURROGATE",.char,25,61,0⟩,⟨"MIN_LOW_SURROGATE",.char,25,62,0⟩,⟨"MAX_LOW_SURROGATE",.char,25,63,0⟩,⟨"MIN_SURROGATE",.char,25,64,0⟩,⟨"MAX_SURROGATE",.char,25,65,0⟩,⟨"MIN_SUPPLEMENTARY_CODE_POINT",.int,25,66,0⟩,⟨"MIN_CODE_POINT",.int,25,67,0⟩,⟨"MAX_CODE_POINT",.int,25,68,0⟩,⟨"value",.char,18,0,0⟩,⟨"serialVersionUID",.long,26,69,0⟩,⟨"SIZE",.int,25,70,0⟩,⟨"BYTES",.int,25,71,0⟩,⟨"$assertionsDisabled",.boolean,4120,72,0⟩]
  methods := #[k15m0]
  instanceTypes := #[.char]
  staticTypes := #[.int,.int,.char,.char,(.object "java/lang/Class"),.byte,.byte,.byte,.byte,.byte,.byte,.byte,.byte,.byte,.byte,.byte,.byte,.byte,.byte,.byte,.byte,.byte,.byte,.byte,.byte,.byte,.byte,.byte,.byte,.byte,.byte,.byte,.byte,.byte,.byte,.int,.byte,.byte,.byte,.byte,.byte,.byte,.byte,.byte,.byte,.byte,.byte,.byte,.byte,.byte,.byte,.byte,.byte,.byte,.byte,.byte,.byte,.byte,.byte,.byte,.char,.char,.char,.char,.char,.char,.int,.int,.int,.long,.int,.int,.boolean]
  resolved := Array.replicate 604 none
  statics := none }
def pool16 : Array CpInfo := pool [(2,.class_ 4),(1,u "java/lang/Object"),(0,u "<init>"),(0,u "()V"),(1,.class_ 10),(1,u "java/lang/System"),(0,u "allowSecurityManager"),(0,u "I"),(16,u "cons"),(0,u "Ljava/io/Console;"),(77,.class_ 110),(1,u "java/lang/System$CallersHolder"),(43,u "initialErrStream"),(0,u "Ljava/io/PrintStream;"),(19,u "security"),(0,u "Ljava/lang/SecurityManager;"),(31,.class_ 209),(0,u "java/lang/System$1"),(7,u "props"),(0,u "Ljava/util/Properties;"),(2,u "lineSeparator"),(0,u "Ljava/lang/String;"),(96,.class_ 321),(1,u "java/lang/System$LoggerFinder"),(5,.class_ 328),(0,u "java/lang/System$Logger"),(67,u "err"),(2,u "out"),(91,u "notSupportedJnuEncoding"),(15,u "in"),(17,u "initialIn"),(0,u "Ljava/io/InputStream;"),(35,u "bootLayer"),(0,u "Ljava/lang/ModuleLayer;"),(99,.class_ 664),(0,u "java/lang/System$2"),(9,u "NEVER"),(2,u "MAYBE"),(49,u "arraycopy"),(0,u "(Ljava/lang/Object;ILjava/lang/Object;II)V"),(72,.class_ 802),(0,u "java/lang/System$Logger$Level")] 31
def k16m0 : Method := ⟨"<init>", "()V",⟨[],none⟩,2,none⟩
def k16m1 : Method := ⟨"arraycopy", "(Ljava/lang/Object;ILjava/lang/Object;II)V",⟨[(.object "java/lang/Object"),.int,(.object "java/lang/Object"),.int,.int],none⟩,265,none⟩
def k16 : Class := { plain "java/lang/System" (some 0) with
  accessFlags := 49
  cf := some (fileOf pool16 8 #[.nestMembers #[319,327,801,108,663,208]] #[⟨2,5,6,#[]⟩,⟨265,727,728,#[]⟩] 49 2 #[] #[⟨25,507,526,#[]⟩,⟨25,399,155,#[]⟩,⟨25,396,155,#[]⟩,⟨10,525,526,#[]⟩,⟨26,674,12,#[]⟩,⟨26,677,12,#[]⟩,⟨10,11,12,#[]⟩,⟨74,175,176,#[]⟩,⟨10,491,222,#[]⟩,⟨74,29,30,#[]⟩,⟨74,154,155,#[]⟩,⟨10,217,218,#[]⟩,⟨10,221,222,#[]⟩,⟨8,562,563,#[]⟩])
  fields := #[⟨"in",(.object "java/io/InputStream"),25,0,0⟩,⟨"out",(.object "java/io/PrintStream"),25,1,0⟩,⟨"err",(.object "java/io/PrintStream"),25,2,0⟩,⟨"initialIn",(.object "java/io/InputStream"),10,3,0⟩,⟨"NEVER",.int,26,4,0⟩,⟨"MAYBE",.int,26,5,0⟩,⟨"allowSecurityManager",.int,10,6,0⟩,⟨"security",(.object "java/lang/SecurityManager"),74,7,0⟩,⟨"notSupportedJnuEncoding",(.object "java/lang/String"),10,8,0⟩,⟨"cons",(.object "java/io/Console"),74,9,0⟩,⟨"initialErrStream",(.object "java/io/PrintStream"),74,10,0⟩,⟨"props",(.object "java/util/Properties"),10,11,0⟩,⟨"lineSeparator",(.object "java/lang/String"),10,12,0⟩,⟨"bootLayer",(.object "java/lang/ModuleLayer"),8,13,0⟩]
  methods := #[k16m0,k16m1]
  staticTypes := #[(.object "java/io/InputStream"),(.object "java/io/PrintStream"),(.object "java/io/PrintStream"),(.object "java/io/InputStream"),.int,.int,.int,(.object "java/lang/SecurityManager"),(.object "java/lang/String"),(.object "java/io/Console"),(.object "java/io/PrintStream"),(.object "java/util/Properties"),(.object "java/lang/String"),(.object "java/lang/ModuleLayer")]
  resolved := Array.replicate 834 none
  statics := none }
def pool17 : Array CpInfo := pool [(2,.class_ 4),(1,u "java/lang/Object"),(0,u "<init>"),(0,u "()V"),(1,.class_ 10),(1,u "java/lang/Number"),(2,.class_ 14),(0,u "java/io/Serializable"),(0,u "serialVersionUID"),(0,u "J")] 20
def k17m0 : Method := ⟨"<init>", "()V",⟨[],none⟩,1,none⟩
def k17 : Class := { plain "java/lang/Number" (some 0) with
  accessFlags := 1057
  interfaces := #[2]
  cf := some (fileOf pool17 8 #[] #[⟨1,5,6,#[]⟩] 1057 2 #[13] #[⟨26,15,16,#[]⟩])
  fields := #[⟨"serialVersionUID",.long,26,0,0⟩]
  methods := #[k17m0]
  staticTypes := #[.long]
  resolved := Array.replicate 37 none
  statics := none }
def pool18 : Array CpInfo := pool [(1,.class_ 2),(0,u "java/lang/Integer"),(16,u "digits"),(0,u "[C"),(33,u "(I)I"),(19,u "stringSize"),(2,u "getChars"),(0,u "(II[B)I"),(4,.fieldref 1 84),(0,.nameAndType 85 86),(0,u "DigitOnes"),(0,u "[B"),(0,.fieldref 1 88),(0,.nameAndType 89 86),(0,u "DigitTens"),(99,.class_ 190),(0,u "java/lang/Integer$IntegerCache"),(3,u "I"),(8,.class_ 204),(0,u "java/lang/Number"),(2,u "value"),(94,u "TYPE"),(0,u "Ljava/lang/Class;"),(0,.class_ 305),(0,u "java/lang/Comparable"),(0,.class_ 307),(0,u "java/lang/constant/Constable"),(0,.class_ 309),(0,u "java/lang/constant/ConstantDesc"),(0,u "MIN_VALUE"),(1,u "MAX_VALUE"),(3,u "SIZE"),(1,u "BYTES"),(1,u "serialVersionUID"),(0,u "J")] 131
def k18c0 : Code := ⟨4,7,jdk_33_method_12_code,#[],#[]⟩
def k18m0 : Method := ⟨"getChars", "(II[B)I",⟨[.int,.int,(.array .byte)],some .int⟩,8,some k18c0⟩
def k18c1 : Code := ⟨2,4,jdk_33_method_13_code,#[],#[]⟩
def k18m1 : Method := ⟨"stringSize", "(I)I",⟨[.int],some .int⟩,8,some k18c1⟩
def k18 : Class := { plain "java/lang/Integer" (some 17) with
  accessFlags := 49
  interfaces := #[3,5,6]
  cf := some (fileOf pool18 1 #[.nestMembers #[189]] #[⟨8,77,78,#[]⟩,⟨8,74,54,#[]⟩] 49 203 #[304,306,308] #[⟨25,310,194,#[]⟩,⟨25,312,194,#[]⟩,⟨25,302,303,#[]⟩,⟨24,19,20,#[]⟩,⟨24,89,86,#[]⟩,⟨24,85,86,#[]⟩,⟨18,207,194,#[]⟩,⟨25,316,194,#[]⟩,⟨25,318,194,#[]⟩,⟨26,320,321,#[]⟩])
  fields := #[⟨"MIN_VALUE",.int,25,0,0⟩,⟨"MAX_VALUE",.int,25,1,0⟩,⟨"TYPE",(.object "java/lang/Class"),25,2,0⟩,⟨"digits",(.array .char),24,3,0⟩,⟨"DigitTens",(.array .byte),24,4,0⟩,⟨"DigitOnes",(.array .byte),24,5,0⟩,⟨"value",.int,18,0,0⟩,⟨"SIZE",.int,25,6,0⟩,⟨"BYTES",.int,25,7,0⟩,⟨"serialVersionUID",.long,26,8,0⟩]
  methods := #[k18m0,k18m1]
  instanceTypes := #[.int]
  staticTypes := #[.int,.int,(.object "java/lang/Class"),(.array .char),(.array .byte),(.array .byte),.int,.int,.long]
  resolved := Array.replicate 453 none
  statics := some 3 }
def pool19 : Array CpInfo := pool [(2,.class_ 4),(1,u "java/lang/Object"),(0,u "<init>"),(0,u "()V"),(7,.class_ 16),(1,u "java/util/Arrays"),(57,.class_ 76),(1,u "java/util/Arrays$NaturalOrder"),(36,.class_ 115),(1,u "java/util/Arrays$LegacyMergeSort"),(1,u "Z"),(21,u "copyOfRange"),(10,.methodref 151 152),(0,.class_ 153),(0,.nameAndType 154 155),(0,u "java/lang/System"),(0,u "arraycopy"),(0,u "(Ljava/lang/Object;ILjava/lang/Object;II)V"),(148,.methodref 305 306),(0,.class_ 307),(0,.nameAndType 308 309),(0,u "java/lang/Math"),(0,u "min"),(0,u "(II)I"),(29,.methodref 14 340),(0,.nameAndType 341 342),(0,u "copyOfRangeByte"),(0,u "([BII)[B"),(0,.methodref 14 344),(0,.nameAndType 345 346),(0,u "checkLength"),(0,u "(II)V"),(28,.class_ 376),(0,u "java/util/Arrays$ArrayList"),(68,u "$assertionsDisabled"),(269,u "MIN_ARRAY_SORT_GRAN"),(0,u "I"),(2,u "INSERTIONSORT_THRESHOLD"),(255,.class_ 976),(0,u "java/util/Arrays$ArrayItr")] 52
def k19m0 : Method := ⟨"<init>", "()V",⟨[],none⟩,2,none⟩
def k19c1 : Code := ⟨4,2,jdk_65_method_131_code,#[],#[]⟩
def k19m1 : Method := ⟨"checkLength", "(II)V",⟨[.int,.int],none⟩,10,some k19c1⟩
def k19c2 : Code := ⟨3,3,jdk_65_method_132_code,#[],#[]⟩
def k19m2 : Method := ⟨"copyOfRange", "([BII)[B",⟨[(.array .byte),.int,.int],some (.array .byte)⟩,9,some k19c2⟩
def k19c3 : Code := ⟨6,5,jdk_65_method_133_code,#[],#[]⟩
def k19m3 : Method := ⟨"copyOfRangeByte", "([BII)[B",⟨[(.array .byte),.int,.int],some (.array .byte)⟩,10,some k19c3⟩
def k19 : Class := { plain "java/util/Arrays" (some 0) with
  accessFlags := 49
  cf := some (fileOf pool19 14 #[.nestMembers #[975,375,113,74]] #[⟨2,5,6,#[]⟩,⟨10,345,346,#[]⟩,⟨9,139,342,#[]⟩,⟨10,341,342,#[]⟩] 49 2 #[] #[⟨26,715,716,#[]⟩,⟨26,719,716,#[]⟩,⟨4120,445,117,#[]⟩])
  fields := #[⟨"MIN_ARRAY_SORT_GRAN",.int,26,0,0⟩,⟨"INSERTIONSORT_THRESHOLD",.int,26,1,0⟩,⟨"$assertionsDisabled",.boolean,4120,2,0⟩]
  methods := #[k19m0,k19m1,k19m2,k19m3]
  staticTypes := #[.int,.int,.boolean]
  resolved := Array.replicate 1029 none
  statics := none }
def pool20 : Array CpInfo := pool [(1,.class_ 2),(0,u "java/lang/Math"),(1,.class_ 6),(1,u "java/lang/Object"),(0,u "<init>"),(0,u "()V"),(89,.class_ 100),(1,u "java/lang/Math$RandomNumberGeneratorHolder"),(71,u "negativeZeroFloatBits"),(0,u "J"),(2,u "negativeZeroDoubleBits"),(24,u "min"),(43,u "$assertionsDisabled"),(0,u "Z"),(88,u "(II)I"),(2,u "twoToTheDoubleScaleDown"),(0,u "D"),(4,u "twoToTheDoubleScaleUp"),(9,u "E"),(3,u "PI"),(2,u "TAU"),(2,u "DEGREES_TO_RADIANS"),(0,u "RADIANS_TO_DEGREES")] 94
def k20m0 : Method := ⟨"<init>", "()V",⟨[],none⟩,2,none⟩
def k20c1 : Code := ⟨2,2,jdk_29_method_69_code,#[],#[]⟩
def k20m1 : Method := ⟨"min", "(II)I",⟨[.int,.int],some .int⟩,9,some k20c1⟩
def k20 : Class := { plain "java/lang/Math" (some 0) with
  accessFlags := 49
  cf := some (fileOf pool20 1 #[.nestMembers #[98]] #[⟨2,7,8,#[]⟩,⟨9,201,335,#[]⟩] 49 4 #[] #[⟨25,354,339,#[]⟩,⟨25,358,339,#[]⟩,⟨25,361,339,#[]⟩,⟨26,364,339,#[]⟩,⟨26,365,339,#[]⟩,⟨26,172,173,#[]⟩,⟨26,176,173,#[]⟩,⟨8,344,339,#[]⟩,⟨8,338,339,#[]⟩,⟨4120,245,246,#[]⟩])
  fields := #[⟨"E",.double,25,0,0⟩,⟨"PI",.double,25,1,0⟩,⟨"TAU",.double,25,2,0⟩,⟨"DEGREES_TO_RADIANS",.double,26,3,0⟩,⟨"RADIANS_TO_DEGREES",.double,26,4,0⟩,⟨"negativeZeroFloatBits",.long,26,5,0⟩,⟨"negativeZeroDoubleBits",.long,26,6,0⟩,⟨"twoToTheDoubleScaleUp",.double,8,7,0⟩,⟨"twoToTheDoubleScaleDown",.double,8,8,0⟩,⟨"$assertionsDisabled",.boolean,4120,9,0⟩]
  methods := #[k20m0,k20m1]
  staticTypes := #[.double,.double,.double,.double,.double,.long,.long,.double,.double,.boolean]
  resolved := Array.replicate 460 none
  statics := none }
def pool21 : Array CpInfo := pool [(9,u "<init>"),(6,.class_ 18),(1,u "java/lang/Object"),(0,u "()V"),(1,.class_ 23),(1,u "jdk/internal/util/ArraysSupport"),(0,u "LOG2_ARRAY_LONG_INDEX_SCALE"),(0,u "I"),(2,u "U"),(0,u "Ljdk/internal/misc/Unsafe;"),(8,u "BIG_ENDIAN"),(0,u "Z"),(8,u "LOG2_BYTE_BIT_SIZE"),(4,u "LOG2_ARRAY_INT_INDEX_SCALE"),(54,u "JLA"),(0,u "Ljdk/internal/access/JavaLangAccess;"),(11,u "LOG2_ARRAY_BOOLEAN_INDEX_SCALE"),(9,u "LOG2_ARRAY_BYTE_INDEX_SCALE"),(5,u "LOG2_ARRAY_CHAR_INDEX_SCALE"),(5,u "LOG2_ARRAY_SHORT_INDEX_SCALE"),(18,u "LOG2_ARRAY_FLOAT_INDEX_SCALE"),(24,u "LOG2_ARRAY_DOUBLE_INDEX_SCALE"),(89,u "T_BOOLEAN"),(2,u "T_CHAR"),(1,u "T_FLOAT"),(1,u "T_DOUBLE"),(1,u "T_BYTE"),(1,u "T_SHORT"),(1,u "T_INT"),(1,u "T_LONG"),(1,u "SOFT_MAX_ARRAY_LENGTH")] 83
def k21m0 : Method := ⟨"<init>", "()V",⟨[],none⟩,2,none⟩
def k21 : Class := { plain "jdk/internal/util/ArraysSupport" (some 0) with
  accessFlags := 33
  cf := some (fileOf pool21 21 #[] #[⟨2,9,19,#[]⟩] 33 16 #[] #[⟨24,28,29,#[]⟩,⟨26,38,39,#[]⟩,⟨25,121,25,#[]⟩,⟨25,131,25,#[]⟩,⟨25,137,25,#[]⟩,⟨25,143,25,#[]⟩,⟨25,53,25,#[]⟩,⟨25,24,25,#[]⟩,⟨25,162,25,#[]⟩,⟨25,187,25,#[]⟩,⟨26,48,25,#[]⟩,⟨25,277,25,#[]⟩,⟨25,280,25,#[]⟩,⟨25,282,25,#[]⟩,⟨25,284,25,#[]⟩,⟨25,286,25,#[]⟩,⟨25,288,25,#[]⟩,⟨25,290,25,#[]⟩,⟨25,292,25,#[]⟩,⟨26,108,109,#[]⟩,⟨25,294,25,#[]⟩])
  fields := #[⟨"U",(.object "jdk/internal/misc/Unsafe"),24,0,0⟩,⟨"BIG_ENDIAN",.boolean,26,1,0⟩,⟨"LOG2_ARRAY_BOOLEAN_INDEX_SCALE",.int,25,2,0⟩,⟨"LOG2_ARRAY_BYTE_INDEX_SCALE",.int,25,3,0⟩,⟨"LOG2_ARRAY_CHAR_INDEX_SCALE",.int,25,4,0⟩,⟨"LOG2_ARRAY_SHORT_INDEX_SCALE",.int,25,5,0⟩,⟨"LOG2_ARRAY_INT_INDEX_SCALE",.int,25,6,0⟩,⟨"LOG2_ARRAY_LONG_INDEX_SCALE",.int,25,7,0⟩,⟨"LOG2_ARRAY_FLOAT_INDEX_SCALE",.int,25,8,0⟩,⟨"LOG2_ARRAY_DOUBLE_INDEX_SCALE",.int,25,9,0⟩,⟨"LOG2_BYTE_BIT_SIZE",.int,26,10,0⟩,⟨"T_BOOLEAN",.int,25,11,0⟩,⟨"T_CHAR",.int,25,12,0⟩,⟨"T_FLOAT",.int,25,13,0⟩,⟨"T_DOUBLE",.int,25,14,0⟩,⟨"T_BYTE",.int,25,15,0⟩,⟨"T_SHORT",.int,25,16,0⟩,⟨"T_INT",.int,25,17,0⟩,⟨"T_LONG",.int,25,18,0⟩,⟨"JLA",(.object "jdk/internal/access/JavaLangAccess"),26,19,0⟩,⟨"SOFT_MAX_ARRAY_LENGTH",.int,25,20,0⟩]
  methods := #[k21m0]
  staticTypes := #[(.object "jdk/internal/misc/Unsafe"),.boolean,.int,.int,.int,.int,.int,.int,.int,.int,.int,.int,.int,.int,.int,.int,.int,.int,.int,(.object "jdk/internal/access/JavaLangAccess"),.int]
  resolved := Array.replicate 378 none
  statics := none }
def pool22 : Array CpInfo := pool [(1,u "java/lang/Cloneable"),(0,.class_ 1),(0,u "java/lang/Object"),(0,.class_ 3)] 3
def k22 : Class := { plain "java/lang/Cloneable" (some 0) with
  accessFlags := 1537
  cf := some (fileOf pool22 2 #[] #[] 1537 4 #[] #[])
  resolved := Array.replicate 8 none
  statics := none }
def k23 : Class := { plain "byte" none with kind := .primitive 'B',accessFlags := 0x411 }
def k24 : Class := { plain "[B" (some 0) with kind := .array 23 .byte,interfaces := #[22,2],accessFlags := 1041 }
def k25 : Class := { plain "char" none with kind := .primitive 'C',accessFlags := 0x411 }
def k26 : Class := { plain "[C" (some 0) with kind := .array 25 .char,interfaces := #[22,2],accessFlags := 1041 }
def k27 : Class := { plain "int" none with kind := .primitive 'I',accessFlags := 0x411 }
def k28 : Class := { plain "[I" (some 0) with kind := .array 27 .int,interfaces := #[22,2],accessFlags := 1041 }
def heap : Heap := #[{ cls := 7,slots := #[.long 0,.int 1,.null,.int 0,.null,.int 0,.int 0],vm := .statics 7 },
  { cls := 9,slots := #[.int 0,.int 8,.int 0,.int 1],vm := .statics 9 },
  { cls := 14,slots := #[.null,.null,.null],vm := .statics 14 },
  { cls := 18,slots := #[.int 0,.int 0,.null,.null,.ref 5,.ref 4,.int 0,.int 0,.long 0],vm := .statics 18 },
  { cls := 24,slots := #[.int 48,.int 49,.int 50,.int 51,.int 52,.int 53,.int 54,.int 55,.int 56,.int 57,.int 48,.int 49,.int 50,.int 51,.int 52,.int 53,.int 54,.int 55,.int 56,.int 57,.int 48,.int 49,.int 50,.int 51,.int 52,.int 53,.int 54,.int 55,.int 56,.int 57,.int 48,.int 49,.int 50,.int 51,.int 52,.int 53,.int 54,.int 55,.int 56,.int 57,.int 48,.int 49,.int 50,.int 51,.int 52,.int 53,.int 54,.int 55,.int 56,.int 57,.int 48,.int 49,.int 50,.int 51,.int 52,.int 53,.int 54,.int 55,.int 56,.int 57,.int 48,.int 49,.int 50,.int 51,.int 52,.int 53,.int 54,.int 55,.int 56,.int 57,.int 48,.int 49,.int 50,.int 51,.int 52,.int 53,.int 54,.int 55,.int 56,.int 57,.int 48,.int 49,.int 50,.int 51,.int 52,.int 53,.int 54,.int 55,.int 56,.int 57,.int 48,.int 49,.int 50,.int 51,.int 52,.int 53,.int 54,.int 55,.int 56,.int 57],vm := .none },
  { cls := 24,slots := #[.int 48,.int 48,.int 48,.int 48,.int 48,.int 48,.int 48,.int 48,.int 48,.int 48,.int 49,.int 49,.int 49,.int 49,.int 49,.int 49,.int 49,.int 49,.int 49,.int 49,.int 50,.int 50,.int 50,.int 50,.int 50,.int 50,.int 50,.int 50,.int 50,.int 50,.int 51,.int 51,.int 51,.int 51,.int 51,.int 51,.int 51,.int 51,.int 51,.int 51,.int 52,.int 52,.int 52,.int 52,.int 52,.int 52,.int 52,.int 52,.int 52,.int 52,.int 53,.int 53,.int 53,.int 53,.int 53,.int 53,.int 53,.int 53,.int 53,.int 53,.int 54,.int 54,.int 54,.int 54,.int 54,.int 54,.int 54,.int 54,.int 54,.int 54,.int 55,.int 55,.int 55,.int 55,.int 55,.int 55,.int 55,.int 55,.int 55,.int 55,.int 56,.int 56,.int 56,.int 56,.int 56,.int 56,.int 56,.int 56,.int 56,.int 56,.int 57,.int 57,.int 57,.int 57,.int 57,.int 57,.int 57,.int 57,.int 57,.int 57],vm := .none }]
def classes : Array Class := #[k0,k1,k2,k3,k4,k5,k6,k7,k8,k9,k10,k11,k12,k13,k14,k15,k16,k17,k18,k19,k20,k21,k22,k23,k24,k25,k26,k27,k28]
def interned : List (Array UInt16 × Addr) := []
def slotsUsed : Nat := 223
def theMethod : MethodId := ⟨1,1⟩
def args0 : Array Value := #[.int 4,.int 10,.int 15,.int 7,.int 8,.int 2]
def aboutOver (below:List Frame) : State where
  vm := { classes := classes,interned := interned.toArray }
  heap := heap
  slotsUsed := slotsUsed
  threads := #[{ frames := .invoking theMethod args0 :: below }]
def below0 : List Frame := [.native { method := ⟨0,0⟩,args := #[] }]
def about1 : State := aboutOver below0
def p0 : Program := .bare "" "" ""
def e0 : Env := launch0.env 0 0 0
theorem w_frames : about1.frames = Frame.invoking theMethod args0 :: below0 := rfl
theorem w_args : argsFit about1.vm theMethod args0 = true := by decide +kernel
theorem w_heap : heapFits about1 = true := by decide +kernel
theorem w_runnable : about1.curStatus? = some .runnable := by decide +kernel
theorem w_alone : about1.alone = true := by decide +kernel
theorem w_named : about1.methodNamed? x = some theMethod := by decide +kernel
theorem w_hears : about1.hears theMethod below0 = true := by decide +kernel
theorem w_ripe : about1.ripe theMethod args0 below0 = true := by decide +kernel
theorem w_running : about1.status = .running := rfl
theorem w_room : about1.hasRoom e0.platform room_1 = true :=
  launch0.hasRoom_least _ room_1 (by decide +kernel) (by decide +kernel) (by decide +kernel) (by decide +kernel) (by decide +kernel) (by decide +kernel)
theorem allAtoms_all (ts:List Jvm.Cond) (a:Array Jvm.Value) (st:Jvm.State) : (allAtoms ts).before a st = ts.all (fun c => c.before a st) := by
  induction ts with
  | nil => rfl
  | cons c t ih =>
    show (Jvm.Cond.and c (allAtoms t)).before a st = _
    rw [Jvm.Cond.before_and,ih,List.all_cons]
def words1 : List Jvm.Cond := Jvm.Cond.code x code maxLocals ret :: tables_1
theorem code_word {y:MethodName} {bytes:ByteArray} {mx:Nat} {rt:Option FieldType} {a:Array Value} {s:State} {m:MethodId} {meth:Method} {c:Code} (h1:s.methodNamed? y = some m) (h2:s.vm.method? m = some meth) (h3:meth.code = some c) (h4:c.code = bytes)
    (h5:(c.maxLocals == mx && c.exceptionTable.isEmpty && decide (c.maxStack ≤ mostOperands) && decide (meth.sig.returnType = rt) && !meth.locks && decide (parseMethodDescriptor y.desc = some meth.sig)) = true) : (Jvm.Cond.code y bytes mx rt).before a s = true := by
  simp only [Bool.and_eq_true,beq_iff_eq,Bool.not_eq_true',decide_eq_true_eq] at h5
  obtain ⟨⟨⟨⟨⟨g1,g2⟩,g3⟩,g4⟩,g5⟩,g6⟩ := h5
  simp [Cond.before,Cond.holds,Cond.value,h1,h2,h3,h4,g1,g2,g3,g4,g5,g6]
def isCode : Jvm.Cond → Bool
  | .code _ _ _ _ => true
  | _ => false
theorem all_split {L:List Jvm.Cond} {P:Jvm.Cond → Bool} (h1:L.all (fun c => isCode c || P c) = true) (h2:∀ c ∈ L.filter isCode,P c = true) : L.all P = true := by
  refine List.all_eq_true.mpr fun c hc => ?_
  have h := List.all_eq_true.mp h1 c hc
  rcases Bool.eq_false_or_eq_true (isCode c) with hi | hi
  · exact h2 c (List.mem_filter.mpr ⟨hc,hi⟩)
  · simpa [hi] using h
abbrev q0 : Jvm.Cond := .code x code maxLocals ret
abbrev q1 : Jvm.Cond := .code ⟨"com/example/dolmetsch/dolmetsch/BriefTextOfPinLaw", "textArray", "(I)[C"⟩ method_4_code 1 (some (.array .char))
abbrev q2 : Jvm.Cond := .code ⟨"java/lang/String", "<init>", "([C)V"⟩ jdk_42_method_3_code 2 none
abbrev q3 : Jvm.Cond := .code ⟨"java/lang/String", "<init>", "([CIILjava/lang/Void;)V"⟩ jdk_42_method_149_code 6 none
abbrev q4 : Jvm.Cond := .code ⟨"java/lang/Object", "<init>", "()V"⟩ object_method_1_code 1 none
abbrev q5 : Jvm.Cond := .code ⟨"com/example/dolmetsch/dolmetsch/BriefText", "of", "(Ljava/lang/String;)Ljava/lang/String;"⟩ prog_4_method_2_code 2 (some (.object "java/lang/String"))
abbrev q6 : Jvm.Cond := .code ⟨"java/lang/String", "length", "()I"⟩ jdk_42_method_54_code 1 (some .int)
abbrev q7 : Jvm.Cond := .code ⟨"java/lang/String", "coder", "()B"⟩ jdk_42_method_152_code 1 (some .byte)
abbrev q8 : Jvm.Cond := .code ⟨"java/lang/String", "equals", "(Ljava/lang/Object;)Z"⟩ jdk_42_method_66_code 3 (some .boolean)
abbrev q9 : Jvm.Cond := .code ⟨"java/lang/StringUTF16", "compress", "([CII)[B"⟩ jdk_52_method_16_code 6 (some (.array .byte))
abbrev q10 : Jvm.Cond := .code ⟨"java/lang/StringUTF16", "compress", "([CI[BII)I"⟩ jdk_52_method_21_code 7 (some .int)
abbrev q11 : Jvm.Cond := .code ⟨"java/lang/StringUTF16", "coderFromArrayLen", "([BI)B"⟩ jdk_52_method_15_code 2 (some .byte)
abbrev q12 : Jvm.Cond := .code ⟨"java/lang/StringBuilder", "<init>", "(I)V"⟩ jdk_67_method_2_code 2 none
abbrev q13 : Jvm.Cond := .code ⟨"java/lang/AbstractStringBuilder", "<init>", "(I)V"⟩ jdk_68_method_2_code 2 none
abbrev q14 : Jvm.Cond := .code ⟨"com/example/dolmetsch/dolmetsch/BriefText", "append", "(Ljava/lang/StringBuilder;Ljava/lang/String;II)V"⟩ prog_4_method_4_code 6 none
abbrev q15 : Jvm.Cond := .code ⟨"java/lang/String", "charAt", "(I)C"⟩ jdk_42_method_56_code 2 (some .char)
abbrev q16 : Jvm.Cond := .code ⟨"java/lang/String", "isLatin1", "()Z"⟩ jdk_42_method_154_code 1 (some .boolean)
abbrev q17 : Jvm.Cond := .code ⟨"java/lang/StringLatin1", "charAt", "([BI)C"⟩ jdk_43_method_2_code 2 (some .char)
abbrev q18 : Jvm.Cond := .code ⟨"java/lang/String", "checkIndex", "(II)V"⟩ jdk_42_method_155_code 2 none
abbrev q19 : Jvm.Cond := .code ⟨"jdk/internal/util/Preconditions", "checkIndex", "(IILjava/util/function/BiFunction;)I"⟩ jdk_41_method_11_code 3 (some .int)
abbrev q20 : Jvm.Cond := .code ⟨"java/lang/Character", "isHighSurrogate", "(C)Z"⟩ jdk_89_method_14_code 1 (some .boolean)
abbrev q21 : Jvm.Cond := .code ⟨"java/lang/StringBuilder", "append", "(Ljava/lang/CharSequence;II)Ljava/lang/StringBuilder;"⟩ jdk_67_method_10_code 4 (some (.object "java/lang/StringBuilder"))
abbrev q22 : Jvm.Cond := .code ⟨"java/lang/AbstractStringBuilder", "append", "(Ljava/lang/CharSequence;II)Ljava/lang/AbstractStringBuilder;"⟩ jdk_68_method_27_code 5 (some (.object "java/lang/AbstractStringBuilder"))
abbrev q23 : Jvm.Cond := .code ⟨"jdk/internal/util/Preconditions", "checkFromToIndex", "(IIILjava/util/function/BiFunction;)I"⟩ jdk_41_method_12_code 4 (some .int)
abbrev q24 : Jvm.Cond := .code ⟨"java/lang/AbstractStringBuilder", "ensureCapacityInternal", "(I)V"⟩ jdk_68_method_9_code 3 none
abbrev q25 : Jvm.Cond := .code ⟨"java/lang/AbstractStringBuilder", "appendChars", "(Ljava/lang/String;II)V"⟩ jdk_68_method_75_code 8 none
abbrev q26 : Jvm.Cond := .code ⟨"java/lang/AbstractStringBuilder", "isLatin1", "()Z"⟩ jdk_68_method_68_code 1 (some .boolean)
abbrev q27 : Jvm.Cond := .code ⟨"java/lang/String", "value", "()[B"⟩ jdk_42_method_153_code 1 (some (.array .byte))
abbrev q28 : Jvm.Cond := .code ⟨"com/example/dolmetsch/dolmetsch/BriefText", "more", "(Ljava/lang/StringBuilder;ILjava/lang/String;)V"⟩ prog_4_method_5_code 3 none
abbrev q29 : Jvm.Cond := .code ⟨"java/lang/StringBuilder", "append", "(C)Ljava/lang/StringBuilder;"⟩ jdk_67_method_14_code 2 (some (.object "java/lang/StringBuilder"))
abbrev q30 : Jvm.Cond := .code ⟨"java/lang/AbstractStringBuilder", "append", "(C)Ljava/lang/AbstractStringBuilder;"⟩ jdk_68_method_31_code 2 (some (.object "java/lang/AbstractStringBuilder"))
abbrev q31 : Jvm.Cond := .code ⟨"java/lang/StringLatin1", "canEncode", "(C)Z"⟩ jdk_43_method_3_code 1 (some .boolean)
abbrev q32 : Jvm.Cond := .code ⟨"java/lang/StringBuilder", "append", "(I)Ljava/lang/StringBuilder;"⟩ jdk_67_method_15_code 2 (some (.object "java/lang/StringBuilder"))
abbrev q33 : Jvm.Cond := .code ⟨"java/lang/AbstractStringBuilder", "append", "(I)Ljava/lang/AbstractStringBuilder;"⟩ jdk_68_method_32_code 4 (some (.object "java/lang/AbstractStringBuilder"))
abbrev q34 : Jvm.Cond := .code ⟨"java/lang/Integer", "stringSize", "(I)I"⟩ jdk_33_method_13_code 4 (some .int)
abbrev q35 : Jvm.Cond := .code ⟨"java/lang/Integer", "getChars", "(II[B)I"⟩ jdk_33_method_12_code 7 (some .int)
abbrev q36 : Jvm.Cond := .code ⟨"java/lang/StringBuilder", "append", "(Ljava/lang/String;)Ljava/lang/StringBuilder;"⟩ jdk_67_method_7_code 2 (some (.object "java/lang/StringBuilder"))
abbrev q37 : Jvm.Cond := .code ⟨"java/lang/AbstractStringBuilder", "append", "(Ljava/lang/String;)Ljava/lang/AbstractStringBuilder;"⟩ jdk_68_method_22_code 3 (some (.object "java/lang/AbstractStringBuilder"))
abbrev q38 : Jvm.Cond := .code ⟨"java/lang/AbstractStringBuilder", "putStringAt", "(ILjava/lang/String;)V"⟩ jdk_68_method_73_code 3 none
abbrev q39 : Jvm.Cond := .code ⟨"java/lang/AbstractStringBuilder", "inflateIfNeededFor", "(Ljava/lang/String;)V"⟩ jdk_68_method_71_code 2 none
abbrev q40 : Jvm.Cond := .code ⟨"java/lang/String", "getBytes", "([BIB)V"⟩ jdk_42_method_147_code 4 none
abbrev q41 : Jvm.Cond := .code ⟨"java/lang/StringBuilder", "toString", "()Ljava/lang/String;"⟩ jdk_67_method_42_code 1 (some (.object "java/lang/String"))
abbrev q42 : Jvm.Cond := .code ⟨"java/lang/String", "<init>", "(Ljava/lang/StringBuilder;)V"⟩ jdk_42_method_53_code 2 none
abbrev q43 : Jvm.Cond := .code ⟨"java/lang/String", "<init>", "(Ljava/lang/AbstractStringBuilder;Ljava/lang/Void;)V"⟩ jdk_42_method_150_code 5 none
abbrev q44 : Jvm.Cond := .code ⟨"java/lang/AbstractStringBuilder", "getValue", "()[B"⟩ jdk_68_method_64_code 1 (some (.array .byte))
abbrev q45 : Jvm.Cond := .code ⟨"java/lang/StringBuilder", "length", "()I"⟩ jdk_67_method_93_code 1 (some .int)
abbrev q46 : Jvm.Cond := .code ⟨"java/lang/AbstractStringBuilder", "length", "()I"⟩ jdk_68_method_6_code 1 (some .int)
abbrev q47 : Jvm.Cond := .code ⟨"java/util/Arrays", "copyOfRange", "([BII)[B"⟩ jdk_65_method_132_code 3 (some (.array .byte))
abbrev q48 : Jvm.Cond := .code ⟨"java/util/Arrays", "copyOfRangeByte", "([BII)[B"⟩ jdk_65_method_133_code 5 (some (.array .byte))
abbrev q49 : Jvm.Cond := .code ⟨"java/util/Arrays", "checkLength", "(II)V"⟩ jdk_65_method_131_code 2 none
abbrev q50 : Jvm.Cond := .code ⟨"java/lang/Math", "min", "(II)I"⟩ jdk_29_method_69_code 2 (some .int)
abbrev q51 : Jvm.Cond := .code ⟨"com/example/dolmetsch/dolmetsch/BriefTextOfPinLaw", "expectedArray", "(I)[C"⟩ method_5_code 1 (some (.array .char))
abbrev q52 : Jvm.Cond := .code ⟨"com/example/dolmetsch/dolmetsch/BriefTextOfPinLaw", "word", "([CI)I"⟩ method_3_code 2 (some .int)
abbrev q53 : Jvm.Cond := .code ⟨"java/lang/StringLatin1", "equals", "([B[B)Z"⟩ jdk_43_method_13_code 3 (some .boolean)
abbrev q54 : Jvm.Cond := .code ⟨"java/lang/StringUTF16", "toBytes", "([CII)[B"⟩ jdk_52_method_14_code 5 (some (.array .byte))
abbrev q55 : Jvm.Cond := .code ⟨"java/lang/StringUTF16", "newBytesFor", "(I)[B"⟩ jdk_52_method_2_code 1 (some (.array .byte))
abbrev q56 : Jvm.Cond := .code ⟨"java/lang/StringUTF16", "newBytesLength", "(I)I"⟩ jdk_52_method_3_code 1 (some .int)
abbrev q57 : Jvm.Cond := .code ⟨"java/lang/StringUTF16", "putChar", "([BII)V"⟩ jdk_52_method_4_code 3 none
abbrev q58 : Jvm.Cond := .code ⟨"java/lang/StringUTF16", "getChar", "([BI)C"⟩ jdk_52_method_5_code 2 (some .char)
abbrev q59 : Jvm.Cond := .code ⟨"java/lang/StringUTF16", "charAt", "([BI)C"⟩ jdk_52_method_83_code 2 (some .char)
abbrev q60 : Jvm.Cond := .code ⟨"java/lang/StringUTF16", "checkIndex", "(I[B)V"⟩ jdk_52_method_91_code 2 none
abbrev q61 : Jvm.Cond := .code ⟨"java/lang/StringUTF16", "length", "([B)I"⟩ jdk_52_method_6_code 1 (some .int)
abbrev q62 : Jvm.Cond := .code ⟨"java/lang/AbstractStringBuilder", "inflate", "()V"⟩ jdk_68_method_11_code 2 none
abbrev q63 : Jvm.Cond := .code ⟨"java/lang/StringLatin1", "inflate", "([BI[BII)V"⟩ jdk_43_method_50_code 5 none
abbrev q64 : Jvm.Cond := .code ⟨"java/lang/StringUTF16", "inflate", "([BI[BII)V"⟩ jdk_52_method_86_code 6 none
abbrev q65 : Jvm.Cond := .code ⟨"java/lang/StringUTF16", "checkBoundsOffCount", "(II[B)V"⟩ jdk_52_method_94_code 3 none
abbrev q66 : Jvm.Cond := .code ⟨"java/lang/String", "checkBoundsOffCount", "(III)I"⟩ jdk_42_method_157_code 3 (some .int)
abbrev q67 : Jvm.Cond := .code ⟨"jdk/internal/util/Preconditions", "checkFromIndexSize", "(IIILjava/util/function/BiFunction;)I"⟩ jdk_41_method_13_code 4 (some .int)
abbrev q68 : Jvm.Cond := .code ⟨"java/lang/StringUTF16", "putCharSB", "([BII)V"⟩ jdk_52_method_71_code 3 none
abbrev q69 : Jvm.Cond := .code ⟨"java/lang/StringUTF16", "getChars", "(III[B)I"⟩ jdk_52_method_77_code 5 (some .int)
abbrev q70 : Jvm.Cond := .code ⟨"java/lang/StringUTF16", "checkBoundsBeginEnd", "(II[B)V"⟩ jdk_52_method_93_code 3 none
abbrev q71 : Jvm.Cond := .code ⟨"java/lang/String", "checkBoundsBeginEnd", "(III)V"⟩ jdk_42_method_158_code 3 none
abbrev q72 : Jvm.Cond := .code ⟨"java/lang/StringUTF16", "getChars", "(II[B)I"⟩ jdk_52_method_89_code 7 (some .int)
theorem w_c0 : q0.before args0 about1 = true := code_word (m:=⟨1,1⟩) (meth:=k1m1) (c:=k1c1) (by decide +kernel) rfl rfl rfl (by decide +kernel)
theorem w_c1 : q1.before args0 about1 = true := code_word (m:=⟨1,3⟩) (meth:=k1m3) (c:=k1c3) (by decide +kernel) rfl rfl rfl (by decide +kernel)
theorem w_c2 : q2.before args0 about1 = true := code_word (m:=⟨7,1⟩) (meth:=k7m1) (c:=k7c1) (by decide +kernel) rfl rfl rfl (by decide +kernel)
theorem w_c3 : q3.before args0 about1 = true := code_word (m:=⟨7,7⟩) (meth:=k7m7) (c:=k7c7) (by decide +kernel) rfl rfl rfl (by decide +kernel)
theorem w_c4 : q4.before args0 about1 = true := code_word (m:=⟨0,0⟩) (meth:=k0m0) (c:=k0c0) (by decide +kernel) rfl rfl rfl (by decide +kernel)
theorem w_c5 : q5.before args0 about1 = true := code_word (m:=⟨8,1⟩) (meth:=k8m1) (c:=k8c1) (by decide +kernel) rfl rfl rfl (by decide +kernel)
theorem w_c6 : q6.before args0 about1 = true := code_word (m:=⟨7,3⟩) (meth:=k7m3) (c:=k7c3) (by decide +kernel) rfl rfl rfl (by decide +kernel)
theorem w_c7 : q7.before args0 about1 = true := code_word (m:=⟨7,9⟩) (meth:=k7m9) (c:=k7c9) (by decide +kernel) rfl rfl rfl (by decide +kernel)
theorem w_c8 : q8.before args0 about1 = true := code_word (m:=⟨7,5⟩) (meth:=k7m5) (c:=k7c5) (by decide +kernel) rfl rfl rfl (by decide +kernel)
theorem w_c9 : q9.before args0 about1 = true := code_word (m:=⟨9,8⟩) (meth:=k9m8) (c:=k9c8) (by decide +kernel) rfl rfl rfl (by decide +kernel)
theorem w_c10 : q10.before args0 about1 = true := code_word (m:=⟨9,9⟩) (meth:=k9m9) (c:=k9c9) (by decide +kernel) rfl rfl rfl (by decide +kernel)
theorem w_c11 : q11.before args0 about1 = true := code_word (m:=⟨9,7⟩) (meth:=k9m7) (c:=k9c7) (by decide +kernel) rfl rfl rfl (by decide +kernel)
theorem w_c12 : q12.before args0 about1 = true := code_word (m:=⟨12,1⟩) (meth:=k12m1) (c:=k12c1) (by decide +kernel) rfl rfl rfl (by decide +kernel)
theorem w_c13 : q13.before args0 about1 = true := code_word (m:=⟨11,1⟩) (meth:=k11m1) (c:=k11c1) (by decide +kernel) rfl rfl rfl (by decide +kernel)
theorem w_c14 : q14.before args0 about1 = true := code_word (m:=⟨8,2⟩) (meth:=k8m2) (c:=k8c2) (by decide +kernel) rfl rfl rfl (by decide +kernel)
theorem w_c15 : q15.before args0 about1 = true := code_word (m:=⟨7,4⟩) (meth:=k7m4) (c:=k7c4) (by decide +kernel) rfl rfl rfl (by decide +kernel)
theorem w_c16 : q16.before args0 about1 = true := code_word (m:=⟨7,11⟩) (meth:=k7m11) (c:=k7c11) (by decide +kernel) rfl rfl rfl (by decide +kernel)
theorem w_c17 : q17.before args0 about1 = true := code_word (m:=⟨13,1⟩) (meth:=k13m1) (c:=k13c1) (by decide +kernel) rfl rfl rfl (by decide +kernel)
theorem w_c18 : q18.before args0 about1 = true := code_word (m:=⟨7,12⟩) (meth:=k7m12) (c:=k7c12) (by decide +kernel) rfl rfl rfl (by decide +kernel)
theorem w_c19 : q19.before args0 about1 = true := code_word (m:=⟨14,1⟩) (meth:=k14m1) (c:=k14c1) (by decide +kernel) rfl rfl rfl (by decide +kernel)
theorem w_c20 : q20.before args0 about1 = true := code_word (m:=⟨15,0⟩) (meth:=k15m0) (c:=k15c0) (by decide +kernel) rfl rfl rfl (by decide +kernel)
theorem w_c21 : q21.before args0 about1 = true := code_word (m:=⟨12,3⟩) (meth:=k12m3) (c:=k12c3) (by decide +kernel) rfl rfl rfl (by decide +kernel)
theorem w_c22 : q22.before args0 about1 = true := code_word (m:=⟨11,6⟩) (meth:=k11m6) (c:=k11c6) (by decide +kernel) rfl rfl rfl (by decide +kernel)
theorem w_c23 : q23.before args0 about1 = true := code_word (m:=⟨14,2⟩) (meth:=k14m2) (c:=k14c2) (by decide +kernel) rfl rfl rfl (by decide +kernel)
theorem w_c24 : q24.before args0 about1 = true := code_word (m:=⟨11,3⟩) (meth:=k11m3) (c:=k11c3) (by decide +kernel) rfl rfl rfl (by decide +kernel)
theorem w_c25 : q25.before args0 about1 = true := code_word (m:=⟨11,13⟩) (meth:=k11m13) (c:=k11c13) (by decide +kernel) rfl rfl rfl (by decide +kernel)
theorem w_c26 : q26.before args0 about1 = true := code_word (m:=⟨11,10⟩) (meth:=k11m10) (c:=k11c10) (by decide +kernel) rfl rfl rfl (by decide +kernel)
theorem w_c27 : q27.before args0 about1 = true := code_word (m:=⟨7,10⟩) (meth:=k7m10) (c:=k7c10) (by decide +kernel) rfl rfl rfl (by decide +kernel)
theorem w_c28 : q28.before args0 about1 = true := code_word (m:=⟨8,3⟩) (meth:=k8m3) (c:=k8c3) (by decide +kernel) rfl rfl rfl (by decide +kernel)
theorem w_c29 : q29.before args0 about1 = true := code_word (m:=⟨12,4⟩) (meth:=k12m4) (c:=k12c4) (by decide +kernel) rfl rfl rfl (by decide +kernel)
theorem w_c30 : q30.before args0 about1 = true := code_word (m:=⟨11,7⟩) (meth:=k11m7) (c:=k11c7) (by decide +kernel) rfl rfl rfl (by decide +kernel)
theorem w_c31 : q31.before args0 about1 = true := code_word (m:=⟨13,2⟩) (meth:=k13m2) (c:=k13c2) (by decide +kernel) rfl rfl rfl (by decide +kernel)
theorem w_c32 : q32.before args0 about1 = true := code_word (m:=⟨12,5⟩) (meth:=k12m5) (c:=k12c5) (by decide +kernel) rfl rfl rfl (by decide +kernel)
theorem w_c33 : q33.before args0 about1 = true := code_word (m:=⟨11,8⟩) (meth:=k11m8) (c:=k11c8) (by decide +kernel) rfl rfl rfl (by decide +kernel)
theorem w_c34 : q34.before args0 about1 = true := code_word (m:=⟨18,1⟩) (meth:=k18m1) (c:=k18c1) (by decide +kernel) rfl rfl rfl (by decide +kernel)
theorem w_c35 : q35.before args0 about1 = true := code_word (m:=⟨18,0⟩) (meth:=k18m0) (c:=k18c0) (by decide +kernel) rfl rfl rfl (by decide +kernel)
theorem w_c36 : q36.before args0 about1 = true := code_word (m:=⟨12,2⟩) (meth:=k12m2) (c:=k12c2) (by decide +kernel) rfl rfl rfl (by decide +kernel)
theorem w_c37 : q37.before args0 about1 = true := code_word (m:=⟨11,5⟩) (meth:=k11m5) (c:=k11c5) (by decide +kernel) rfl rfl rfl (by decide +kernel)
theorem w_c38 : q38.before args0 about1 = true := code_word (m:=⟨11,12⟩) (meth:=k11m12) (c:=k11c12) (by decide +kernel) rfl rfl rfl (by decide +kernel)
theorem w_c39 : q39.before args0 about1 = true := code_word (m:=⟨11,11⟩) (meth:=k11m11) (c:=k11c11) (by decide +kernel) rfl rfl rfl (by decide +kernel)
theorem w_c40 : q40.before args0 about1 = true := code_word (m:=⟨7,6⟩) (meth:=k7m6) (c:=k7c6) (by decide +kernel) rfl rfl rfl (by decide +kernel)
theorem w_c41 : q41.before args0 about1 = true := code_word (m:=⟨12,6⟩) (meth:=k12m6) (c:=k12c6) (by decide +kernel) rfl rfl rfl (by decide +kernel)
theorem w_c42 : q42.before args0 about1 = true := code_word (m:=⟨7,2⟩) (meth:=k7m2) (c:=k7c2) (by decide +kernel) rfl rfl rfl (by decide +kernel)
theorem w_c43 : q43.before args0 about1 = true := code_word (m:=⟨7,8⟩) (meth:=k7m8) (c:=k7c8) (by decide +kernel) rfl rfl rfl (by decide +kernel)
theorem w_c44 : q44.before args0 about1 = true := code_word (m:=⟨11,9⟩) (meth:=k11m9) (c:=k11c9) (by decide +kernel) rfl rfl rfl (by decide +kernel)
theorem w_c45 : q45.before args0 about1 = true := code_word (m:=⟨12,7⟩) (meth:=k12m7) (c:=k12c7) (by decide +kernel) rfl rfl rfl (by decide +kernel)
theorem w_c46 : q46.before args0 about1 = true := code_word (m:=⟨11,2⟩) (meth:=k11m2) (c:=k11c2) (by decide +kernel) rfl rfl rfl (by decide +kernel)
theorem w_c47 : q47.before args0 about1 = true := code_word (m:=⟨19,2⟩) (meth:=k19m2) (c:=k19c2) (by decide +kernel) rfl rfl rfl (by decide +kernel)
theorem w_c48 : q48.before args0 about1 = true := code_word (m:=⟨19,3⟩) (meth:=k19m3) (c:=k19c3) (by decide +kernel) rfl rfl rfl (by decide +kernel)
theorem w_c49 : q49.before args0 about1 = true := code_word (m:=⟨19,1⟩) (meth:=k19m1) (c:=k19c1) (by decide +kernel) rfl rfl rfl (by decide +kernel)
theorem w_c50 : q50.before args0 about1 = true := code_word (m:=⟨20,1⟩) (meth:=k20m1) (c:=k20c1) (by decide +kernel) rfl rfl rfl (by decide +kernel)
theorem w_c51 : q51.before args0 about1 = true := code_word (m:=⟨1,4⟩) (meth:=k1m4) (c:=k1c4) (by decide +kernel) rfl rfl rfl (by decide +kernel)
theorem w_c52 : q52.before args0 about1 = true := code_word (m:=⟨1,2⟩) (meth:=k1m2) (c:=k1c2) (by decide +kernel) rfl rfl rfl (by decide +kernel)
theorem w_c53 : q53.before args0 about1 = true := code_word (m:=⟨13,3⟩) (meth:=k13m3) (c:=k13c3) (by decide +kernel) rfl rfl rfl (by decide +kernel)
theorem w_c54 : q54.before args0 about1 = true := code_word (m:=⟨9,6⟩) (meth:=k9m6) (c:=k9c6) (by decide +kernel) rfl rfl rfl (by decide +kernel)
theorem w_c55 : q55.before args0 about1 = true := code_word (m:=⟨9,1⟩) (meth:=k9m1) (c:=k9c1) (by decide +kernel) rfl rfl rfl (by decide +kernel)
theorem w_c56 : q56.before args0 about1 = true := code_word (m:=⟨9,2⟩) (meth:=k9m2) (c:=k9c2) (by decide +kernel) rfl rfl rfl (by decide +kernel)
theorem w_c57 : q57.before args0 about1 = true := code_word (m:=⟨9,3⟩) (meth:=k9m3) (c:=k9c3) (by decide +kernel) rfl rfl rfl (by decide +kernel)
theorem w_c58 : q58.before args0 about1 = true := code_word (m:=⟨9,4⟩) (meth:=k9m4) (c:=k9c4) (by decide +kernel) rfl rfl rfl (by decide +kernel)
theorem w_c59 : q59.before args0 about1 = true := code_word (m:=⟨9,12⟩) (meth:=k9m12) (c:=k9c12) (by decide +kernel) rfl rfl rfl (by decide +kernel)
theorem w_c60 : q60.before args0 about1 = true := code_word (m:=⟨9,15⟩) (meth:=k9m15) (c:=k9c15) (by decide +kernel) rfl rfl rfl (by decide +kernel)
theorem w_c61 : q61.before args0 about1 = true := code_word (m:=⟨9,5⟩) (meth:=k9m5) (c:=k9c5) (by decide +kernel) rfl rfl rfl (by decide +kernel)
theorem w_c62 : q62.before args0 about1 = true := code_word (m:=⟨11,4⟩) (meth:=k11m4) (c:=k11c4) (by decide +kernel) rfl rfl rfl (by decide +kernel)
theorem w_c63 : q63.before args0 about1 = true := code_word (m:=⟨13,4⟩) (meth:=k13m4) (c:=k13c4) (by decide +kernel) rfl rfl rfl (by decide +kernel)
theorem w_c64 : q64.before args0 about1 = true := code_word (m:=⟨9,13⟩) (meth:=k9m13) (c:=k9c13) (by decide +kernel) rfl rfl rfl (by decide +kernel)
theorem w_c65 : q65.before args0 about1 = true := code_word (m:=⟨9,17⟩) (meth:=k9m17) (c:=k9c17) (by decide +kernel) rfl rfl rfl (by decide +kernel)
theorem w_c66 : q66.before args0 about1 = true := code_word (m:=⟨7,13⟩) (meth:=k7m13) (c:=k7c13) (by decide +kernel) rfl rfl rfl (by decide +kernel)
theorem w_c67 : q67.before args0 about1 = true := code_word (m:=⟨14,3⟩) (meth:=k14m3) (c:=k14c3) (by decide +kernel) rfl rfl rfl (by decide +kernel)
theorem w_c68 : q68.before args0 about1 = true := code_word (m:=⟨9,10⟩) (meth:=k9m10) (c:=k9c10) (by decide +kernel) rfl rfl rfl (by decide +kernel)
theorem w_c69 : q69.before args0 about1 = true := code_word (m:=⟨9,11⟩) (meth:=k9m11) (c:=k9c11) (by decide +kernel) rfl rfl rfl (by decide +kernel)
theorem w_c70 : q70.before args0 about1 = true := code_word (m:=⟨9,16⟩) (meth:=k9m16) (c:=k9c16) (by decide +kernel) rfl rfl rfl (by decide +kernel)
theorem w_c71 : q71.before args0 about1 = true := code_word (m:=⟨7,14⟩) (meth:=k7m14) (c:=k7c14) (by decide +kernel) rfl rfl rfl (by decide +kernel)
theorem w_c72 : q72.before args0 about1 = true := code_word (m:=⟨9,14⟩) (meth:=k9m14) (c:=k9c14) (by decide +kernel) rfl rfl rfl (by decide +kernel)
def codes1 : List Jvm.Cond := [q0,q1,q2,q3,q4,q5,q6,q7,q8,q9,q10,q11,q12,q13,q14,q15,q16,q17,q18,q19,q20,q21,q22,q23,q24,q25,q26,q27,q28,q29,q30,q31,q32,q33,q34,q35,q36,q37,q38,q39,q40,q41,q42,q43,q44,q45,q46,q47,q48,q49,q50,q51,q52,q53,q54,q55,q56,q57,q58,q59,q60,q61,q62,q63,q64,q65,q66,q67,q68,q69,q70,q71,q72]
theorem codes_eq : words1.filter isCode = codes1 := rfl
theorem w_codes : ∀ c ∈ words1.filter isCode,c.before args0 about1 = true := by
  rw [codes_eq]
  intro c hc
  simp only [codes1,List.mem_cons,List.not_mem_nil,or_false] at hc
  rcases hc with rfl | rfl | rfl | rfl | rfl | rfl | rfl | rfl | rfl | rfl | rfl | rfl | rfl | rfl | rfl | rfl | rfl | rfl | rfl | rfl | rfl | rfl | rfl | rfl | rfl | rfl | rfl | rfl | rfl | rfl | rfl | rfl | rfl | rfl | rfl | rfl | rfl | rfl | rfl | rfl | rfl | rfl | rfl | rfl | rfl | rfl | rfl | rfl | rfl | rfl | rfl | rfl | rfl | rfl | rfl | rfl | rfl | rfl | rfl | rfl | rfl | rfl | rfl | rfl | rfl | rfl | rfl | rfl | rfl | rfl | rfl | rfl | rfl
  · exact w_c0
  · exact w_c1
  · exact w_c2
  · exact w_c3
  · exact w_c4
  · exact w_c5
  · exact w_c6
  · exact w_c7
  · exact w_c8
  · exact w_c9
  · exact w_c10
  · exact w_c11
  · exact w_c12
  · exact w_c13
  · exact w_c14
  · exact w_c15
  · exact w_c16
  · exact w_c17
  · exact w_c18
  · exact w_c19
  · exact w_c20
  · exact w_c21
  · exact w_c22
  · exact w_c23
  · exact w_c24
  · exact w_c25
  · exact w_c26
  · exact w_c27
  · exact w_c28
  · exact w_c29
  · exact w_c30
  · exact w_c31
  · exact w_c32
  · exact w_c33
  · exact w_c34
  · exact w_c35
  · exact w_c36
  · exact w_c37
  · exact w_c38
  · exact w_c39
  · exact w_c40
  · exact w_c41
  · exact w_c42
  · exact w_c43
  · exact w_c44
  · exact w_c45
  · exact w_c46
  · exact w_c47
  · exact w_c48
  · exact w_c49
  · exact w_c50
  · exact w_c51
  · exact w_c52
  · exact w_c53
  · exact w_c54
  · exact w_c55
  · exact w_c56
  · exact w_c57
  · exact w_c58
  · exact w_c59
  · exact w_c60
  · exact w_c61
  · exact w_c62
  · exact w_c63
  · exact w_c64
  · exact w_c65
  · exact w_c66
  · exact w_c67
  · exact w_c68
  · exact w_c69
  · exact w_c70
  · exact w_c71
  · exact w_c72
theorem w_t1 : (words1.take 24).all (fun c => isCode c || c.before args0 about1) = true := by decide +kernel
theorem w_t2 : ((words1.drop 24).take 24).all (fun c => isCode c || c.before args0 about1) = true := by decide +kernel
theorem w_t3 : (((words1.drop 24).drop 24).take 24).all (fun c => isCode c || c.before args0 about1) = true := by decide +kernel
theorem w_t4 : ((((words1.drop 24).drop 24).drop 24).take 24).all (fun c => isCode c || c.before args0 about1) = true := by decide +kernel
theorem w_t5 : (((((words1.drop 24).drop 24).drop 24).drop 24).take 24).all (fun c => isCode c || c.before args0 about1) = true := by decide +kernel
theorem w_t6 : ((((((words1.drop 24).drop 24).drop 24).drop 24).drop 24).take 24).all (fun c => isCode c || c.before args0 about1) = true := by decide +kernel
theorem w_t7 : (((((((words1.drop 24).drop 24).drop 24).drop 24).drop 24).drop 24).take 24).all (fun c => isCode c || c.before args0 about1) = true := by decide +kernel
theorem w_t8 : ((((((((words1.drop 24).drop 24).drop 24).drop 24).drop 24).drop 24).drop 24).take 24).all (fun c => isCode c || c.before args0 about1) = true := by decide +kernel
theorem w_t9 : (((((((((words1.drop 24).drop 24).drop 24).drop 24).drop 24).drop 24).drop 24).drop 24).take 24).all (fun c => isCode c || c.before args0 about1) = true := by decide +kernel
theorem w_t10 : ((((((((((words1.drop 24).drop 24).drop 24).drop 24).drop 24).drop 24).drop 24).drop 24).drop 24).take 24).all (fun c => isCode c || c.before args0 about1) = true := by decide +kernel
theorem w_t11 : (((((((((((words1.drop 24).drop 24).drop 24).drop 24).drop 24).drop 24).drop 24).drop 24).drop 24).drop 24).take 24).all (fun c => isCode c || c.before args0 about1) = true := by decide +kernel
theorem w_t12 : ((((((((((((words1.drop 24).drop 24).drop 24).drop 24).drop 24).drop 24).drop 24).drop 24).drop 24).drop 24).drop 24).take 24).all (fun c => isCode c || c.before args0 about1) = true := by decide +kernel
theorem w_t13 : (((((((((((((words1.drop 24).drop 24).drop 24).drop 24).drop 24).drop 24).drop 24).drop 24).drop 24).drop 24).drop 24).drop 24).take 24).all (fun c => isCode c || c.before args0 about1) = true := by decide +kernel
theorem w_t14 : ((((((((((((((words1.drop 24).drop 24).drop 24).drop 24).drop 24).drop 24).drop 24).drop 24).drop 24).drop 24).drop 24).drop 24).drop 24).take 24).all (fun c => isCode c || c.before args0 about1) = true := by decide +kernel
theorem w_t15 : ((((((((((((((words1.drop 24).drop 24).drop 24).drop 24).drop 24).drop 24).drop 24).drop 24).drop 24).drop 24).drop 24).drop 24).drop 24).drop 24).all (fun c => isCode c || c.before args0 about1) = true := by decide +kernel
theorem w_tables : (allAtoms (Jvm.Cond.code x code maxLocals ret :: tables_1)).before args0 about1 = true := by
  rw [allAtoms_all]
  show words1.all (fun c => c.before args0 about1) = true
  refine all_split ?_ w_codes
  rw [← List.take_append_drop 24 words1,List.all_append,w_t1,← List.take_append_drop 24 (words1.drop 24),List.all_append,w_t2,← List.take_append_drop 24 ((words1.drop 24).drop 24),List.all_append,w_t3,← List.take_append_drop 24 (((words1.drop 24).drop 24).drop 24),List.all_append,w_t4,← List.take_append_drop 24 ((((words1.drop 24).drop 24).drop 24).drop 24),List.all_append,w_t5,← List.take_append_drop 24 (((((words1.drop 24).drop 24).drop 24).drop 24).drop 24),List.all_append,w_t6,← List.take_append_drop 24 ((((((words1.drop 24).drop 24).drop 24).drop 24).drop 24).drop 24),List.all_append,w_t7,← List.take_append_drop 24 (((((((words1.drop 24).drop 24).drop 24).drop 24).drop 24).drop 24).drop 24),List.all_append,w_t8,← List.take_append_drop 24 ((((((((words1.drop 24).drop 24).drop 24).drop 24).drop 24).drop 24).drop 24).drop 24),List.all_append,w_t9,← List.take_append_drop 24 (((((((((words1.drop 24).drop 24).drop 24).drop 24).drop 24).drop 24).drop 24).drop 24).drop 24),List.all_append,w_t10,← List.take_append_drop 24 ((((((((((words1.drop 24).drop 24).drop 24).drop 24).drop 24).drop 24).drop 24).drop 24).drop 24).drop 24),List.all_append,w_t11,← List.take_append_drop 24 (((((((((((words1.drop 24).drop 24).drop 24).drop 24).drop 24).drop 24).drop 24).drop 24).drop 24).drop 24).drop 24),List.all_append,w_t12,← List.take_append_drop 24 ((((((((((((words1.drop 24).drop 24).drop 24).drop 24).drop 24).drop 24).drop 24).drop 24).drop 24).drop 24).drop 24).drop 24),List.all_append,w_t13,← List.take_append_drop 24 (((((((((((((words1.drop 24).drop 24).drop 24).drop 24).drop 24).drop 24).drop 24).drop 24).drop 24).drop 24).drop 24).drop 24).drop 24),List.all_append,w_t14,w_t15]
  rfl
theorem w_rest : rest_1_c.before args0 about1 = true := by decide +kernel
theorem w_case : (Jvm.Cond.and given_1 narrow_1).before args0 about1 = true := by decide +kernel
theorem w_consts : constsHeld consts_1 about1 := Jvm.Lit.constsHeldB_iff.mp (by decide +kernel)
theorem w_applies : (headSpec (Jvm.Cond.code x code maxLocals ret :: tables_1) room_1).applies x e0.platform about1 = true :=
  (Spec.applies_iff w_frames).mpr ⟨w_running,w_runnable,w_alone,w_named,w_hears,w_ripe,w_room,w_tables⟩
theorem atStart : AtStart classFile x code maxLocals ret World_1 tables_1 room_1 Calls_1 rest_1 Pre_1 launch0 p0 e0 about1 theMethod args0 below0 :=
  ⟨lists_1,trivial,launch0.admits_env _ _ _,launch0.least_env,fairChoices_fair.cas,fairChoices_fair.clock,w_frames,w_args,w_heap,w_applies,⟨w_consts,trivial⟩,w_rest,w_case⟩
end start1
theorem witness_1 : WitnessClaimed_1 := ⟨start1.p0,start1.e0,start1.about1,start1.theMethod,start1.args0,start1.below0,start1.atStart⟩
end Jvm.Pilot.@@N@@
