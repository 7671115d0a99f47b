import JvmDerived
import JvmDerived.Pilot.@@N@@Statement
import JvmDerived.Pilot.@@N@@Code
set_option linter.unusedVariables false
set_option linter.unusedSimpArgs false
namespace Jvm.RoadKit
open Sem ClassFile Op Lib Jvm.Stand Jvm.Free Jvm.LawKit
section New
variable {p : Program} {l : Launch} {e : Env} {R : Room} {s : State} {m : MethodId} {args : Array Value} {below : List Frame} {meth : Method} {c : Code} {T : State} {locs : List Loc} {cells slots : Nat}
theorem retI (X : Stand p l e R s m args below meth c T locs cells slots) (hx : p.tables.exec = Jvm.exec) {pc : Nat} {Ls : Array Slot} {z : Int32} {rest : List Value} (hret : meth.sig.returnType = some .int) (hd : decode c.code pc = .ok (.ireturn, 1)) {fs : List Frame}
    (hl : ∀ (f : JFrame) (acts : List Action), f.method = m → f.locked = none → f.entered = [] → (doReturn e (T.setTop f) acts (some (.int z))).1 = T.setFrames fs) : Steps p.tables e below (T.setTop (mkF m pc Ls (.int z :: rest))) (T.setFrames fs) := by
  have hm' : T.vm.method? m = some meth := X.method'
  have hn : narrow .int (.int z) = .int z := rfl
  show Steps p.tables e below (T.setTop { method := m, pc := pc, locals := Ls, stack := _ :: rest, locked := none }) _
  jvm_step X.here [X.here.top, hx, hd, hm', hret, hn]
  first | (intro acts; rw [hl _ acts rfl rfl rfl]) | rw [hl _ _ rfl rfl rfl]
  exact Steps.refl _
end New
end Jvm.RoadKit
namespace Jvm.Pilot.@@N@@
open Jvm Jvm.ClassFile Sem Op Lib Jvm.Free Jvm.Stand Jvm.LawKit Jvm.RoadKit Bundle Jvm.Pilot.@@N@@.Jvm.D
/-- what a body that writes nothing leaves -/
def QR (r : Option Value) (h0 : Heap) (n0 : Nat) (v : Option Value) (h : Heap) (L : List Loc) : Prop := v = r ∧ Fr n0 L ∧ h = h0
theorem own_i : ∀ N : Nat, N < 8 → ∀ i : Nat, i < N → (Int32.ofNat i).toNatClampNeg = i ∧ ¬ Int32.ofNat i < 0 ∧ Int32.ofNat i < Int32.ofNat N ∧ Int32.ofNat i + 1 = Int32.ofNat (i + 1) := by decide
theorem own_n : ∀ N : Nat, N < 8 → (Int32.ofNat N).toNatClampNeg = N ∧ ¬ Int32.ofNat N < 0 ∧ ¬ Int32.ofNat N < Int32.ofNat N := by decide
theorem own_ge : ∀ N : Nat, N < 8 → ∀ i : Nat, i < 8 → ¬ i < N → ¬ Int32.ofNat i < Int32.ofNat N := by decide
theorem own_idem (x : Int32) : nar .byte (nar .byte x) = nar .byte x := by
  show (x.toInt8.toInt32).toInt8.toInt32 = x.toInt8.toInt32
  simp
/-- a byte[] of n places, place j holds f j -/
def own_Ba (Z : State) (h : Heap) (a : Addr) (n : Nat) (f : Nat → Int32) : Prop := ∃ c : Cell, Arr Z h a c .byte ∧ c.slots.size = n ∧ ∀ j, j < n → c.slots[j]? = some (.int (f j))
def own_pk (p1 p2 p3 : Int32) (q4 : Int64) : Int32 := nar .byte (if ((p1 >>> (p2 &&& 31)) &&& (1 : Int32)) = (0 : Int32) then ((((q4.toUInt64 >>> (((8 : Int32) * p2) &&& 0x3f).toInt64.toUInt64).toInt64).toInt32).toInt8.toInt32) else (p3.toInt8.toInt32))
theorem d1_0 : decode method_3_code 0 = .ok (.iload_n 0, 1) := by decide +kernel
theorem d1_1 : decode method_3_code 1 = .ok (.iload_n 1, 1) := by decide +kernel
theorem d1_2 : decode method_3_code 2 = .ok (.ishr, 1) := by decide +kernel
theorem d1_3 : decode method_3_code 3 = .ok (.iconst 1, 1) := by decide +kernel
theorem d1_4 : decode method_3_code 4 = .ok (.iand, 1) := by decide +kernel
theorem d1_5 : decode method_3_code 5 = .ok (.ifCond .eq 6, 3) := by decide +kernel
theorem d1_11 : decode method_3_code 11 = .ok (.lload_n 3, 1) := by decide +kernel
theorem d1_12 : decode method_3_code 12 = .ok (.bipush 8, 2) := by decide +kernel
theorem d1_14 : decode method_3_code 14 = .ok (.iload_n 1, 1) := by decide +kernel
theorem d1_15 : decode method_3_code 15 = .ok (.imul, 1) := by decide +kernel
theorem d1_16 : decode method_3_code 16 = .ok (.lushr, 1) := by decide +kernel
theorem d1_17 : decode method_3_code 17 = .ok (.l2i, 1) := by decide +kernel
theorem d1_18 : decode method_3_code 18 = .ok (.i2b, 1) := by decide +kernel
theorem d1_19 : decode method_3_code 19 = .ok (.ireturn, 1) := by decide +kernel
theorem pn_1 : plainName "com/example/bandmark/bandmark/ReceiverExportReaderRecognisesPinLaw" = true := by first | (simp [plainName, overriddenIn]; done) | decide +kernel
theorem ef_1 (m : MethodId) (x0 : Int32) (x1 : Int32) (x2 : Int32) (x3 : Int64) : entryFrame m #[(.int x0), (.int x1), (.int x2), (.long x3)] 5 = mkF m 0 #[.val (.int x0), .val (.int x1), .val (.int x2), .val (.long x3), .second] [] := by first | (simp [entryFrame, mkF, argsToLocals, Value.category]; done) | rfl
set_option maxRecDepth 65536 in
set_option maxHeartbeats 40000000 in
theorem r1t (l : Launch) (Z : State) (a0 : Array Value) (hw : ∀ d ∈ tables_1, d.before a0 Z = true) (ws : List Jvm.Cond) (p1 : Int32) (p2 : Int32) (p3 : Int32) (q4 : Int64) (h0 : Heap) (n0 : Nat) (Z0 : n0 ≤ h0.size) (hc5 : ((p1 >>> (p2 &&& 31)) &&& (1 : Int32)) = (0 : Int32)) :
    MetFree l (⟨"com/example/bandmark/bandmark/ReceiverExportReaderRecognisesPinLaw", "pick", "(IIIJ)B"⟩ : MethodName) (head1 (Jvm.Cond.code (⟨"com/example/bandmark/bandmark/ReceiverExportReaderRecognisesPinLaw", "pick", "(IIIJ)B"⟩ : MethodName) method_3_code 5 (some .byte) :: ws) ({ frames := 0, cells := 0, slots := 0, locals := 0 } : Room)) (fun a U => a = #[(.int p1), (.int p2), (.int p3), (.long q4)] ∧ Z.Warmed39 U.vm ∧ U.heap = h0) (fun _ _ _ _ _ => True) (fun _ U o U' => ∃ v L, o = .returned v ∧ QR (some (.int (nar .byte ((((q4.toUInt64 >>> (((8 : Int32) * p2) &&& 0x3f).toInt64.toUInt64).toInt64).toInt32).toInt8.toInt32)))) h0 n0 v U'.heap L ∧ FrameEnd U o U' L ({ frames := 0, cells := 0, slots := 0, locals := 0 } : Room).cells ({ frames := 0, cells := 0, slots := 0, locals := 0 } : Room).slots) := by
  refine MetFree.of_bodySF (plainFor_of_name pn_1) hisR ?_
  intro p e s m args below meth c s₁ Bd hml0 hP hK
  obtain ⟨rfl, hZ, hh⟩ := hP
  have hx := Bd.exec
  have hby := Bd.bytes
  have hml : c.maxLocals = 5 := hml0
  have hown : s.vm.findClass "com/example/bandmark/bandmark/ReceiverExportReaderRecognisesPinLaw" = some m.cls := findClass_of_methodNamed Bd.named
  have hnm := (name_of_methodNamed Bd.named Bd.method).1
  have X0 : Stand p l e ({ frames := 0, cells := 0, slots := 0, locals := 0 } : Room) s m #[(.int p1), (.int p2), (.int p3), (.long q4)] below meth c s₁ [] 0 0 := Stand.of_body Bd
  have e0 : s₁.heap = h0 := by rw [← hh, Bd.state]; rfl
  have N0 := Fr.nil n0
  have pre0 : ∀ t, Steps p.tables e below (s₁.setTop (mkF m 0 #[.val (.int p1), .val (.int p2), .val (.int p3), .val (.long q4), .second] [])) t → Steps p.tables e below (s₁.setTop (entryFrame m #[(.int p1), (.int p2), (.int p3), (.long q4)] 5)) t := fun t k => castTop (ef_1 m p1 p2 p3 q4) k
  obtain ⟨fs, hr, hrun, hended, hW, hsame⟩ := X0.leave (v := some (.int (nar .byte ((((q4.toUInt64 >>> (((8 : Int32) * p2) &&& 0x3f).toInt64.toUInt64).toInt64).toInt32).toInt8.toInt32)))) (fun h => by rw [Bd.returns] at h; cases h)
  refine ⟨_, _, pre0 _ ?_, hrun, hended, _, _, rfl, ?_, ⟨_, rfl⟩, hW, hsame.mono (by decide) (by decide)⟩
  · show Steps p.tables e below (s₁.setTop (mkF m 0 #[.val (.int p1), .val (.int p2), .val (.int p3), .val (.long q4), .second] [])) _
    refine XS.iloadN X0.here hx rfl (hb hby d1_0) rfl ?_
    show Steps p.tables e below (s₁.setTop (mkF m 1 #[.val (.int p1), .val (.int p2), .val (.int p3), .val (.long q4), .second] [(.int p1)])) _
    refine XS.iloadN X0.here hx rfl (hb hby d1_1) rfl ?_
    show Steps p.tables e below (s₁.setTop (mkF m 2 #[.val (.int p1), .val (.int p2), .val (.int p3), .val (.long q4), .second] [(.int p2), (.int p1)])) _
    refine XS.ishr X0.here hx rfl (hb hby d1_2) rfl ?_
    show Steps p.tables e below (s₁.setTop (mkF m 3 #[.val (.int p1), .val (.int p2), .val (.int p3), .val (.long q4), .second] [(.int (p1 >>> (p2 &&& 31)))])) _
    refine XS.iconst X0.here hx rfl (hb hby d1_3) ?_
    show Steps p.tables e below (s₁.setTop (mkF m 4 #[.val (.int p1), .val (.int p2), .val (.int p3), .val (.long q4), .second] [(.int (1 : Int32)), (.int (p1 >>> (p2 &&& 31)))])) _
    refine XS.iand X0.here hx rfl (hb hby d1_4) rfl ?_
    show Steps p.tables e below (s₁.setTop (mkF m 5 #[.val (.int p1), .val (.int p2), .val (.int p3), .val (.long q4), .second] [(.int ((p1 >>> (p2 &&& 31)) &&& (1 : Int32)))])) _
    refine XS.ifYes X0.here hx rfl (pc0 := 5) (pc' := 11) rfl (hb hby d1_5) rfl ((if0 _ _).trans (teq hc5).1) (by decide) (by decide) ?_
    show Steps p.tables e below (s₁.setTop (mkF m 11 #[.val (.int p1), .val (.int p2), .val (.int p3), .val (.long q4), .second] [])) _
    refine XS.lloadN X0.here hx rfl (hb hby d1_11) rfl ?_
    show Steps p.tables e below (s₁.setTop (mkF m 12 #[.val (.int p1), .val (.int p2), .val (.int p3), .val (.long q4), .second] [(.long q4)])) _
    refine XS.bipush X0.here hx rfl (hb hby d1_12) ?_
    show Steps p.tables e below (s₁.setTop (mkF m 14 #[.val (.int p1), .val (.int p2), .val (.int p3), .val (.long q4), .second] [(.int (8 : Int32)), (.long q4)])) _
    refine XS.iloadN X0.here hx rfl (hb hby d1_14) rfl ?_
    show Steps p.tables e below (s₁.setTop (mkF m 15 #[.val (.int p1), .val (.int p2), .val (.int p3), .val (.long q4), .second] [(.int p2), (.int (8 : Int32)), (.long q4)])) _
    refine XS.imul X0.here hx rfl (hb hby d1_15) rfl ?_
    show Steps p.tables e below (s₁.setTop (mkF m 16 #[.val (.int p1), .val (.int p2), .val (.int p3), .val (.long q4), .second] [(.int ((8 : Int32) * p2)), (.long q4)])) _
    refine XS.lushr X0.here hx rfl (hb hby d1_16) rfl ?_
    show Steps p.tables e below (s₁.setTop (mkF m 17 #[.val (.int p1), .val (.int p2), .val (.int p3), .val (.long q4), .second] [(.long ((q4.toUInt64 >>> (((8 : Int32) * p2) &&& 0x3f).toInt64.toUInt64).toInt64))])) _
    refine XS.l2i X0.here hx rfl (hb hby d1_17) rfl ?_
    show Steps p.tables e below (s₁.setTop (mkF m 18 #[.val (.int p1), .val (.int p2), .val (.int p3), .val (.long q4), .second] [(.int (((q4.toUInt64 >>> (((8 : Int32) * p2) &&& 0x3f).toInt64.toUInt64).toInt64).toInt32))])) _
    refine XS.i2b X0.here hx rfl (hb hby d1_18) rfl ?_
    show Steps p.tables e below (s₁.setTop (mkF m 19 #[.val (.int p1), .val (.int p2), .val (.int p3), .val (.long q4), .second] [(.int ((((q4.toUInt64 >>> (((8 : Int32) * p2) &&& 0x3f).toInt64.toUInt64).toInt64).toInt32).toInt8.toInt32))])) _
    exact retN X0 hx (t := .byte) Bd.returns (by simp) (hb hby d1_19) hr
  · show QR (some (.int (nar .byte ((((q4.toUInt64 >>> (((8 : Int32) * p2) &&& 0x3f).toInt64.toUInt64).toInt64).toInt32).toInt8.toInt32)))) h0 n0 _ s₁.heap _
    rw [e0]
    exact ⟨rfl, N0, rfl⟩
theorem d1_8 : decode method_3_code 8 = .ok (.iload_n 2, 1) := by decide +kernel
theorem d1_9 : decode method_3_code 9 = .ok (.i2b, 1) := by decide +kernel
theorem d1_10 : decode method_3_code 10 = .ok (.ireturn, 1) := by decide +kernel
set_option maxRecDepth 65536 in
set_option maxHeartbeats 40000000 in
theorem r1f (l : Launch) (Z : State) (a0 : Array Value) (hw : ∀ d ∈ tables_1, d.before a0 Z = true) (ws : List Jvm.Cond) (p1 : Int32) (p2 : Int32) (p3 : Int32) (q4 : Int64) (h0 : Heap) (n0 : Nat) (Z0 : n0 ≤ h0.size) (hc5 : ¬ (((p1 >>> (p2 &&& 31)) &&& (1 : Int32)) = (0 : Int32))) :
    MetFree l (⟨"com/example/bandmark/bandmark/ReceiverExportReaderRecognisesPinLaw", "pick", "(IIIJ)B"⟩ : MethodName) (head1 (Jvm.Cond.code (⟨"com/example/bandmark/bandmark/ReceiverExportReaderRecognisesPinLaw", "pick", "(IIIJ)B"⟩ : MethodName) method_3_code 5 (some .byte) :: ws) ({ frames := 0, cells := 0, slots := 0, locals := 0 } : Room)) (fun a U => a = #[(.int p1), (.int p2), (.int p3), (.long q4)] ∧ Z.Warmed39 U.vm ∧ U.heap = h0) (fun _ _ _ _ _ => True) (fun _ U o U' => ∃ v L, o = .returned v ∧ QR (some (.int (nar .byte (p3.toInt8.toInt32)))) h0 n0 v U'.heap L ∧ FrameEnd U o U' L ({ frames := 0, cells := 0, slots := 0, locals := 0 } : Room).cells ({ frames := 0, cells := 0, slots := 0, locals := 0 } : Room).slots) := by
  refine MetFree.of_bodySF (plainFor_of_name pn_1) hisR ?_
  intro p e s m args below meth c s₁ Bd hml0 hP hK
  obtain ⟨rfl, hZ, hh⟩ := hP
  have hx := Bd.exec
  have hby := Bd.bytes
  have hml : c.maxLocals = 5 := hml0
  have hown : s.vm.findClass "com/example/bandmark/bandmark/ReceiverExportReaderRecognisesPinLaw" = some m.cls := findClass_of_methodNamed Bd.named
  have hnm := (name_of_methodNamed Bd.named Bd.method).1
  have X0 : Stand p l e ({ frames := 0, cells := 0, slots := 0, locals := 0 } : Room) s m #[(.int p1), (.int p2), (.int p3), (.long q4)] below meth c s₁ [] 0 0 := Stand.of_body Bd
  have e0 : s₁.heap = h0 := by rw [← hh, Bd.state]; rfl
  have N0 := Fr.nil n0
  have pre0 : ∀ t, Steps p.tables e below (s₁.setTop (mkF m 0 #[.val (.int p1), .val (.int p2), .val (.int p3), .val (.long q4), .second] [])) t → Steps p.tables e below (s₁.setTop (entryFrame m #[(.int p1), (.int p2), (.int p3), (.long q4)] 5)) t := fun t k => castTop (ef_1 m p1 p2 p3 q4) k
  obtain ⟨fs, hr, hrun, hended, hW, hsame⟩ := X0.leave (v := some (.int (nar .byte (p3.toInt8.toInt32)))) (fun h => by rw [Bd.returns] at h; cases h)
  refine ⟨_, _, pre0 _ ?_, hrun, hended, _, _, rfl, ?_, ⟨_, rfl⟩, hW, hsame.mono (by decide) (by decide)⟩
  · show Steps p.tables e below (s₁.setTop (mkF m 0 #[.val (.int p1), .val (.int p2), .val (.int p3), .val (.long q4), .second] [])) _
    refine XS.iloadN X0.here hx rfl (hb hby d1_0) rfl ?_
    show Steps p.tables e below (s₁.setTop (mkF m 1 #[.val (.int p1), .val (.int p2), .val (.int p3), .val (.long q4), .second] [(.int p1)])) _
    refine XS.iloadN X0.here hx rfl (hb hby d1_1) rfl ?_
    show Steps p.tables e below (s₁.setTop (mkF m 2 #[.val (.int p1), .val (.int p2), .val (.int p3), .val (.long q4), .second] [(.int p2), (.int p1)])) _
    refine XS.ishr X0.here hx rfl (hb hby d1_2) rfl ?_
    show Steps p.tables e below (s₁.setTop (mkF m 3 #[.val (.int p1), .val (.int p2), .val (.int p3), .val (.long q4), .second] [(.int (p1 >>> (p2 &&& 31)))])) _
    refine XS.iconst X0.here hx rfl (hb hby d1_3) ?_
    show Steps p.tables e below (s₁.setTop (mkF m 4 #[.val (.int p1), .val (.int p2), .val (.int p3), .val (.long q4), .second] [(.int (1 : Int32)), (.int (p1 >>> (p2 &&& 31)))])) _
    refine XS.iand X0.here hx rfl (hb hby d1_4) rfl ?_
    show Steps p.tables e below (s₁.setTop (mkF m 5 #[.val (.int p1), .val (.int p2), .val (.int p3), .val (.long q4), .second] [(.int ((p1 >>> (p2 &&& 31)) &&& (1 : Int32)))])) _
    refine XS.ifNo X0.here hx rfl (hb hby d1_5) rfl ((if0 _ _).trans (feq hc5).1) ?_
    show Steps p.tables e below (s₁.setTop (mkF m 8 #[.val (.int p1), .val (.int p2), .val (.int p3), .val (.long q4), .second] [])) _
    refine XS.iloadN X0.here hx rfl (hb hby d1_8) rfl ?_
    show Steps p.tables e below (s₁.setTop (mkF m 9 #[.val (.int p1), .val (.int p2), .val (.int p3), .val (.long q4), .second] [(.int p3)])) _
    refine XS.i2b X0.here hx rfl (hb hby d1_9) rfl ?_
    show Steps p.tables e below (s₁.setTop (mkF m 10 #[.val (.int p1), .val (.int p2), .val (.int p3), .val (.long q4), .second] [(.int (p3.toInt8.toInt32))])) _
    exact retN X0 hx (t := .byte) Bd.returns (by simp) (hb hby d1_10) hr
  · show QR (some (.int (nar .byte (p3.toInt8.toInt32)))) h0 n0 _ s₁.heap _
    rw [e0]
    exact ⟨rfl, N0, rfl⟩
theorem r1 (l : Launch) (Z : State) (a0 : Array Value) (hw : ∀ d ∈ tables_1, d.before a0 Z = true) (ws : List Jvm.Cond) (p1 p2 p3 : Int32) (q4 : Int64) (h0 : Heap) (n0 : Nat) (Z0 : n0 ≤ h0.size) :
    MetFree l (⟨"com/example/bandmark/bandmark/ReceiverExportReaderRecognisesPinLaw", "pick", "(IIIJ)B"⟩ : MethodName) (head1 (Jvm.Cond.code (⟨"com/example/bandmark/bandmark/ReceiverExportReaderRecognisesPinLaw", "pick", "(IIIJ)B"⟩ : MethodName) method_3_code 5 (some .byte) :: ws) ({ frames := 0, cells := 0, slots := 0, locals := 0 } : Room)) (fun a U => a = #[(.int p1), (.int p2), (.int p3), (.long q4)] ∧ Z.Warmed39 U.vm ∧ U.heap = h0) (fun _ _ _ _ _ => True) (fun _ U o U' => ∃ v L, o = .returned v ∧ QR (some (.int (own_pk p1 p2 p3 q4))) h0 n0 v U'.heap L ∧ FrameEnd U o U' L ({ frames := 0, cells := 0, slots := 0, locals := 0 } : Room).cells ({ frames := 0, cells := 0, slots := 0, locals := 0 } : Room).slots) := by
  by_cases h : ((p1 >>> (p2 &&& 31)) &&& (1 : Int32)) = (0 : Int32)
  · rw [show own_pk p1 p2 p3 q4 = nar .byte ((((q4.toUInt64 >>> (((8 : Int32) * p2) &&& 0x3f).toInt64.toUInt64).toInt64).toInt32).toInt8.toInt32) by simp only [own_pk, if_pos h]]
    exact r1t l Z a0 hw ws p1 p2 p3 q4 h0 n0 Z0 h
  · rw [show own_pk p1 p2 p3 q4 = nar .byte (p3.toInt8.toInt32) by simp only [own_pk, if_neg h]]
    exact r1f l Z a0 hw ws p1 p2 p3 q4 h0 n0 Z0 h
theorem own_pkn (p1 p2 p3 : Int32) (q4 : Int64) : nar .byte (own_pk p1 p2 p3 q4) = own_pk p1 p2 p3 q4 := own_idem _
def QP (Z : State) (a1 : Addr) (n : Nat) (f : Nat → Int32) (h0 : Heap) (n0 : Nat) (v : Option Value) (h : Heap) (L : List Loc) : Prop := v = none ∧ Fr n0 L ∧ Keep h0 h [a1] ∧ own_Ba Z h a1 n f
theorem d2_0 : decode method_4_code 0 = .ok (.iload_n 1, 1) := by decide +kernel
theorem d2_1 : decode method_4_code 1 = .ok (.aload_n 0, 1) := by decide +kernel
theorem d2_2 : decode method_4_code 2 = .ok (.arraylength, 1) := by decide +kernel
theorem d2_3 : decode method_4_code 3 = .ok (.if_icmp .ge 7, 3) := by decide +kernel
theorem d2_6 : decode method_4_code 6 = .ok (.aload_n 0, 1) := by decide +kernel
theorem d2_7 : decode method_4_code 7 = .ok (.iload_n 1, 1) := by decide +kernel
theorem d2_8 : decode method_4_code 8 = .ok (.iload_n 2, 1) := by decide +kernel
theorem d2_9 : decode method_4_code 9 = .ok (.bastore, 1) := by decide +kernel
theorem d2_10 : decode method_4_code 10 = .ok (.return_, 1) := by decide +kernel
theorem pn_2 : plainName "com/example/bandmark/bandmark/ReceiverExportReaderRecognisesPinLaw" = true := by first | (simp [plainName, overriddenIn]; done) | decide +kernel
theorem ef_2 (m : MethodId) (x0 : Addr) (x1 : Int32) (x2 : Int32) : entryFrame m #[(.ref x0), (.int x1), (.int x2)] 3 = mkF m 0 #[.val (.ref x0), .val (.int x1), .val (.int x2)] [] := by first | (simp [entryFrame, mkF, argsToLocals, Value.category]; done) | rfl
set_option maxRecDepth 65536 in
set_option maxHeartbeats 40000000 in
theorem r2f (l : Launch) (Z : State) (a0 : Array Value) (hw : ∀ d ∈ tables_1, d.before a0 Z = true) (ws : List Jvm.Cond) (a1 : Addr) (i : Nat) (p3 : Int32) (n : Nat) (f : Nat → Int32) (h0 : Heap) (n0 : Nat) (Z0 : n0 ≤ h0.size) (hn : n < 8) (hi : i < 8) (B : own_Ba Z h0 a1 n f) (g_a1 : n0 ≤ a1) (hc : i < n) :
    MetFree l (⟨"com/example/bandmark/bandmark/ReceiverExportReaderRecognisesPinLaw", "put", "([BIB)V"⟩ : MethodName) (head1 (Jvm.Cond.code (⟨"com/example/bandmark/bandmark/ReceiverExportReaderRecognisesPinLaw", "put", "([BIB)V"⟩ : MethodName) method_4_code 3 none :: ws) ({ frames := 0, cells := 0, slots := 0, locals := 0 } : Room)) (fun a U => a = #[(.ref a1), (.int (Int32.ofNat i)), (.int p3)] ∧ Z.Warmed39 U.vm ∧ U.heap = h0) (fun _ _ _ _ _ => True) (fun _ U o U' => ∃ v L, o = .returned v ∧ QP Z a1 n (fun j => if j = i then nar .byte p3 else f j) h0 n0 v U'.heap L ∧ FrameEnd U o U' L ({ frames := 0, cells := 0, slots := 0, locals := 0 } : Room).cells ({ frames := 0, cells := 0, slots := 0, locals := 0 } : Room).slots) := by
  obtain ⟨cl, Ar, hS, hat⟩ := B
  refine MetFree.of_bodySF (plainFor_of_name pn_2) hisR ?_
  intro p e s m args below meth c s₁ Bd hml0 hP hK
  obtain ⟨rfl, hZ, hh⟩ := hP
  have hx := Bd.exec
  have hby := Bd.bytes
  have hml : c.maxLocals = 3 := hml0
  have hown : s.vm.findClass "com/example/bandmark/bandmark/ReceiverExportReaderRecognisesPinLaw" = some m.cls := findClass_of_methodNamed Bd.named
  have hnm := (name_of_methodNamed Bd.named Bd.method).1
  have X0 : Stand p l e ({ frames := 0, cells := 0, slots := 0, locals := 0 } : Room) s m #[(.ref a1), (.int (Int32.ofNat i)), (.int p3)] below meth c s₁ [] 0 0 := Stand.of_body Bd
  have e0 : s₁.heap = h0 := by rw [← hh, Bd.state]; rfl
  have N0 := Fr.nil n0
  have pre0 : ∀ t, Steps p.tables e below (s₁.setTop (mkF m 0 #[.val (.ref a1), .val (.int (Int32.ofNat i)), .val (.int p3)] [])) t → Steps p.tables e below (s₁.setTop (entryFrame m #[(.ref a1), (.int (Int32.ofNat i)), (.int p3)] 3)) t := fun t k => castTop (ef_2 m a1 (Int32.ofNat i) p3) k
  obtain ⟨T4, h4, X4, e4, W4, st4⟩ := stB X0 hx hZ e0 Ar (j := (Int32.ofNat i)) (by rw [(own_i n hn i hc).1, hS]; exact fun q => q.elim (own_i n hn i hc).2.1 (by omega)) (g := (mkF m 9 #[.val (.ref a1), .val (.int (Int32.ofNat i)), .val (.int p3)] [(.int p3), (.int (Int32.ofNat i)), (.ref a1)])) rfl rfl (hb hby d2_9)
  have N4 := Fr.snoc X4 N0 g_a1
  have K4 : Keep h0 h4 [a1] := (Keep.refl h0 [a1]).wr W4 (Or.inl (List.mem_of_getElem? (i := 0) rfl))
  obtain ⟨fs, hr, hrun, hended, hW, hsame⟩ := X4.leave (v := none) (fun _ => rfl)
  refine ⟨_, _, pre0 _ ?_, hrun, hended, _, _, rfl, ?_, ⟨_, rfl⟩, hW, hsame.mono (by decide) (by decide)⟩
  · show Steps p.tables e below (s₁.setTop (mkF m 0 #[.val (.ref a1), .val (.int (Int32.ofNat i)), .val (.int p3)] [])) _
    refine XS.iloadN X0.here hx rfl (hb hby d2_0) rfl ?_
    show Steps p.tables e below (s₁.setTop (mkF m 1 #[.val (.ref a1), .val (.int (Int32.ofNat i)), .val (.int p3)] [(.int (Int32.ofNat i))])) _
    refine XS.aloadN X0.here hx rfl (hb hby d2_1) rfl rfl ?_
    show Steps p.tables e below (s₁.setTop (mkF m 2 #[.val (.ref a1), .val (.int (Int32.ofNat i)), .val (.int p3)] [(.ref a1), (.int (Int32.ofNat i))])) _
    refine X0.arraylength hx (by rw [e0]; exact Ar.1) (State.isArrayOf_alike hZ.alike Ar.2.1) (g := (mkF m 2 #[.val (.ref a1), .val (.int (Int32.ofNat i)), .val (.int p3)] [(.ref a1), (.int (Int32.ofNat i))])) rfl rfl (hb hby d2_2) _ ?_
    rw [len_of (hS.trans (own_n n hn).1.symm) (own_n n hn).2.1]
    show Steps p.tables e below (s₁.setTop (mkF m 3 #[.val (.ref a1), .val (.int (Int32.ofNat i)), .val (.int p3)] [(.int (Int32.ofNat n)), (.int (Int32.ofNat i))])) _
    refine XS.icmpNo X0.here hx rfl (hb hby d2_3) rfl (tlt (own_i n hn i hc).2.2.1).2.1 ?_
    show Steps p.tables e below (s₁.setTop (mkF m 6 #[.val (.ref a1), .val (.int (Int32.ofNat i)), .val (.int p3)] [])) _
    refine XS.aloadN X0.here hx rfl (hb hby d2_6) rfl rfl ?_
    show Steps p.tables e below (s₁.setTop (mkF m 7 #[.val (.ref a1), .val (.int (Int32.ofNat i)), .val (.int p3)] [(.ref a1)])) _
    refine XS.iloadN X0.here hx rfl (hb hby d2_7) rfl ?_
    show Steps p.tables e below (s₁.setTop (mkF m 8 #[.val (.ref a1), .val (.int (Int32.ofNat i)), .val (.int p3)] [(.int (Int32.ofNat i)), (.ref a1)])) _
    refine XS.iloadN X0.here hx rfl (hb hby d2_8) rfl ?_
    show Steps p.tables e below (s₁.setTop (mkF m 9 #[.val (.ref a1), .val (.int (Int32.ofNat i)), .val (.int p3)] [(.int p3), (.int (Int32.ofNat i)), (.ref a1)])) _
    refine st4 _ ?_
    show Steps p.tables e below (T4.setTop (mkF m 10 #[.val (.ref a1), .val (.int (Int32.ofNat i)), .val (.int p3)] [])) _
    exact X4.returnOut hx Bd.returns (hb hby d2_10) hr
  · show QP Z a1 n (fun j => if j = i then nar .byte p3 else f j) h0 n0 _ T4.heap _
    rw [e4]
    refine ⟨rfl, N4, K4, _, Ar.same W4, ?_, fun j hj => ?_⟩
    · show (cl.slots.setIfInBounds _ _).size = n
      simp [hS]
    · show (cl.slots.setIfInBounds _ _)[j]? = _
      rw [Array.getElem?_setIfInBounds, (own_i n hn i hc).1]
      by_cases q : i = j
      · subst q
        simp [hS, hj]
      · have q' : ¬ j = i := fun z => q z.symm
        simp only [q, q', if_false]
        exact hat j hj
set_option maxRecDepth 65536 in
set_option maxHeartbeats 40000000 in
theorem r2t (l : Launch) (Z : State) (a0 : Array Value) (hw : ∀ d ∈ tables_1, d.before a0 Z = true) (ws : List Jvm.Cond) (a1 : Addr) (i : Nat) (p3 : Int32) (n : Nat) (f : Nat → Int32) (h0 : Heap) (n0 : Nat) (Z0 : n0 ≤ h0.size) (hn : n < 8) (hi : i < 8) (B : own_Ba Z h0 a1 n f) (g_a1 : n0 ≤ a1) (hc : ¬ i < n) :
    MetFree l (⟨"com/example/bandmark/bandmark/ReceiverExportReaderRecognisesPinLaw", "put", "([BIB)V"⟩ : MethodName) (head1 (Jvm.Cond.code (⟨"com/example/bandmark/bandmark/ReceiverExportReaderRecognisesPinLaw", "put", "([BIB)V"⟩ : MethodName) method_4_code 3 none :: ws) ({ frames := 0, cells := 0, slots := 0, locals := 0 } : Room)) (fun a U => a = #[(.ref a1), (.int (Int32.ofNat i)), (.int p3)] ∧ Z.Warmed39 U.vm ∧ U.heap = h0) (fun _ _ _ _ _ => True) (fun _ U o U' => ∃ v L, o = .returned v ∧ QP Z a1 n (fun j => if j = i then nar .byte p3 else f j) h0 n0 v U'.heap L ∧ FrameEnd U o U' L ({ frames := 0, cells := 0, slots := 0, locals := 0 } : Room).cells ({ frames := 0, cells := 0, slots := 0, locals := 0 } : Room).slots) := by
  obtain ⟨cl, Ar, hS, hat⟩ := B
  refine MetFree.of_bodySF (plainFor_of_name pn_2) hisR ?_
  intro p e s m args below meth c s₁ Bd hml0 hP hK
  obtain ⟨rfl, hZ, hh⟩ := hP
  have hx := Bd.exec
  have hby := Bd.bytes
  have hml : c.maxLocals = 3 := hml0
  have hown : s.vm.findClass "com/example/bandmark/bandmark/ReceiverExportReaderRecognisesPinLaw" = some m.cls := findClass_of_methodNamed Bd.named
  have hnm := (name_of_methodNamed Bd.named Bd.method).1
  have X0 : Stand p l e ({ frames := 0, cells := 0, slots := 0, locals := 0 } : Room) s m #[(.ref a1), (.int (Int32.ofNat i)), (.int p3)] below meth c s₁ [] 0 0 := Stand.of_body Bd
  have e0 : s₁.heap = h0 := by rw [← hh, Bd.state]; rfl
  have N0 := Fr.nil n0
  have pre0 : ∀ t, Steps p.tables e below (s₁.setTop (mkF m 0 #[.val (.ref a1), .val (.int (Int32.ofNat i)), .val (.int p3)] [])) t → Steps p.tables e below (s₁.setTop (entryFrame m #[(.ref a1), (.int (Int32.ofNat i)), (.int p3)] 3)) t := fun t k => castTop (ef_2 m a1 (Int32.ofNat i) p3) k
  obtain ⟨fs, hr, hrun, hended, hW, hsame⟩ := X0.leave (v := none) (fun _ => rfl)
  refine ⟨_, _, pre0 _ ?_, hrun, hended, _, _, rfl, ?_, ⟨_, rfl⟩, hW, hsame.mono (by decide) (by decide)⟩
  · show Steps p.tables e below (s₁.setTop (mkF m 0 #[.val (.ref a1), .val (.int (Int32.ofNat i)), .val (.int p3)] [])) _
    refine XS.iloadN X0.here hx rfl (hb hby d2_0) rfl ?_
    show Steps p.tables e below (s₁.setTop (mkF m 1 #[.val (.ref a1), .val (.int (Int32.ofNat i)), .val (.int p3)] [(.int (Int32.ofNat i))])) _
    refine XS.aloadN X0.here hx rfl (hb hby d2_1) rfl rfl ?_
    show Steps p.tables e below (s₁.setTop (mkF m 2 #[.val (.ref a1), .val (.int (Int32.ofNat i)), .val (.int p3)] [(.ref a1), (.int (Int32.ofNat i))])) _
    refine X0.arraylength hx (by rw [e0]; exact Ar.1) (State.isArrayOf_alike hZ.alike Ar.2.1) (g := (mkF m 2 #[.val (.ref a1), .val (.int (Int32.ofNat i)), .val (.int p3)] [(.ref a1), (.int (Int32.ofNat i))])) rfl rfl (hb hby d2_2) _ ?_
    rw [len_of (hS.trans (own_n n hn).1.symm) (own_n n hn).2.1]
    show Steps p.tables e below (s₁.setTop (mkF m 3 #[.val (.ref a1), .val (.int (Int32.ofNat i)), .val (.int p3)] [(.int (Int32.ofNat n)), (.int (Int32.ofNat i))])) _
    refine XS.icmpYes X0.here hx rfl (pc0 := 3) (pc' := 10) rfl (hb hby d2_3) rfl (flt (own_ge n hn i hi hc)).2.1 (by decide) (by decide) ?_
    show Steps p.tables e below (s₁.setTop (mkF m 10 #[.val (.ref a1), .val (.int (Int32.ofNat i)), .val (.int p3)] [])) _
    exact X0.returnOut hx Bd.returns (hb hby d2_10) hr
  · show QP Z a1 n (fun j => if j = i then nar .byte p3 else f j) h0 n0 _ s₁.heap _
    rw [e0]
    refine ⟨rfl, N0, Keep.refl _ _, cl, Ar, hS, fun j hj => ?_⟩
    have q' : ¬ j = i := fun z => hc (z ▸ hj)
    simp only [q', if_false]
    exact hat j hj
theorem r2 (l : Launch) (Z : State) (a0 : Array Value) (hw : ∀ d ∈ tables_1, d.before a0 Z = true) (ws : List Jvm.Cond) (a1 : Addr) (i : Nat) (p3 : Int32) (n : Nat) (f : Nat → Int32) (h0 : Heap) (n0 : Nat) (Z0 : n0 ≤ h0.size) (hn : n < 8) (hi : i < 8) (B : own_Ba Z h0 a1 n f) (g_a1 : n0 ≤ a1) :
    MetFree l (⟨"com/example/bandmark/bandmark/ReceiverExportReaderRecognisesPinLaw", "put", "([BIB)V"⟩ : MethodName) (head1 (Jvm.Cond.code (⟨"com/example/bandmark/bandmark/ReceiverExportReaderRecognisesPinLaw", "put", "([BIB)V"⟩ : MethodName) method_4_code 3 none :: ws) ({ frames := 0, cells := 0, slots := 0, locals := 0 } : Room)) (fun a U => a = #[(.ref a1), (.int (Int32.ofNat i)), (.int p3)] ∧ Z.Warmed39 U.vm ∧ U.heap = h0) (fun _ _ _ _ _ => True) (fun _ U o U' => ∃ v L, o = .returned v ∧ QP Z a1 n (fun j => if j = i then nar .byte p3 else f j) h0 n0 v U'.heap L ∧ FrameEnd U o U' L ({ frames := 0, cells := 0, slots := 0, locals := 0 } : Room).cells ({ frames := 0, cells := 0, slots := 0, locals := 0 } : Room).slots) := by
  by_cases hc : i < n
  · exact r2f l Z a0 hw ws a1 i p3 n f h0 n0 Z0 hn hi B g_a1 hc
  · exact r2t l Z a0 hw ws a1 i p3 n f h0 n0 Z0 hn hi B g_a1 hc
theorem d3_13 : decode prog_11_method_2_code 13 = .ok (.iload_n 1, 1) := by decide +kernel
theorem d3_14 : decode prog_11_method_2_code 14 = .ok (.getstatic 27, 3) := by decide +kernel
theorem d3_17 : decode prog_11_method_2_code 17 = .ok (.arraylength, 1) := by decide +kernel
theorem d3_18 : decode prog_11_method_2_code 18 = .ok (.if_icmp .ge 22, 3) := by decide +kernel
theorem d3_21 : decode prog_11_method_2_code 21 = .ok (.aload_n 0, 1) := by decide +kernel
theorem d3_22 : decode prog_11_method_2_code 22 = .ok (.iload_n 1, 1) := by decide +kernel
theorem d3_23 : decode prog_11_method_2_code 23 = .ok (.baload, 1) := by decide +kernel
theorem d3_24 : decode prog_11_method_2_code 24 = .ok (.getstatic 27, 3) := by decide +kernel
theorem d3_27 : decode prog_11_method_2_code 27 = .ok (.iload_n 1, 1) := by decide +kernel
theorem d3_28 : decode prog_11_method_2_code 28 = .ok (.baload, 1) := by decide +kernel
theorem d3_29 : decode prog_11_method_2_code 29 = .ok (.if_icmp .eq 5, 3) := by decide +kernel
theorem d3_34 : decode prog_11_method_2_code 34 = .ok (.iinc 1 1, 3) := by decide +kernel
theorem d3_37 : decode prog_11_method_2_code 37 = .ok (.goto (-24), 3) := by decide +kernel
set_option maxRecDepth 65536 in
set_option maxHeartbeats 40000000 in
theorem tn3_13_13 {p : Program} {l : Launch} {e : Env} {R : Room} {s : State} {m : MethodId} {args : Array Value} {below : List Frame} {meth : Method} {c : Code} {T0 : State} {locs : List Loc} {cells slots : Nat} {Z : State} {a0 : Array Value} {h0 : Heap} (o0 : Addr) (i1 : Int32) (w2 : Addr) (cl_w2 : Cell) (z_w2 : Int32) (w4 : Int32) (cl_o0 : Cell) (w6 : Int32)
    (X0 : Stand p l e R s m args below meth c T0 locs cells slots) (hx : p.tables.exec = Jvm.exec) (hZ : Z.Warmed39 s.vm) (hw : ∀ d ∈ tables_1, d.before a0 Z = true) (hby : c.code = prog_11_method_2_code) (hml : c.maxLocals = 2) (hown : s.vm.findClass "com/example/bandmark/bandmark/ReceiverExportReader" = some m.cls) (e0 : T0.heap = h0) (S_SIGNATURE : Sta Z h0 "com/example/bandmark/bandmark/ReceiverExportReader" "SIGNATURE" "[B" (.ref w2)) (Ar_w2 : Arr Z h0 w2 cl_w2 .byte) (S_w2 : cl_w2.slots.size = z_w2.toNatClampNeg) (N_w2 : ¬ z_w2 < 0) (Ar_o0 : Arr Z h0 o0 cl_o0 .byte) (hin23 : ¬ (i1 < 0 ∨ cl_o0.slots.size ≤ (i1).toNatClampNeg)) (hat23 : cl_o0.slots[(i1).toNatClampNeg]? = some (.int w4)) (hin28 : ¬ (i1 < 0 ∨ cl_w2.slots.size ≤ (i1).toNatClampNeg)) (hat28 : cl_w2.slots[(i1).toNatClampNeg]? = some (.int w6)) (hc18 : i1 < z_w2) (hc29 : w4 = w6) :
    ∃ (T' : State), Stand p l e R s m args below meth c T' locs cells slots ∧ T'.heap = h0 ∧
      ∀ target, Steps p.tables e below (T'.setTop (mkF m 13 #[.val (.ref o0), .val (.int (i1 + (1 : Int32)))] [])) target → Steps p.tables e below (T0.setTop (mkF m 13 #[.val (.ref o0), .val (.int i1)] [])) target := by
  obtain ⟨T3, X3, e3, st3⟩ := getS2 X0 hx hZ hown (host := "") (Or.inl (hw _ (List.mem_of_getElem? (i := 12) rfl))) Via.refl e0 S_SIGNATURE (g := (mkF m 14 #[.val (.ref o0), .val (.int i1)] [(.int i1)])) rfl (hb hby d3_14)
  obtain ⟨T5, X5, e5, st5⟩ := getS2 X3 hx hZ hown (host := "") (Or.inl (hw _ (List.mem_of_getElem? (i := 12) rfl))) Via.refl e3 S_SIGNATURE (g := (mkF m 24 #[.val (.ref o0), .val (.int i1)] [(.int w4)])) rfl (hb hby d3_24)
  refine ⟨T5, X5, e5, fun target kt => ?_⟩
  show Steps p.tables e below (T0.setTop (mkF m 13 #[.val (.ref o0), .val (.int i1)] [])) _
  refine XS.iloadN X0.here hx rfl (hb hby d3_13) rfl ?_
  show Steps p.tables e below (T0.setTop (mkF m 14 #[.val (.ref o0), .val (.int i1)] [(.int i1)])) _
  refine st3 _ ?_
  show Steps p.tables e below (T3.setTop (mkF m 17 #[.val (.ref o0), .val (.int i1)] [(.ref w2), (.int i1)])) _
  refine X3.arraylength hx (by rw [e3]; exact Ar_w2.1) (State.isArrayOf_alike hZ.alike Ar_w2.2.1) (g := (mkF m 17 #[.val (.ref o0), .val (.int i1)] [(.ref w2), (.int i1)])) rfl rfl (hb hby d3_17) _ ?_
  rw [len_of S_w2 N_w2]
  show Steps p.tables e below (T3.setTop (mkF m 18 #[.val (.ref o0), .val (.int i1)] [(.int z_w2), (.int i1)])) _
  refine XS.icmpNo X3.here hx rfl (hb hby d3_18) rfl (tlt hc18).2.1 ?_
  show Steps p.tables e below (T3.setTop (mkF m 21 #[.val (.ref o0), .val (.int i1)] [])) _
  refine XS.aloadN X3.here hx rfl (hb hby d3_21) rfl rfl ?_
  show Steps p.tables e below (T3.setTop (mkF m 22 #[.val (.ref o0), .val (.int i1)] [(.ref o0)])) _
  refine XS.iloadN X3.here hx rfl (hb hby d3_22) rfl ?_
  show Steps p.tables e below (T3.setTop (mkF m 23 #[.val (.ref o0), .val (.int i1)] [(.int i1), (.ref o0)])) _
  refine X3.baloadBytes hx (j := i1) (v := (.int w4)) (by rw [e3]; exact Ar_o0.1) (State.isArrayOf_alike hZ.alike Ar_o0.2.1) Ar_o0.2.2 hin23 hat23 (g := (mkF m 23 #[.val (.ref o0), .val (.int i1)] [(.int i1), (.ref o0)])) rfl rfl (hb hby d3_23) _ ?_
  show Steps p.tables e below (T3.setTop (mkF m 24 #[.val (.ref o0), .val (.int i1)] [(.int w4)])) _
  refine st5 _ ?_
  show Steps p.tables e below (T5.setTop (mkF m 27 #[.val (.ref o0), .val (.int i1)] [(.ref w2), (.int w4)])) _
  refine XS.iloadN X5.here hx rfl (hb hby d3_27) rfl ?_
  show Steps p.tables e below (T5.setTop (mkF m 28 #[.val (.ref o0), .val (.int i1)] [(.int i1), (.ref w2), (.int w4)])) _
  refine X5.baloadBytes hx (j := i1) (v := (.int w6)) (by rw [e5]; exact Ar_w2.1) (State.isArrayOf_alike hZ.alike Ar_w2.2.1) Ar_w2.2.2 hin28 hat28 (g := (mkF m 28 #[.val (.ref o0), .val (.int i1)] [(.int i1), (.ref w2), (.int w4)])) rfl rfl (hb hby d3_28) _ ?_
  show Steps p.tables e below (T5.setTop (mkF m 29 #[.val (.ref o0), .val (.int i1)] [(.int w6), (.int w4)])) _
  refine XS.icmpYes X5.here hx rfl (pc0 := 29) (pc' := 34) rfl (hb hby d3_29) rfl (teq hc29).1 (by decide) (by decide) ?_
  show Steps p.tables e below (T5.setTop (mkF m 34 #[.val (.ref o0), .val (.int i1)] [])) _
  refine XS.iinc X5.here hx rfl (hb hby d3_34) rfl (l' := #[.val (.ref o0), .val (.int (i1 + (1 : Int32)))]) rfl ?_
  show Steps p.tables e below (T5.setTop (mkF m 37 #[.val (.ref o0), .val (.int (i1 + (1 : Int32)))] [])) _
  refine XS.goto X5.here hx rfl (pc0 := 37) (pc' := 13) rfl (hb hby d3_37) (by decide) (by decide) ?_
  exact kt
set_option maxRecDepth 65536 in
set_option maxHeartbeats 40000000 in
theorem tn3_13_32 {p : Program} {l : Launch} {e : Env} {R : Room} {s : State} {m : MethodId} {args : Array Value} {below : List Frame} {meth : Method} {c : Code} {T0 : State} {locs : List Loc} {cells slots : Nat} {Z : State} {a0 : Array Value} {h0 : Heap} (o0 : Addr) (i1 : Int32) (w2 : Addr) (cl_w2 : Cell) (z_w2 : Int32) (w4 : Int32) (cl_o0 : Cell) (w6 : Int32)
    (X0 : Stand p l e R s m args below meth c T0 locs cells slots) (hx : p.tables.exec = Jvm.exec) (hZ : Z.Warmed39 s.vm) (hw : ∀ d ∈ tables_1, d.before a0 Z = true) (hby : c.code = prog_11_method_2_code) (hml : c.maxLocals = 2) (hown : s.vm.findClass "com/example/bandmark/bandmark/ReceiverExportReader" = some m.cls) (e0 : T0.heap = h0) (S_SIGNATURE : Sta Z h0 "com/example/bandmark/bandmark/ReceiverExportReader" "SIGNATURE" "[B" (.ref w2)) (Ar_w2 : Arr Z h0 w2 cl_w2 .byte) (S_w2 : cl_w2.slots.size = z_w2.toNatClampNeg) (N_w2 : ¬ z_w2 < 0) (Ar_o0 : Arr Z h0 o0 cl_o0 .byte) (hin23 : ¬ (i1 < 0 ∨ cl_o0.slots.size ≤ (i1).toNatClampNeg)) (hat23 : cl_o0.slots[(i1).toNatClampNeg]? = some (.int w4)) (hin28 : ¬ (i1 < 0 ∨ cl_w2.slots.size ≤ (i1).toNatClampNeg)) (hat28 : cl_w2.slots[(i1).toNatClampNeg]? = some (.int w6)) (hc18 : i1 < z_w2) (hc29 : ¬ (w4 = w6)) :
    ∃ (T' : State), Stand p l e R s m args below meth c T' locs cells slots ∧ T'.heap = h0 ∧
      ∀ target, Steps p.tables e below (T'.setTop (mkF m 32 #[.val (.ref o0), .val (.int i1)] [])) target → Steps p.tables e below (T0.setTop (mkF m 13 #[.val (.ref o0), .val (.int i1)] [])) target := by
  obtain ⟨T3, X3, e3, st3⟩ := getS2 X0 hx hZ hown (host := "") (Or.inl (hw _ (List.mem_of_getElem? (i := 12) rfl))) Via.refl e0 S_SIGNATURE (g := (mkF m 14 #[.val (.ref o0), .val (.int i1)] [(.int i1)])) rfl (hb hby d3_14)
  obtain ⟨T5, X5, e5, st5⟩ := getS2 X3 hx hZ hown (host := "") (Or.inl (hw _ (List.mem_of_getElem? (i := 12) rfl))) Via.refl e3 S_SIGNATURE (g := (mkF m 24 #[.val (.ref o0), .val (.int i1)] [(.int w4)])) rfl (hb hby d3_24)
  refine ⟨T5, X5, e5, fun target kt => ?_⟩
  show Steps p.tables e below (T0.setTop (mkF m 13 #[.val (.ref o0), .val (.int i1)] [])) _
  refine XS.iloadN X0.here hx rfl (hb hby d3_13) rfl ?_
  show Steps p.tables e below (T0.setTop (mkF m 14 #[.val (.ref o0), .val (.int i1)] [(.int i1)])) _
  refine st3 _ ?_
  show Steps p.tables e below (T3.setTop (mkF m 17 #[.val (.ref o0), .val (.int i1)] [(.ref w2), (.int i1)])) _
  refine X3.arraylength hx (by rw [e3]; exact Ar_w2.1) (State.isArrayOf_alike hZ.alike Ar_w2.2.1) (g := (mkF m 17 #[.val (.ref o0), .val (.int i1)] [(.ref w2), (.int i1)])) rfl rfl (hb hby d3_17) _ ?_
  rw [len_of S_w2 N_w2]
  show Steps p.tables e below (T3.setTop (mkF m 18 #[.val (.ref o0), .val (.int i1)] [(.int z_w2), (.int i1)])) _
  refine XS.icmpNo X3.here hx rfl (hb hby d3_18) rfl (tlt hc18).2.1 ?_
  show Steps p.tables e below (T3.setTop (mkF m 21 #[.val (.ref o0), .val (.int i1)] [])) _
  refine XS.aloadN X3.here hx rfl (hb hby d3_21) rfl rfl ?_
  show Steps p.tables e below (T3.setTop (mkF m 22 #[.val (.ref o0), .val (.int i1)] [(.ref o0)])) _
  refine XS.iloadN X3.here hx rfl (hb hby d3_22) rfl ?_
  show Steps p.tables e below (T3.setTop (mkF m 23 #[.val (.ref o0), .val (.int i1)] [(.int i1), (.ref o0)])) _
  refine X3.baloadBytes hx (j := i1) (v := (.int w4)) (by rw [e3]; exact Ar_o0.1) (State.isArrayOf_alike hZ.alike Ar_o0.2.1) Ar_o0.2.2 hin23 hat23 (g := (mkF m 23 #[.val (.ref o0), .val (.int i1)] [(.int i1), (.ref o0)])) rfl rfl (hb hby d3_23) _ ?_
  show Steps p.tables e below (T3.setTop (mkF m 24 #[.val (.ref o0), .val (.int i1)] [(.int w4)])) _
  refine st5 _ ?_
  show Steps p.tables e below (T5.setTop (mkF m 27 #[.val (.ref o0), .val (.int i1)] [(.ref w2), (.int w4)])) _
  refine XS.iloadN X5.here hx rfl (hb hby d3_27) rfl ?_
  show Steps p.tables e below (T5.setTop (mkF m 28 #[.val (.ref o0), .val (.int i1)] [(.int i1), (.ref w2), (.int w4)])) _
  refine X5.baloadBytes hx (j := i1) (v := (.int w6)) (by rw [e5]; exact Ar_w2.1) (State.isArrayOf_alike hZ.alike Ar_w2.2.1) Ar_w2.2.2 hin28 hat28 (g := (mkF m 28 #[.val (.ref o0), .val (.int i1)] [(.int i1), (.ref w2), (.int w4)])) rfl rfl (hb hby d3_28) _ ?_
  show Steps p.tables e below (T5.setTop (mkF m 29 #[.val (.ref o0), .val (.int i1)] [(.int w6), (.int w4)])) _
  refine XS.icmpNo X5.here hx rfl (hb hby d3_29) rfl (feq hc29).1 ?_
  exact kt
set_option maxRecDepth 65536 in
set_option maxHeartbeats 40000000 in
theorem tn3_13_40 {p : Program} {l : Launch} {e : Env} {R : Room} {s : State} {m : MethodId} {args : Array Value} {below : List Frame} {meth : Method} {c : Code} {T0 : State} {locs : List Loc} {cells slots : Nat} {Z : State} {a0 : Array Value} {h0 : Heap} (s0 : Slot) (i1 : Int32) (w2 : Addr) (cl_w2 : Cell) (z_w2 : Int32)
    (X0 : Stand p l e R s m args below meth c T0 locs cells slots) (hx : p.tables.exec = Jvm.exec) (hZ : Z.Warmed39 s.vm) (hw : ∀ d ∈ tables_1, d.before a0 Z = true) (hby : c.code = prog_11_method_2_code) (hml : c.maxLocals = 2) (hown : s.vm.findClass "com/example/bandmark/bandmark/ReceiverExportReader" = some m.cls) (e0 : T0.heap = h0) (S_SIGNATURE : Sta Z h0 "com/example/bandmark/bandmark/ReceiverExportReader" "SIGNATURE" "[B" (.ref w2)) (Ar_w2 : Arr Z h0 w2 cl_w2 .byte) (S_w2 : cl_w2.slots.size = z_w2.toNatClampNeg) (N_w2 : ¬ z_w2 < 0) (hc18 : ¬ (i1 < z_w2)) :
    ∃ (T' : State), Stand p l e R s m args below meth c T' locs cells slots ∧ T'.heap = h0 ∧
      ∀ target, Steps p.tables e below (T'.setTop (mkF m 40 #[s0, .val (.int i1)] [])) target → Steps p.tables e below (T0.setTop (mkF m 13 #[s0, .val (.int i1)] [])) target := by
  obtain ⟨T3, X3, e3, st3⟩ := getS2 X0 hx hZ hown (host := "") (Or.inl (hw _ (List.mem_of_getElem? (i := 12) rfl))) Via.refl e0 S_SIGNATURE (g := (mkF m 14 #[s0, .val (.int i1)] [(.int i1)])) rfl (hb hby d3_14)
  refine ⟨T3, X3, e3, fun target kt => ?_⟩
  show Steps p.tables e below (T0.setTop (mkF m 13 #[s0, .val (.int i1)] [])) _
  refine XS.iloadN X0.here hx rfl (hb hby d3_13) rfl ?_
  show Steps p.tables e below (T0.setTop (mkF m 14 #[s0, .val (.int i1)] [(.int i1)])) _
  refine st3 _ ?_
  show Steps p.tables e below (T3.setTop (mkF m 17 #[s0, .val (.int i1)] [(.ref w2), (.int i1)])) _
  refine X3.arraylength hx (by rw [e3]; exact Ar_w2.1) (State.isArrayOf_alike hZ.alike Ar_w2.2.1) (g := (mkF m 17 #[s0, .val (.int i1)] [(.ref w2), (.int i1)])) rfl rfl (hb hby d3_17) _ ?_
  rw [len_of S_w2 N_w2]
  show Steps p.tables e below (T3.setTop (mkF m 18 #[s0, .val (.int i1)] [(.int z_w2), (.int i1)])) _
  refine XS.icmpYes X3.here hx rfl (pc0 := 18) (pc' := 40) rfl (hb hby d3_18) rfl (flt hc18).2.1 (by decide) (by decide) ?_
  exact kt
theorem own_loop {p : Program} {l : Launch} {e : Env} {R : Room} {s : State} {m : MethodId} {args : Array Value} {below : List Frame} {meth : Method} {c : Code} {locs : List Loc} {cells slots : Nat} {Z : State} {a0 : Array Value} {h0 : Heap} (o0 w2 : Addr) (co cw : Cell) (f g : Nat → Int32) (n : Nat) (hn : n < 8) (h5 : 5 ≤ n) (hx : p.tables.exec = Jvm.exec) (hZ : Z.Warmed39 s.vm) (hw : ∀ d ∈ tables_1, d.before a0 Z = true) (hby : c.code = prog_11_method_2_code) (hml : c.maxLocals = 2) (hown : s.vm.findClass "com/example/bandmark/bandmark/ReceiverExportReader" = some m.cls) (S_S : Sta Z h0 "com/example/bandmark/bandmark/ReceiverExportReader" "SIGNATURE" "[B" (.ref w2)) (Ar_w : Arr Z h0 w2 cw .byte) (hSw : cw.slots.size = 5) (hatw : ∀ j, j < 5 → cw.slots[j]? = some (.int (g j))) (Ar : Arr Z h0 o0 co .byte) (hS : co.slots.size = n) (hat : ∀ j, j < n → co.slots[j]? = some (.int (f j))) :
    ∀ (k i : Nat), i + k = 5 → ∀ (T0 : State), Stand p l e R s m args below meth c T0 locs cells slots → T0.heap = h0 →
      ∃ T' : State, Stand p l e R s m args below meth c T' locs cells slots ∧ T'.heap = h0 ∧
        ((∃ j, i ≤ j ∧ j < 5 ∧ f j ≠ g j ∧ ∀ target, Steps p.tables e below (T'.setTop (mkF m 32 #[.val (.ref o0), .val (.int (Int32.ofNat j))] [])) target → Steps p.tables e below (T0.setTop (mkF m 13 #[.val (.ref o0), .val (.int (Int32.ofNat i))] [])) target) ∨
         ((∀ j, i ≤ j → j < 5 → f j = g j) ∧ ∀ target, Steps p.tables e below (T'.setTop (mkF m 40 #[.val (.ref o0), .val (.int (Int32.ofNat 5))] [])) target → Steps p.tables e below (T0.setTop (mkF m 13 #[.val (.ref o0), .val (.int (Int32.ofNat i))] [])) target)) := by
  intro k
  induction k with
  | zero =>
    intro i hi T0 X0 e0
    obtain rfl : i = 5 := by omega
    obtain ⟨T', X', e', st⟩ := tn3_13_40 (.val (.ref o0)) (Int32.ofNat 5) w2 cw 5 X0 hx hZ hw hby hml hown e0 S_S Ar_w hSw (by decide) (by decide)
    exact ⟨T', X', e', Or.inr ⟨fun j h1 h2 => by omega, st⟩⟩
  | succ k ih =>
    intro i hi T0 X0 e0
    have hi5 : i < 5 := by omega
    obtain ⟨b1, b2, b3, b4⟩ := own_i 5 (by decide) i hi5
    have hin : ¬ (Int32.ofNat i < 0 ∨ co.slots.size ≤ (Int32.ofNat i).toNatClampNeg) := by rw [b1, hS]; exact fun q => q.elim b2 (by omega)
    have hinw : ¬ (Int32.ofNat i < 0 ∨ cw.slots.size ≤ (Int32.ofNat i).toNatClampNeg) := by rw [b1, hSw]; exact fun q => q.elim b2 (by omega)
    have ha : co.slots[(Int32.ofNat i).toNatClampNeg]? = some (.int (f i)) := by rw [b1]; exact hat i (by omega)
    have haw : cw.slots[(Int32.ofNat i).toNatClampNeg]? = some (.int (g i)) := by rw [b1]; exact hatw i hi5
    by_cases q : f i = g i
    · obtain ⟨T1, X1, e1, st⟩ := tn3_13_13 o0 (Int32.ofNat i) w2 cw 5 (f i) co (g i) X0 hx hZ hw hby hml hown e0 S_S Ar_w hSw (by decide) Ar hin ha hinw haw b3 q
      rw [b4] at st
      obtain ⟨T', X', e', hh⟩ := ih (i + 1) (by omega) T1 X1 e1
      refine ⟨T', X', e', ?_⟩
      rcases hh with ⟨j, j1, j2, j3, st'⟩ | ⟨hn, st'⟩
      · exact Or.inl ⟨j, by omega, j2, j3, fun t kt => st t (st' t kt)⟩
      · refine Or.inr ⟨fun j h1 h2 => ?_, fun t kt => st t (st' t kt)⟩
        by_cases e : j = i
        · subst e; exact q
        · exact hn j (by omega) h2
    · obtain ⟨T', X', e', st⟩ := tn3_13_32 o0 (Int32.ofNat i) w2 cw 5 (f i) co (g i) X0 hx hZ hw hby hml hown e0 S_S Ar_w hSw (by decide) Ar hin ha hinw haw b3 q
      exact ⟨T', X', e', Or.inl ⟨i, Nat.le_refl _, hi5, q, st⟩⟩
def own_rc (n : Nat) (f g : Nat → Int32) : Int32 := if 5 ≤ n ∧ f 0 = g 0 ∧ f 1 = g 1 ∧ f 2 = g 2 ∧ f 3 = g 3 ∧ f 4 = g 4 then 1 else 0
theorem own_five (f g : Nat → Int32) : (f 0 = g 0 ∧ f 1 = g 1 ∧ f 2 = g 2 ∧ f 3 = g 3 ∧ f 4 = g 4) ↔ (∀ j, j < 5 → f j = g j) := by
  constructor
  · rintro ⟨a0, a1, a2, a3, a4⟩ j hj
    rcases (by omega : j = 0 ∨ j = 1 ∨ j = 2 ∨ j = 3 ∨ j = 4) with rfl | rfl | rfl | rfl | rfl <;> assumption
  · intro h
    exact ⟨h 0 (by decide), h 1 (by decide), h 2 (by decide), h 3 (by decide), h 4 (by decide)⟩
theorem d3_0 : decode prog_11_method_2_code 0 = .ok (.aload_n 0, 1) := by decide +kernel
theorem d3_1 : decode prog_11_method_2_code 1 = .ok (.arraylength, 1) := by decide +kernel
theorem d3_2 : decode prog_11_method_2_code 2 = .ok (.getstatic 27, 3) := by decide +kernel
theorem d3_5 : decode prog_11_method_2_code 5 = .ok (.arraylength, 1) := by decide +kernel
theorem d3_6 : decode prog_11_method_2_code 6 = .ok (.if_icmp .ge 5, 3) := by decide +kernel
theorem d3_9 : decode prog_11_method_2_code 9 = .ok (.iconst 0, 1) := by decide +kernel
theorem d3_10 : decode prog_11_method_2_code 10 = .ok (.ireturn, 1) := by decide +kernel
theorem pn_3 : plainName "com/example/bandmark/bandmark/ReceiverExportReader" = true := by first | (simp [plainName, overriddenIn]; done) | decide +kernel
theorem ef_3 (m : MethodId) (x0 : Addr) : entryFrame m #[(.ref x0)] 2 = mkF m 0 #[.val (.ref x0), .unset] [] := by first | (simp [entryFrame, mkF, argsToLocals, Value.category]; done) | rfl
theorem own_lt5 : ∀ n : Nat, n < 8 → ¬ 5 ≤ n → Int32.ofNat n < 5 := by decide
theorem own_ge5 : ∀ n : Nat, n < 8 → 5 ≤ n → ¬ Int32.ofNat n < 5 := by decide
set_option maxRecDepth 65536 in
set_option maxHeartbeats 40000000 in
theorem r3s (l : Launch) (Z : State) (a0 : Array Value) (hw : ∀ d ∈ tables_1, d.before a0 Z = true) (ws : List Jvm.Cond) (a1 : Addr) (n : Nat) (f g : Nat → Int32) (w2 : Addr) (cw : Cell) (h0 : Heap) (n0 : Nat) (Z0 : n0 ≤ h0.size) (hn : n < 8) (S_S : Sta Z h0 "com/example/bandmark/bandmark/ReceiverExportReader" "SIGNATURE" "[B" (.ref w2)) (Ar_w : Arr Z h0 w2 cw .byte) (hSw : cw.slots.size = 5) (hatw : ∀ j, j < 5 → cw.slots[j]? = some (.int (g j))) (B : own_Ba Z h0 a1 n f) (h5 : ¬ 5 ≤ n) :
    MetFree l (⟨"com/example/bandmark/bandmark/ReceiverExportReader", "recognises", "([B)Z"⟩ : MethodName) (head1 (Jvm.Cond.code (⟨"com/example/bandmark/bandmark/ReceiverExportReader", "recognises", "([B)Z"⟩ : MethodName) prog_11_method_2_code 2 (some .boolean) :: ws) ({ frames := 0, cells := 0, slots := 0, locals := 0 } : Room)) (fun a U => a = #[(.ref a1)] ∧ Z.Warmed39 U.vm ∧ U.heap = h0) (fun _ _ _ _ _ => True) (fun _ U o U' => ∃ v L, o = .returned v ∧ QR (some (.int (own_rc n f g))) h0 n0 v U'.heap L ∧ FrameEnd U o U' L ({ frames := 0, cells := 0, slots := 0, locals := 0 } : Room).cells ({ frames := 0, cells := 0, slots := 0, locals := 0 } : Room).slots) := by
  obtain ⟨cl, Ar, hS, hat⟩ := B
  rw [show own_rc n f g = 0 by simp [own_rc, h5]]
  refine MetFree.of_bodySF (plainFor_of_name pn_3) hisR ?_
  intro p e s m args below meth c s₁ Bd hml0 hP hK
  obtain ⟨rfl, hZ, hh⟩ := hP
  have hx := Bd.exec
  have hby := Bd.bytes
  have hml : c.maxLocals = 2 := hml0
  have hown : s.vm.findClass "com/example/bandmark/bandmark/ReceiverExportReader" = some m.cls := findClass_of_methodNamed Bd.named
  have hnm := (name_of_methodNamed Bd.named Bd.method).1
  have X0 : Stand p l e ({ frames := 0, cells := 0, slots := 0, locals := 0 } : Room) s m #[(.ref a1)] below meth c s₁ [] 0 0 := Stand.of_body Bd
  have e0 : s₁.heap = h0 := by rw [← hh, Bd.state]; rfl
  have N0 := Fr.nil n0
  have pre0 : ∀ t, Steps p.tables e below (s₁.setTop (mkF m 0 #[.val (.ref a1), .unset] [])) t → Steps p.tables e below (s₁.setTop (entryFrame m #[(.ref a1)] 2)) t := fun t k => castTop (ef_3 m a1) k
  obtain ⟨T3, X3, e3, st3⟩ := getS2 X0 hx hZ hown (host := "") (Or.inl (hw _ (List.mem_of_getElem? (i := 12) rfl))) Via.refl e0 S_S (g := (mkF m 2 #[.val (.ref a1), .unset] [(.int (Int32.ofNat n))])) rfl (hb hby d3_2)
  obtain ⟨fs, hr, hrun, hended, hW, hsame⟩ := X3.leave (v := some (.int (0 : Int32))) (fun h => by rw [Bd.returns] at h; cases h)
  refine ⟨_, _, pre0 _ ?_, hrun, hended, _, _, rfl, ?_, ⟨_, rfl⟩, hW, hsame.mono (by decide) (by decide)⟩
  · show Steps p.tables e below (s₁.setTop (mkF m 0 #[.val (.ref a1), .unset] [])) _
    refine XS.aloadN X0.here hx rfl (hb hby d3_0) rfl rfl ?_
    show Steps p.tables e below (s₁.setTop (mkF m 1 #[.val (.ref a1), .unset] [(.ref a1)])) _
    refine X0.arraylength hx (by rw [e0]; exact Ar.1) (State.isArrayOf_alike hZ.alike Ar.2.1) (g := (mkF m 1 #[.val (.ref a1), .unset] [(.ref a1)])) rfl rfl (hb hby d3_1) _ ?_
    rw [len_of (hS.trans (own_n n hn).1.symm) (own_n n hn).2.1]
    show Steps p.tables e below (s₁.setTop (mkF m 2 #[.val (.ref a1), .unset] [(.int (Int32.ofNat n))])) _
    refine st3 _ ?_
    show Steps p.tables e below (T3.setTop (mkF m 5 #[.val (.ref a1), .unset] [(.ref w2), (.int (Int32.ofNat n))])) _
    refine X3.arraylength hx (by rw [e3]; exact Ar_w.1) (State.isArrayOf_alike hZ.alike Ar_w.2.1) (g := (mkF m 5 #[.val (.ref a1), .unset] [(.ref w2), (.int (Int32.ofNat n))])) rfl rfl (hb hby d3_5) _ ?_
    rw [len_of (z := (5 : Int32)) hSw (by decide)]
    show Steps p.tables e below (T3.setTop (mkF m 6 #[.val (.ref a1), .unset] [(.int (5 : Int32)), (.int (Int32.ofNat n))])) _
    refine XS.icmpNo X3.here hx rfl (hb hby d3_6) rfl (tlt (own_lt5 n hn h5)).2.1 ?_
    show Steps p.tables e below (T3.setTop (mkF m 9 #[.val (.ref a1), .unset] [])) _
    refine XS.iconst X3.here hx rfl (hb hby d3_9) ?_
    show Steps p.tables e below (T3.setTop (mkF m 10 #[.val (.ref a1), .unset] [(.int (0 : Int32))])) _
    exact retN X3 hx (t := .boolean) Bd.returns (by simp) (hb hby d3_10) hr
  · show QR _ h0 n0 _ T3.heap _
    rw [e3]
    exact ⟨rfl, N0, rfl⟩
theorem d3_11 : decode prog_11_method_2_code 11 = .ok (.iconst 0, 1) := by decide +kernel
theorem d3_12 : decode prog_11_method_2_code 12 = .ok (.istore_n 1, 1) := by decide +kernel
theorem d3_40 : decode prog_11_method_2_code 40 = .ok (.iconst 1, 1) := by decide +kernel
theorem d3_41 : decode prog_11_method_2_code 41 = .ok (.ireturn, 1) := by decide +kernel
theorem d3_32 : decode prog_11_method_2_code 32 = .ok (.iconst 0, 1) := by decide +kernel
theorem d3_33 : decode prog_11_method_2_code 33 = .ok (.ireturn, 1) := by decide +kernel
set_option maxRecDepth 65536 in
set_option maxHeartbeats 40000000 in
theorem r3l (l : Launch) (Z : State) (a0 : Array Value) (hw : ∀ d ∈ tables_1, d.before a0 Z = true) (ws : List Jvm.Cond) (a1 : Addr) (n : Nat) (f g : Nat → Int32) (w2 : Addr) (cw : Cell) (h0 : Heap) (n0 : Nat) (Z0 : n0 ≤ h0.size) (hn : n < 8) (S_S : Sta Z h0 "com/example/bandmark/bandmark/ReceiverExportReader" "SIGNATURE" "[B" (.ref w2)) (Ar_w : Arr Z h0 w2 cw .byte) (hSw : cw.slots.size = 5) (hatw : ∀ j, j < 5 → cw.slots[j]? = some (.int (g j))) (B : own_Ba Z h0 a1 n f) (h5 : 5 ≤ n) :
    MetFree l (⟨"com/example/bandmark/bandmark/ReceiverExportReader", "recognises", "([B)Z"⟩ : MethodName) (head1 (Jvm.Cond.code (⟨"com/example/bandmark/bandmark/ReceiverExportReader", "recognises", "([B)Z"⟩ : MethodName) prog_11_method_2_code 2 (some .boolean) :: ws) ({ frames := 0, cells := 0, slots := 0, locals := 0 } : Room)) (fun a U => a = #[(.ref a1)] ∧ Z.Warmed39 U.vm ∧ U.heap = h0) (fun _ _ _ _ _ => True) (fun _ U o U' => ∃ v L, o = .returned v ∧ QR (some (.int (own_rc n f g))) h0 n0 v U'.heap L ∧ FrameEnd U o U' L ({ frames := 0, cells := 0, slots := 0, locals := 0 } : Room).cells ({ frames := 0, cells := 0, slots := 0, locals := 0 } : Room).slots) := by
  obtain ⟨cl, Ar, hS, hat⟩ := B
  refine MetFree.of_bodySF (plainFor_of_name pn_3) hisR ?_
  intro p e s m args below meth c s₁ Bd hml0 hP hK
  obtain ⟨rfl, hZ, hh⟩ := hP
  have hx := Bd.exec
  have hby := Bd.bytes
  have hml : c.maxLocals = 2 := hml0
  have hown : s.vm.findClass "com/example/bandmark/bandmark/ReceiverExportReader" = some m.cls := findClass_of_methodNamed Bd.named
  have hnm := (name_of_methodNamed Bd.named Bd.method).1
  have X0 : Stand p l e ({ frames := 0, cells := 0, slots := 0, locals := 0 } : Room) s m #[(.ref a1)] below meth c s₁ [] 0 0 := Stand.of_body Bd
  have e0 : s₁.heap = h0 := by rw [← hh, Bd.state]; rfl
  have N0 := Fr.nil n0
  have pre0 : ∀ t, Steps p.tables e below (s₁.setTop (mkF m 0 #[.val (.ref a1), .unset] [])) t → Steps p.tables e below (s₁.setTop (entryFrame m #[(.ref a1)] 2)) t := fun t k => castTop (ef_3 m a1) k
  obtain ⟨T3, X3, e3, st3⟩ := getS2 X0 hx hZ hown (host := "") (Or.inl (hw _ (List.mem_of_getElem? (i := 12) rfl))) Via.refl e0 S_S (g := (mkF m 2 #[.val (.ref a1), .unset] [(.int (Int32.ofNat n))])) rfl (hb hby d3_2)
  obtain ⟨TL, XL, eL, hL⟩ := own_loop a1 w2 cl cw f g n hn h5 hx hZ hw hby hml hown S_S Ar_w hSw hatw Ar hS hat 5 0 rfl T3 X3 e3
  rcases hL with ⟨j, -, j2, j3, stL⟩ | ⟨hne, stL⟩
  · rw [show own_rc n f g = 0 from if_neg fun q => j3 ((own_five f g).mp q.2 j j2)]
    obtain ⟨fs, hr, hrun, hended, hW, hsame⟩ := XL.leave (v := some (.int (0 : Int32))) (fun h => by rw [Bd.returns] at h; cases h)
    refine ⟨_, _, pre0 _ ?_, hrun, hended, _, _, rfl, ?_, ⟨_, rfl⟩, hW, hsame.mono (by decide) (by decide)⟩
    · show Steps p.tables e below (s₁.setTop (mkF m 0 #[.val (.ref a1), .unset] [])) _
      refine XS.aloadN X0.here hx rfl (hb hby d3_0) rfl rfl ?_
      show Steps p.tables e below (s₁.setTop (mkF m 1 #[.val (.ref a1), .unset] [(.ref a1)])) _
      refine X0.arraylength hx (by rw [e0]; exact Ar.1) (State.isArrayOf_alike hZ.alike Ar.2.1) (g := (mkF m 1 #[.val (.ref a1), .unset] [(.ref a1)])) rfl rfl (hb hby d3_1) _ ?_
      rw [len_of (hS.trans (own_n n hn).1.symm) (own_n n hn).2.1]
      show Steps p.tables e below (s₁.setTop (mkF m 2 #[.val (.ref a1), .unset] [(.int (Int32.ofNat n))])) _
      refine st3 _ ?_
      show Steps p.tables e below (T3.setTop (mkF m 5 #[.val (.ref a1), .unset] [(.ref w2), (.int (Int32.ofNat n))])) _
      refine X3.arraylength hx (by rw [e3]; exact Ar_w.1) (State.isArrayOf_alike hZ.alike Ar_w.2.1) (g := (mkF m 5 #[.val (.ref a1), .unset] [(.ref w2), (.int (Int32.ofNat n))])) rfl rfl (hb hby d3_5) _ ?_
      rw [len_of (z := (5 : Int32)) hSw (by decide)]
      show Steps p.tables e below (T3.setTop (mkF m 6 #[.val (.ref a1), .unset] [(.int (5 : Int32)), (.int (Int32.ofNat n))])) _
      refine XS.icmpYes X3.here hx rfl (pc0 := 6) (pc' := 11) rfl (hb hby d3_6) rfl (flt (own_ge5 n hn h5)).2.1 (by decide) (by decide) ?_
      show Steps p.tables e below (T3.setTop (mkF m 11 #[.val (.ref a1), .unset] [])) _
      refine XS.iconst X3.here hx rfl (hb hby d3_11) ?_
      show Steps p.tables e below (T3.setTop (mkF m 12 #[.val (.ref a1), .unset] [(.int (0 : Int32))])) _
      refine XS.istoreN X3.here hx rfl (hb hby d3_12) rfl (l' := #[.val (.ref a1), .val (.int (0 : Int32))]) rfl ?_
      show Steps p.tables e below (T3.setTop (mkF m 13 #[.val (.ref a1), .val (.int (0 : Int32))] [])) _
      refine stL _ ?_
      refine XS.iconst XL.here hx rfl (hb hby d3_32) ?_
      exact retN XL hx (t := .boolean) Bd.returns (by simp) (hb hby d3_33) hr
    · show QR _ h0 n0 _ TL.heap _
      rw [eL]
      exact ⟨rfl, N0, rfl⟩
  · rw [show own_rc n f g = 1 from if_pos ⟨h5, (own_five f g).mpr fun j q => hne j (Nat.zero_le _) q⟩]
    obtain ⟨fs, hr, hrun, hended, hW, hsame⟩ := XL.leave (v := some (.int (1 : Int32))) (fun h => by rw [Bd.returns] at h; cases h)
    refine ⟨_, _, pre0 _ ?_, hrun, hended, _, _, rfl, ?_, ⟨_, rfl⟩, hW, hsame.mono (by decide) (by decide)⟩
    · show Steps p.tables e below (s₁.setTop (mkF m 0 #[.val (.ref a1), .unset] [])) _
      refine XS.aloadN X0.here hx rfl (hb hby d3_0) rfl rfl ?_
      show Steps p.tables e below (s₁.setTop (mkF m 1 #[.val (.ref a1), .unset] [(.ref a1)])) _
      refine X0.arraylength hx (by rw [e0]; exact Ar.1) (State.isArrayOf_alike hZ.alike Ar.2.1) (g := (mkF m 1 #[.val (.ref a1), .unset] [(.ref a1)])) rfl rfl (hb hby d3_1) _ ?_
      rw [len_of (hS.trans (own_n n hn).1.symm) (own_n n hn).2.1]
      show Steps p.tables e below (s₁.setTop (mkF m 2 #[.val (.ref a1), .unset] [(.int (Int32.ofNat n))])) _
      refine st3 _ ?_
      show Steps p.tables e below (T3.setTop (mkF m 5 #[.val (.ref a1), .unset] [(.ref w2), (.int (Int32.ofNat n))])) _
      refine X3.arraylength hx (by rw [e3]; exact Ar_w.1) (State.isArrayOf_alike hZ.alike Ar_w.2.1) (g := (mkF m 5 #[.val (.ref a1), .unset] [(.ref w2), (.int (Int32.ofNat n))])) rfl rfl (hb hby d3_5) _ ?_
      rw [len_of (z := (5 : Int32)) hSw (by decide)]
      show Steps p.tables e below (T3.setTop (mkF m 6 #[.val (.ref a1), .unset] [(.int (5 : Int32)), (.int (Int32.ofNat n))])) _
      refine XS.icmpYes X3.here hx rfl (pc0 := 6) (pc' := 11) rfl (hb hby d3_6) rfl (flt (own_ge5 n hn h5)).2.1 (by decide) (by decide) ?_
      show Steps p.tables e below (T3.setTop (mkF m 11 #[.val (.ref a1), .unset] [])) _
      refine XS.iconst X3.here hx rfl (hb hby d3_11) ?_
      show Steps p.tables e below (T3.setTop (mkF m 12 #[.val (.ref a1), .unset] [(.int (0 : Int32))])) _
      refine XS.istoreN X3.here hx rfl (hb hby d3_12) rfl (l' := #[.val (.ref a1), .val (.int (0 : Int32))]) rfl ?_
      show Steps p.tables e below (T3.setTop (mkF m 13 #[.val (.ref a1), .val (.int (0 : Int32))] [])) _
      refine stL _ ?_
      refine XS.iconst XL.here hx rfl (hb hby d3_40) ?_
      exact retN XL hx (t := .boolean) Bd.returns (by simp) (hb hby d3_41) hr
    · show QR _ h0 n0 _ TL.heap _
      rw [eL]
      exact ⟨rfl, N0, rfl⟩
theorem r3 (l : Launch) (Z : State) (a0 : Array Value) (hw : ∀ d ∈ tables_1, d.before a0 Z = true) (ws : List Jvm.Cond) (a1 : Addr) (n : Nat) (f g : Nat → Int32) (w2 : Addr) (cw : Cell) (h0 : Heap) (n0 : Nat) (Z0 : n0 ≤ h0.size) (hn : n < 8) (S_S : Sta Z h0 "com/example/bandmark/bandmark/ReceiverExportReader" "SIGNATURE" "[B" (.ref w2)) (Ar_w : Arr Z h0 w2 cw .byte) (hSw : cw.slots.size = 5) (hatw : ∀ j, j < 5 → cw.slots[j]? = some (.int (g j))) (B : own_Ba Z h0 a1 n f) :
    MetFree l (⟨"com/example/bandmark/bandmark/ReceiverExportReader", "recognises", "([B)Z"⟩ : MethodName) (head1 (Jvm.Cond.code (⟨"com/example/bandmark/bandmark/ReceiverExportReader", "recognises", "([B)Z"⟩ : MethodName) prog_11_method_2_code 2 (some .boolean) :: ws) ({ frames := 0, cells := 0, slots := 0, locals := 0 } : Room)) (fun a U => a = #[(.ref a1)] ∧ Z.Warmed39 U.vm ∧ U.heap = h0) (fun _ _ _ _ _ => True) (fun _ U o U' => ∃ v L, o = .returned v ∧ QR (some (.int (own_rc n f g))) h0 n0 v U'.heap L ∧ FrameEnd U o U' L ({ frames := 0, cells := 0, slots := 0, locals := 0 } : Room).cells ({ frames := 0, cells := 0, slots := 0, locals := 0 } : Room).slots) := by
  by_cases h5 : 5 ≤ n
  · exact r3l l Z a0 hw ws a1 n f g w2 cw h0 n0 Z0 hn S_S Ar_w hSw hatw B h5
  · exact r3s l Z a0 hw ws a1 n f g w2 cw h0 n0 Z0 hn S_S Ar_w hSw hatw B h5
theorem os0_205_t {s0 : Slot} {s1 : Slot} {s2 : Slot} {s3 : Slot} {z4 : Value} {s5 : Slot} {s6 : Slot} {s7 : Slot} {s8 : Slot} {s9 : Slot} {s10 : Slot} {s11 : Slot} {s12 : Slot} {s13 : Slot} {s14 : Slot} {v : Int32} (h : One s14) : storeLocals #[s0, s1, s2, s3, .val z4, s5, s6, s7, s8, s9, s10, s11, s12, s13, s14] 14 (.int v) = some #[s0, s1, s2, s3, .val z4, s5, s6, s7, s8, s9, s10, s11, s12, s13, .val (.int v)] := by
  rcases h with rfl | ⟨w, rfl, hw⟩
  · rfl
  · cases w <;> first | rfl | (simp [Value.category] at hw)
set_option maxRecDepth 65536 in
set_option maxHeartbeats 40000000 in
theorem tn0_t {p : Program} {l : Launch} {e : Env} {R : Room} {s : State} {m : MethodId} {args : Array Value} {below : List Frame} {meth : Method} {c : Code} {T0 : State} {locs : List Loc} {cells slots : Nat} {Z : State} {a0 : Array Value} {h0 : Heap} (s0 : Slot) (s1 : Slot) (s2 : Slot) (s3 : Slot) (i4 : Int32) (s5 : Slot) (s6 : Slot) (s7 : Slot) (s8 : Slot) (s9 : Slot) (s10 : Slot) (s11 : Slot) (s12 : Slot) (s13 : Slot) (s14 : Slot)
    (X0 : Stand p l e R s m args below meth c T0 locs cells slots) (hx : p.tables.exec = Jvm.exec) (hZ : Z.Warmed39 s.vm) (hw : ∀ d ∈ tables_1, d.before a0 Z = true) (hby : c.code = code) (hml : c.maxLocals = 15) (hown : s.vm.findClass "com/example/bandmark/bandmark/ReceiverExportReaderRecognisesPinLaw" = some m.cls) (e0 : T0.heap = h0) (hs14 : One s14) (hc162 : i4 < (5 : Int32)) :
    ∃ (T' : State), Stand p l e R s m args below meth c T' locs cells slots ∧ T'.heap = h0 ∧
      ∀ target, Steps p.tables e below (T'.setTop (mkF m 207 #[s0, s1, s2, s3, .val (.int i4), s5, s6, s7, s8, s9, s10, s11, s12, s13, .val (.int (0 : Int32))] [])) target → Steps p.tables e below (T0.setTop (mkF m 159 #[s0, s1, s2, s3, .val (.int i4), s5, s6, s7, s8, s9, s10, s11, s12, s13, s14] [])) target := by
  refine ⟨T0, X0, e0, fun target kt => ?_⟩
  show Steps p.tables e below (T0.setTop (mkF m 159 #[s0, s1, s2, s3, .val (.int i4), s5, s6, s7, s8, s9, s10, s11, s12, s13, s14] [])) _
  refine XS.iload X0.here hx rfl (hb hby at_159) rfl ?_
  show Steps p.tables e below (T0.setTop (mkF m 161 #[s0, s1, s2, s3, .val (.int i4), s5, s6, s7, s8, s9, s10, s11, s12, s13, s14] [(.int i4)])) _
  refine XS.iconst X0.here hx rfl (hb hby at_161) ?_
  show Steps p.tables e below (T0.setTop (mkF m 162 #[s0, s1, s2, s3, .val (.int i4), s5, s6, s7, s8, s9, s10, s11, s12, s13, s14] [(.int (5 : Int32)), (.int i4)])) _
  refine XS.icmpYes X0.here hx rfl (pc0 := 162) (pc' := 204) rfl (hb hby at_162) rfl (tlt hc162).1 (by decide) (by decide) ?_
  show Steps p.tables e below (T0.setTop (mkF m 204 #[s0, s1, s2, s3, .val (.int i4), s5, s6, s7, s8, s9, s10, s11, s12, s13, s14] [])) _
  refine XS.iconst X0.here hx rfl (hb hby at_204) ?_
  show Steps p.tables e below (T0.setTop (mkF m 205 #[s0, s1, s2, s3, .val (.int i4), s5, s6, s7, s8, s9, s10, s11, s12, s13, s14] [(.int (0 : Int32))])) _
  refine XS.istore X0.here hx rfl (hb hby at_205) rfl (l' := #[s0, s1, s2, s3, .val (.int i4), s5, s6, s7, s8, s9, s10, s11, s12, s13, .val (.int (0 : Int32))]) (os0_205_t hs14) ?_
  exact kt
theorem os0_205_ft {s0 : Slot} {s1 : Slot} {s2 : Slot} {s3 : Slot} {z4 : Value} {z5 : Value} {s6 : Slot} {s7 : Slot} {s8 : Slot} {s9 : Slot} {s10 : Slot} {s11 : Slot} {s12 : Slot} {s13 : Slot} {s14 : Slot} {v : Int32} (h : One s14) : storeLocals #[s0, s1, s2, s3, .val z4, .val z5, s6, s7, s8, s9, s10, s11, s12, s13, s14] 14 (.int v) = some #[s0, s1, s2, s3, .val z4, .val z5, s6, s7, s8, s9, s10, s11, s12, s13, .val (.int v)] := by
  rcases h with rfl | ⟨w, rfl, hw⟩
  · rfl
  · cases w <;> first | rfl | (simp [Value.category] at hw)
set_option maxRecDepth 65536 in
set_option maxHeartbeats 40000000 in
theorem tn0_ft {p : Program} {l : Launch} {e : Env} {R : Room} {s : State} {m : MethodId} {args : Array Value} {below : List Frame} {meth : Method} {c : Code} {T0 : State} {locs : List Loc} {cells slots : Nat} {Z : State} {a0 : Array Value} {h0 : Heap} (s0 : Slot) (s1 : Slot) (s2 : Slot) (s3 : Slot) (i4 : Int32) (i5 : Int32) (s6 : Slot) (s7 : Slot) (s8 : Slot) (s9 : Slot) (s10 : Slot) (s11 : Slot) (s12 : Slot) (s13 : Slot) (s14 : Slot)
    (X0 : Stand p l e R s m args below meth c T0 locs cells slots) (hx : p.tables.exec = Jvm.exec) (hZ : Z.Warmed39 s.vm) (hw : ∀ d ∈ tables_1, d.before a0 Z = true) (hby : c.code = code) (hml : c.maxLocals = 15) (hown : s.vm.findClass "com/example/bandmark/bandmark/ReceiverExportReaderRecognisesPinLaw" = some m.cls) (e0 : T0.heap = h0) (hs14 : One s14) (hc162 : ¬ (i4 < (5 : Int32))) (hc169 : ¬ (i5 = (84 : Int32))) :
    ∃ (T' : State), Stand p l e R s m args below meth c T' locs cells slots ∧ T'.heap = h0 ∧
      ∀ target, Steps p.tables e below (T'.setTop (mkF m 207 #[s0, s1, s2, s3, .val (.int i4), .val (.int i5), s6, s7, s8, s9, s10, s11, s12, s13, .val (.int (0 : Int32))] [])) target → Steps p.tables e below (T0.setTop (mkF m 159 #[s0, s1, s2, s3, .val (.int i4), .val (.int i5), s6, s7, s8, s9, s10, s11, s12, s13, s14] [])) target := by
  refine ⟨T0, X0, e0, fun target kt => ?_⟩
  show Steps p.tables e below (T0.setTop (mkF m 159 #[s0, s1, s2, s3, .val (.int i4), .val (.int i5), s6, s7, s8, s9, s10, s11, s12, s13, s14] [])) _
  refine XS.iload X0.here hx rfl (hb hby at_159) rfl ?_
  show Steps p.tables e below (T0.setTop (mkF m 161 #[s0, s1, s2, s3, .val (.int i4), .val (.int i5), s6, s7, s8, s9, s10, s11, s12, s13, s14] [(.int i4)])) _
  refine XS.iconst X0.here hx rfl (hb hby at_161) ?_
  show Steps p.tables e below (T0.setTop (mkF m 162 #[s0, s1, s2, s3, .val (.int i4), .val (.int i5), s6, s7, s8, s9, s10, s11, s12, s13, s14] [(.int (5 : Int32)), (.int i4)])) _
  refine XS.icmpNo X0.here hx rfl (hb hby at_162) rfl (flt hc162).1 ?_
  show Steps p.tables e below (T0.setTop (mkF m 165 #[s0, s1, s2, s3, .val (.int i4), .val (.int i5), s6, s7, s8, s9, s10, s11, s12, s13, s14] [])) _
  refine XS.iload X0.here hx rfl (hb hby at_165) rfl ?_
  show Steps p.tables e below (T0.setTop (mkF m 167 #[s0, s1, s2, s3, .val (.int i4), .val (.int i5), s6, s7, s8, s9, s10, s11, s12, s13, s14] [(.int i5)])) _
  refine XS.bipush X0.here hx rfl (hb hby at_167) ?_
  show Steps p.tables e below (T0.setTop (mkF m 169 #[s0, s1, s2, s3, .val (.int i4), .val (.int i5), s6, s7, s8, s9, s10, s11, s12, s13, s14] [(.int (84 : Int32)), (.int i5)])) _
  refine XS.icmpYes X0.here hx rfl (pc0 := 169) (pc' := 204) rfl (hb hby at_169) rfl (feq hc169).2 (by decide) (by decide) ?_
  show Steps p.tables e below (T0.setTop (mkF m 204 #[s0, s1, s2, s3, .val (.int i4), .val (.int i5), s6, s7, s8, s9, s10, s11, s12, s13, s14] [])) _
  refine XS.iconst X0.here hx rfl (hb hby at_204) ?_
  show Steps p.tables e below (T0.setTop (mkF m 205 #[s0, s1, s2, s3, .val (.int i4), .val (.int i5), s6, s7, s8, s9, s10, s11, s12, s13, s14] [(.int (0 : Int32))])) _
  refine XS.istore X0.here hx rfl (hb hby at_205) rfl (l' := #[s0, s1, s2, s3, .val (.int i4), .val (.int i5), s6, s7, s8, s9, s10, s11, s12, s13, .val (.int (0 : Int32))]) (os0_205_ft hs14) ?_
  exact kt
theorem os0_205_fft {s0 : Slot} {s1 : Slot} {s2 : Slot} {s3 : Slot} {z4 : Value} {z5 : Value} {z6 : Value} {s7 : Slot} {s8 : Slot} {s9 : Slot} {s10 : Slot} {s11 : Slot} {s12 : Slot} {s13 : Slot} {s14 : Slot} {v : Int32} (h : One s14) : storeLocals #[s0, s1, s2, s3, .val z4, .val z5, .val z6, s7, s8, s9, s10, s11, s12, s13, s14] 14 (.int v) = some #[s0, s1, s2, s3, .val z4, .val z5, .val z6, s7, s8, s9, s10, s11, s12, s13, .val (.int v)] := by
  rcases h with rfl | ⟨w, rfl, hw⟩
  · rfl
  · cases w <;> first | rfl | (simp [Value.category] at hw)
set_option maxRecDepth 65536 in
set_option maxHeartbeats 40000000 in
theorem tn0_fft {p : Program} {l : Launch} {e : Env} {R : Room} {s : State} {m : MethodId} {args : Array Value} {below : List Frame} {meth : Method} {c : Code} {T0 : State} {locs : List Loc} {cells slots : Nat} {Z : State} {a0 : Array Value} {h0 : Heap} (s0 : Slot) (s1 : Slot) (s2 : Slot) (s3 : Slot) (i4 : Int32) (i5 : Int32) (i6 : Int32) (s7 : Slot) (s8 : Slot) (s9 : Slot) (s10 : Slot) (s11 : Slot) (s12 : Slot) (s13 : Slot) (s14 : Slot)
    (X0 : Stand p l e R s m args below meth c T0 locs cells slots) (hx : p.tables.exec = Jvm.exec) (hZ : Z.Warmed39 s.vm) (hw : ∀ d ∈ tables_1, d.before a0 Z = true) (hby : c.code = code) (hml : c.maxLocals = 15) (hown : s.vm.findClass "com/example/bandmark/bandmark/ReceiverExportReaderRecognisesPinLaw" = some m.cls) (e0 : T0.heap = h0) (hs14 : One s14) (hc162 : ¬ (i4 < (5 : Int32))) (hc169 : i5 = (84 : Int32)) (hc176 : ¬ (i6 = (121 : Int32))) :
    ∃ (T' : State), Stand p l e R s m args below meth c T' locs cells slots ∧ T'.heap = h0 ∧
      ∀ target, Steps p.tables e below (T'.setTop (mkF m 207 #[s0, s1, s2, s3, .val (.int i4), .val (.int i5), .val (.int i6), s7, s8, s9, s10, s11, s12, s13, .val (.int (0 : Int32))] [])) target → Steps p.tables e below (T0.setTop (mkF m 159 #[s0, s1, s2, s3, .val (.int i4), .val (.int i5), .val (.int i6), s7, s8, s9, s10, s11, s12, s13, s14] [])) target := by
  refine ⟨T0, X0, e0, fun target kt => ?_⟩
  show Steps p.tables e below (T0.setTop (mkF m 159 #[s0, s1, s2, s3, .val (.int i4), .val (.int i5), .val (.int i6), s7, s8, s9, s10, s11, s12, s13, s14] [])) _
  refine XS.iload X0.here hx rfl (hb hby at_159) rfl ?_
  show Steps p.tables e below (T0.setTop (mkF m 161 #[s0, s1, s2, s3, .val (.int i4), .val (.int i5), .val (.int i6), s7, s8, s9, s10, s11, s12, s13, s14] [(.int i4)])) _
  refine XS.iconst X0.here hx rfl (hb hby at_161) ?_
  show Steps p.tables e below (T0.setTop (mkF m 162 #[s0, s1, s2, s3, .val (.int i4), .val (.int i5), .val (.int i6), s7, s8, s9, s10, s11, s12, s13, s14] [(.int (5 : Int32)), (.int i4)])) _
  refine XS.icmpNo X0.here hx rfl (hb hby at_162) rfl (flt hc162).1 ?_
  show Steps p.tables e below (T0.setTop (mkF m 165 #[s0, s1, s2, s3, .val (.int i4), .val (.int i5), .val (.int i6), s7, s8, s9, s10, s11, s12, s13, s14] [])) _
  refine XS.iload X0.here hx rfl (hb hby at_165) rfl ?_
  show Steps p.tables e below (T0.setTop (mkF m 167 #[s0, s1, s2, s3, .val (.int i4), .val (.int i5), .val (.int i6), s7, s8, s9, s10, s11, s12, s13, s14] [(.int i5)])) _
  refine XS.bipush X0.here hx rfl (hb hby at_167) ?_
  show Steps p.tables e below (T0.setTop (mkF m 169 #[s0, s1, s2, s3, .val (.int i4), .val (.int i5), .val (.int i6), s7, s8, s9, s10, s11, s12, s13, s14] [(.int (84 : Int32)), (.int i5)])) _
  refine XS.icmpNo X0.here hx rfl (hb hby at_169) rfl (teq hc169).2 ?_
  show Steps p.tables e below (T0.setTop (mkF m 172 #[s0, s1, s2, s3, .val (.int i4), .val (.int i5), .val (.int i6), s7, s8, s9, s10, s11, s12, s13, s14] [])) _
  refine XS.iload X0.here hx rfl (hb hby at_172) rfl ?_
  show Steps p.tables e below (T0.setTop (mkF m 174 #[s0, s1, s2, s3, .val (.int i4), .val (.int i5), .val (.int i6), s7, s8, s9, s10, s11, s12, s13, s14] [(.int i6)])) _
  refine XS.bipush X0.here hx rfl (hb hby at_174) ?_
  show Steps p.tables e below (T0.setTop (mkF m 176 #[s0, s1, s2, s3, .val (.int i4), .val (.int i5), .val (.int i6), s7, s8, s9, s10, s11, s12, s13, s14] [(.int (121 : Int32)), (.int i6)])) _
  refine XS.icmpYes X0.here hx rfl (pc0 := 176) (pc' := 204) rfl (hb hby at_176) rfl (feq hc176).2 (by decide) (by decide) ?_
  show Steps p.tables e below (T0.setTop (mkF m 204 #[s0, s1, s2, s3, .val (.int i4), .val (.int i5), .val (.int i6), s7, s8, s9, s10, s11, s12, s13, s14] [])) _
  refine XS.iconst X0.here hx rfl (hb hby at_204) ?_
  show Steps p.tables e below (T0.setTop (mkF m 205 #[s0, s1, s2, s3, .val (.int i4), .val (.int i5), .val (.int i6), s7, s8, s9, s10, s11, s12, s13, s14] [(.int (0 : Int32))])) _
  refine XS.istore X0.here hx rfl (hb hby at_205) rfl (l' := #[s0, s1, s2, s3, .val (.int i4), .val (.int i5), .val (.int i6), s7, s8, s9, s10, s11, s12, s13, .val (.int (0 : Int32))]) (os0_205_fft hs14) ?_
  exact kt
theorem os0_205_ffft {s0 : Slot} {s1 : Slot} {s2 : Slot} {s3 : Slot} {z4 : Value} {z5 : Value} {z6 : Value} {z7 : Value} {s8 : Slot} {s9 : Slot} {s10 : Slot} {s11 : Slot} {s12 : Slot} {s13 : Slot} {s14 : Slot} {v : Int32} (h : One s14) : storeLocals #[s0, s1, s2, s3, .val z4, .val z5, .val z6, .val z7, s8, s9, s10, s11, s12, s13, s14] 14 (.int v) = some #[s0, s1, s2, s3, .val z4, .val z5, .val z6, .val z7, s8, s9, s10, s11, s12, s13, .val (.int v)] := by
  rcases h with rfl | ⟨w, rfl, hw⟩
  · rfl
  · cases w <;> first | rfl | (simp [Value.category] at hw)
set_option maxRecDepth 65536 in
set_option maxHeartbeats 40000000 in
theorem tn0_ffft {p : Program} {l : Launch} {e : Env} {R : Room} {s : State} {m : MethodId} {args : Array Value} {below : List Frame} {meth : Method} {c : Code} {T0 : State} {locs : List Loc} {cells slots : Nat} {Z : State} {a0 : Array Value} {h0 : Heap} (s0 : Slot) (s1 : Slot) (s2 : Slot) (s3 : Slot) (i4 : Int32) (i5 : Int32) (i6 : Int32) (i7 : Int32) (s8 : Slot) (s9 : Slot) (s10 : Slot) (s11 : Slot) (s12 : Slot) (s13 : Slot) (s14 : Slot)
    (X0 : Stand p l e R s m args below meth c T0 locs cells slots) (hx : p.tables.exec = Jvm.exec) (hZ : Z.Warmed39 s.vm) (hw : ∀ d ∈ tables_1, d.before a0 Z = true) (hby : c.code = code) (hml : c.maxLocals = 15) (hown : s.vm.findClass "com/example/bandmark/bandmark/ReceiverExportReaderRecognisesPinLaw" = some m.cls) (e0 : T0.heap = h0) (hs14 : One s14) (hc162 : ¬ (i4 < (5 : Int32))) (hc169 : i5 = (84 : Int32)) (hc176 : i6 = (121 : Int32)) (hc183 : ¬ (i7 = (112 : Int32))) :
    ∃ (T' : State), Stand p l e R s m args below meth c T' locs cells slots ∧ T'.heap = h0 ∧
      ∀ target, Steps p.tables e below (T'.setTop (mkF m 207 #[s0, s1, s2, s3, .val (.int i4), .val (.int i5), .val (.int i6), .val (.int i7), s8, s9, s10, s11, s12, s13, .val (.int (0 : Int32))] [])) target → Steps p.tables e below (T0.setTop (mkF m 159 #[s0, s1, s2, s3, .val (.int i4), .val (.int i5), .val (.int i6), .val (.int i7), s8, s9, s10, s11, s12, s13, s14] [])) target := by
  refine ⟨T0, X0, e0, fun target kt => ?_⟩
  show Steps p.tables e below (T0.setTop (mkF m 159 #[s0, s1, s2, s3, .val (.int i4), .val (.int i5), .val (.int i6), .val (.int i7), s8, s9, s10, s11, s12, s13, s14] [])) _
  refine XS.iload X0.here hx rfl (hb hby at_159) rfl ?_
  show Steps p.tables e below (T0.setTop (mkF m 161 #[s0, s1, s2, s3, .val (.int i4), .val (.int i5), .val (.int i6), .val (.int i7), s8, s9, s10, s11, s12, s13, s14] [(.int i4)])) _
  refine XS.iconst X0.here hx rfl (hb hby at_161) ?_
  show Steps p.tables e below (T0.setTop (mkF m 162 #[s0, s1, s2, s3, .val (.int i4), .val (.int i5), .val (.int i6), .val (.int i7), s8, s9, s10, s11, s12, s13, s14] [(.int (5 : Int32)), (.int i4)])) _
  refine XS.icmpNo X0.here hx rfl (hb hby at_162) rfl (flt hc162).1 ?_
  show Steps p.tables e below (T0.setTop (mkF m 165 #[s0, s1, s2, s3, .val (.int i4), .val (.int i5), .val (.int i6), .val (.int i7), s8, s9, s10, s11, s12, s13, s14] [])) _
  refine XS.iload X0.here hx rfl (hb hby at_165) rfl ?_
  show Steps p.tables e below (T0.setTop (mkF m 167 #[s0, s1, s2, s3, .val (.int i4), .val (.int i5), .val (.int i6), .val (.int i7), s8, s9, s10, s11, s12, s13, s14] [(.int i5)])) _
  refine XS.bipush X0.here hx rfl (hb hby at_167) ?_
  show Steps p.tables e below (T0.setTop (mkF m 169 #[s0, s1, s2, s3, .val (.int i4), .val (.int i5), .val (.int i6), .val (.int i7), s8, s9, s10, s11, s12, s13, s14] [(.int (84 : Int32)), (.int i5)])) _
  refine XS.icmpNo X0.here hx rfl (hb hby at_169) rfl (teq hc169).2 ?_
  show Steps p.tables e below (T0.setTop (mkF m 172 #[s0, s1, s2, s3, .val (.int i4), .val (.int i5), .val (.int i6), .val (.int i7), s8, s9, s10, s11, s12, s13, s14] [])) _
  refine XS.iload X0.here hx rfl (hb hby at_172) rfl ?_
  show Steps p.tables e below (T0.setTop (mkF m 174 #[s0, s1, s2, s3, .val (.int i4), .val (.int i5), .val (.int i6), .val (.int i7), s8, s9, s10, s11, s12, s13, s14] [(.int i6)])) _
  refine XS.bipush X0.here hx rfl (hb hby at_174) ?_
  show Steps p.tables e below (T0.setTop (mkF m 176 #[s0, s1, s2, s3, .val (.int i4), .val (.int i5), .val (.int i6), .val (.int i7), s8, s9, s10, s11, s12, s13, s14] [(.int (121 : Int32)), (.int i6)])) _
  refine XS.icmpNo X0.here hx rfl (hb hby at_176) rfl (teq hc176).2 ?_
  show Steps p.tables e below (T0.setTop (mkF m 179 #[s0, s1, s2, s3, .val (.int i4), .val (.int i5), .val (.int i6), .val (.int i7), s8, s9, s10, s11, s12, s13, s14] [])) _
  refine XS.iload X0.here hx rfl (hb hby at_179) rfl ?_
  show Steps p.tables e below (T0.setTop (mkF m 181 #[s0, s1, s2, s3, .val (.int i4), .val (.int i5), .val (.int i6), .val (.int i7), s8, s9, s10, s11, s12, s13, s14] [(.int i7)])) _
  refine XS.bipush X0.here hx rfl (hb hby at_181) ?_
  show Steps p.tables e below (T0.setTop (mkF m 183 #[s0, s1, s2, s3, .val (.int i4), .val (.int i5), .val (.int i6), .val (.int i7), s8, s9, s10, s11, s12, s13, s14] [(.int (112 : Int32)), (.int i7)])) _
  refine XS.icmpYes X0.here hx rfl (pc0 := 183) (pc' := 204) rfl (hb hby at_183) rfl (feq hc183).2 (by decide) (by decide) ?_
  show Steps p.tables e below (T0.setTop (mkF m 204 #[s0, s1, s2, s3, .val (.int i4), .val (.int i5), .val (.int i6), .val (.int i7), s8, s9, s10, s11, s12, s13, s14] [])) _
  refine XS.iconst X0.here hx rfl (hb hby at_204) ?_
  show Steps p.tables e below (T0.setTop (mkF m 205 #[s0, s1, s2, s3, .val (.int i4), .val (.int i5), .val (.int i6), .val (.int i7), s8, s9, s10, s11, s12, s13, s14] [(.int (0 : Int32))])) _
  refine XS.istore X0.here hx rfl (hb hby at_205) rfl (l' := #[s0, s1, s2, s3, .val (.int i4), .val (.int i5), .val (.int i6), .val (.int i7), s8, s9, s10, s11, s12, s13, .val (.int (0 : Int32))]) (os0_205_ffft hs14) ?_
  exact kt
theorem os0_205_fffft {s0 : Slot} {s1 : Slot} {s2 : Slot} {s3 : Slot} {z4 : Value} {z5 : Value} {z6 : Value} {z7 : Value} {z8 : Value} {s9 : Slot} {s10 : Slot} {s11 : Slot} {s12 : Slot} {s13 : Slot} {s14 : Slot} {v : Int32} (h : One s14) : storeLocals #[s0, s1, s2, s3, .val z4, .val z5, .val z6, .val z7, .val z8, s9, s10, s11, s12, s13, s14] 14 (.int v) = some #[s0, s1, s2, s3, .val z4, .val z5, .val z6, .val z7, .val z8, s9, s10, s11, s12, s13, .val (.int v)] := by
  rcases h with rfl | ⟨w, rfl, hw⟩
  · rfl
  · cases w <;> first | rfl | (simp [Value.category] at hw)
set_option maxRecDepth 65536 in
set_option maxHeartbeats 40000000 in
theorem tn0_fffft {p : Program} {l : Launch} {e : Env} {R : Room} {s : State} {m : MethodId} {args : Array Value} {below : List Frame} {meth : Method} {c : Code} {T0 : State} {locs : List Loc} {cells slots : Nat} {Z : State} {a0 : Array Value} {h0 : Heap} (s0 : Slot) (s1 : Slot) (s2 : Slot) (s3 : Slot) (i4 : Int32) (i5 : Int32) (i6 : Int32) (i7 : Int32) (i8 : Int32) (s9 : Slot) (s10 : Slot) (s11 : Slot) (s12 : Slot) (s13 : Slot) (s14 : Slot)
    (X0 : Stand p l e R s m args below meth c T0 locs cells slots) (hx : p.tables.exec = Jvm.exec) (hZ : Z.Warmed39 s.vm) (hw : ∀ d ∈ tables_1, d.before a0 Z = true) (hby : c.code = code) (hml : c.maxLocals = 15) (hown : s.vm.findClass "com/example/bandmark/bandmark/ReceiverExportReaderRecognisesPinLaw" = some m.cls) (e0 : T0.heap = h0) (hs14 : One s14) (hc162 : ¬ (i4 < (5 : Int32))) (hc169 : i5 = (84 : Int32)) (hc176 : i6 = (121 : Int32)) (hc183 : i7 = (112 : Int32)) (hc190 : ¬ (i8 = (101 : Int32))) :
    ∃ (T' : State), Stand p l e R s m args below meth c T' locs cells slots ∧ T'.heap = h0 ∧
      ∀ target, Steps p.tables e below (T'.setTop (mkF m 207 #[s0, s1, s2, s3, .val (.int i4), .val (.int i5), .val (.int i6), .val (.int i7), .val (.int i8), s9, s10, s11, s12, s13, .val (.int (0 : Int32))] [])) target → Steps p.tables e below (T0.setTop (mkF m 159 #[s0, s1, s2, s3, .val (.int i4), .val (.int i5), .val (.int i6), .val (.int i7), .val (.int i8), s9, s10, s11, s12, s13, s14] [])) target := by
  refine ⟨T0, X0, e0, fun target kt => ?_⟩
  show Steps p.tables e below (T0.setTop (mkF m 159 #[s0, s1, s2, s3, .val (.int i4), .val (.int i5), .val (.int i6), .val (.int i7), .val (.int i8), s9, s10, s11, s12, s13, s14] [])) _
  refine XS.iload X0.here hx rfl (hb hby at_159) rfl ?_
  show Steps p.tables e below (T0.setTop (mkF m 161 #[s0, s1, s2, s3, .val (.int i4), .val (.int i5), .val (.int i6), .val (.int i7), .val (.int i8), s9, s10, s11, s12, s13, s14] [(.int i4)])) _
  refine XS.iconst X0.here hx rfl (hb hby at_161) ?_
  show Steps p.tables e below (T0.setTop (mkF m 162 #[s0, s1, s2, s3, .val (.int i4), .val (.int i5), .val (.int i6), .val (.int i7), .val (.int i8), s9, s10, s11, s12, s13, s14] [(.int (5 : Int32)), (.int i4)])) _
  refine XS.icmpNo X0.here hx rfl (hb hby at_162) rfl (flt hc162).1 ?_
  show Steps p.tables e below (T0.setTop (mkF m 165 #[s0, s1, s2, s3, .val (.int i4), .val (.int i5), .val (.int i6), .val (.int i7), .val (.int i8), s9, s10, s11, s12, s13, s14] [])) _
  refine XS.iload X0.here hx rfl (hb hby at_165) rfl ?_
  show Steps p.tables e below (T0.setTop (mkF m 167 #[s0, s1, s2, s3, .val (.int i4), .val (.int i5), .val (.int i6), .val (.int i7), .val (.int i8), s9, s10, s11, s12, s13, s14] [(.int i5)])) _
  refine XS.bipush X0.here hx rfl (hb hby at_167) ?_
  show Steps p.tables e below (T0.setTop (mkF m 169 #[s0, s1, s2, s3, .val (.int i4), .val (.int i5), .val (.int i6), .val (.int i7), .val (.int i8), s9, s10, s11, s12, s13, s14] [(.int (84 : Int32)), (.int i5)])) _
  refine XS.icmpNo X0.here hx rfl (hb hby at_169) rfl (teq hc169).2 ?_
  show Steps p.tables e below (T0.setTop (mkF m 172 #[s0, s1, s2, s3, .val (.int i4), .val (.int i5), .val (.int i6), .val (.int i7), .val (.int i8), s9, s10, s11, s12, s13, s14] [])) _
  refine XS.iload X0.here hx rfl (hb hby at_172) rfl ?_
  show Steps p.tables e below (T0.setTop (mkF m 174 #[s0, s1, s2, s3, .val (.int i4), .val (.int i5), .val (.int i6), .val (.int i7), .val (.int i8), s9, s10, s11, s12, s13, s14] [(.int i6)])) _
  refine XS.bipush X0.here hx rfl (hb hby at_174) ?_
  show Steps p.tables e below (T0.setTop (mkF m 176 #[s0, s1, s2, s3, .val (.int i4), .val (.int i5), .val (.int i6), .val (.int i7), .val (.int i8), s9, s10, s11, s12, s13, s14] [(.int (121 : Int32)), (.int i6)])) _
  refine XS.icmpNo X0.here hx rfl (hb hby at_176) rfl (teq hc176).2 ?_
  show Steps p.tables e below (T0.setTop (mkF m 179 #[s0, s1, s2, s3, .val (.int i4), .val (.int i5), .val (.int i6), .val (.int i7), .val (.int i8), s9, s10, s11, s12, s13, s14] [])) _
  refine XS.iload X0.here hx rfl (hb hby at_179) rfl ?_
  show Steps p.tables e below (T0.setTop (mkF m 181 #[s0, s1, s2, s3, .val (.int i4), .val (.int i5), .val (.int i6), .val (.int i7), .val (.int i8), s9, s10, s11, s12, s13, s14] [(.int i7)])) _
  refine XS.bipush X0.here hx rfl (hb hby at_181) ?_
  show Steps p.tables e below (T0.setTop (mkF m 183 #[s0, s1, s2, s3, .val (.int i4), .val (.int i5), .val (.int i6), .val (.int i7), .val (.int i8), s9, s10, s11, s12, s13, s14] [(.int (112 : Int32)), (.int i7)])) _
  refine XS.icmpNo X0.here hx rfl (hb hby at_183) rfl (teq hc183).2 ?_
  show Steps p.tables e below (T0.setTop (mkF m 186 #[s0, s1, s2, s3, .val (.int i4), .val (.int i5), .val (.int i6), .val (.int i7), .val (.int i8), s9, s10, s11, s12, s13, s14] [])) _
  refine XS.iload X0.here hx rfl (hb hby at_186) rfl ?_
  show Steps p.tables e below (T0.setTop (mkF m 188 #[s0, s1, s2, s3, .val (.int i4), .val (.int i5), .val (.int i6), .val (.int i7), .val (.int i8), s9, s10, s11, s12, s13, s14] [(.int i8)])) _
  refine XS.bipush X0.here hx rfl (hb hby at_188) ?_
  show Steps p.tables e below (T0.setTop (mkF m 190 #[s0, s1, s2, s3, .val (.int i4), .val (.int i5), .val (.int i6), .val (.int i7), .val (.int i8), s9, s10, s11, s12, s13, s14] [(.int (101 : Int32)), (.int i8)])) _
  refine XS.icmpYes X0.here hx rfl (pc0 := 190) (pc' := 204) rfl (hb hby at_190) rfl (feq hc190).2 (by decide) (by decide) ?_
  show Steps p.tables e below (T0.setTop (mkF m 204 #[s0, s1, s2, s3, .val (.int i4), .val (.int i5), .val (.int i6), .val (.int i7), .val (.int i8), s9, s10, s11, s12, s13, s14] [])) _
  refine XS.iconst X0.here hx rfl (hb hby at_204) ?_
  show Steps p.tables e below (T0.setTop (mkF m 205 #[s0, s1, s2, s3, .val (.int i4), .val (.int i5), .val (.int i6), .val (.int i7), .val (.int i8), s9, s10, s11, s12, s13, s14] [(.int (0 : Int32))])) _
  refine XS.istore X0.here hx rfl (hb hby at_205) rfl (l' := #[s0, s1, s2, s3, .val (.int i4), .val (.int i5), .val (.int i6), .val (.int i7), .val (.int i8), s9, s10, s11, s12, s13, .val (.int (0 : Int32))]) (os0_205_fffft hs14) ?_
  exact kt
theorem os0_205_ffffft {s0 : Slot} {s1 : Slot} {s2 : Slot} {s3 : Slot} {z4 : Value} {z5 : Value} {z6 : Value} {z7 : Value} {z8 : Value} {z9 : Value} {s10 : Slot} {s11 : Slot} {s12 : Slot} {s13 : Slot} {s14 : Slot} {v : Int32} (h : One s14) : storeLocals #[s0, s1, s2, s3, .val z4, .val z5, .val z6, .val z7, .val z8, .val z9, s10, s11, s12, s13, s14] 14 (.int v) = some #[s0, s1, s2, s3, .val z4, .val z5, .val z6, .val z7, .val z8, .val z9, s10, s11, s12, s13, .val (.int v)] := by
  rcases h with rfl | ⟨w, rfl, hw⟩
  · rfl
  · cases w <;> first | rfl | (simp [Value.category] at hw)
set_option maxRecDepth 65536 in
set_option maxHeartbeats 40000000 in
theorem tn0_ffffft {p : Program} {l : Launch} {e : Env} {R : Room} {s : State} {m : MethodId} {args : Array Value} {below : List Frame} {meth : Method} {c : Code} {T0 : State} {locs : List Loc} {cells slots : Nat} {Z : State} {a0 : Array Value} {h0 : Heap} (s0 : Slot) (s1 : Slot) (s2 : Slot) (s3 : Slot) (i4 : Int32) (i5 : Int32) (i6 : Int32) (i7 : Int32) (i8 : Int32) (i9 : Int32) (s10 : Slot) (s11 : Slot) (s12 : Slot) (s13 : Slot) (s14 : Slot)
    (X0 : Stand p l e R s m args below meth c T0 locs cells slots) (hx : p.tables.exec = Jvm.exec) (hZ : Z.Warmed39 s.vm) (hw : ∀ d ∈ tables_1, d.before a0 Z = true) (hby : c.code = code) (hml : c.maxLocals = 15) (hown : s.vm.findClass "com/example/bandmark/bandmark/ReceiverExportReaderRecognisesPinLaw" = some m.cls) (e0 : T0.heap = h0) (hs14 : One s14) (hc162 : ¬ (i4 < (5 : Int32))) (hc169 : i5 = (84 : Int32)) (hc176 : i6 = (121 : Int32)) (hc183 : i7 = (112 : Int32)) (hc190 : i8 = (101 : Int32)) (hc197 : ¬ (i9 = (59 : Int32))) :
    ∃ (T' : State), Stand p l e R s m args below meth c T' locs cells slots ∧ T'.heap = h0 ∧
      ∀ target, Steps p.tables e below (T'.setTop (mkF m 207 #[s0, s1, s2, s3, .val (.int i4), .val (.int i5), .val (.int i6), .val (.int i7), .val (.int i8), .val (.int i9), s10, s11, s12, s13, .val (.int (0 : Int32))] [])) target → Steps p.tables e below (T0.setTop (mkF m 159 #[s0, s1, s2, s3, .val (.int i4), .val (.int i5), .val (.int i6), .val (.int i7), .val (.int i8), .val (.int i9), s10, s11, s12, s13, s14] [])) target := by
  refine ⟨T0, X0, e0, fun target kt => ?_⟩
  show Steps p.tables e below (T0.setTop (mkF m 159 #[s0, s1, s2, s3, .val (.int i4), .val (.int i5), .val (.int i6), .val (.int i7), .val (.int i8), .val (.int i9), s10, s11, s12, s13, s14] [])) _
  refine XS.iload X0.here hx rfl (hb hby at_159) rfl ?_
  show Steps p.tables e below (T0.setTop (mkF m 161 #[s0, s1, s2, s3, .val (.int i4), .val (.int i5), .val (.int i6), .val (.int i7), .val (.int i8), .val (.int i9), s10, s11, s12, s13, s14] [(.int i4)])) _
  refine XS.iconst X0.here hx rfl (hb hby at_161) ?_
  show Steps p.tables e below (T0.setTop (mkF m 162 #[s0, s1, s2, s3, .val (.int i4), .val (.int i5), .val (.int i6), .val (.int i7), .val (.int i8), .val (.int i9), s10, s11, s12, s13, s14] [(.int (5 : Int32)), (.int i4)])) _
  refine XS.icmpNo X0.here hx rfl (hb hby at_162) rfl (flt hc162).1 ?_
  show Steps p.tables e below (T0.setTop (mkF m 165 #[s0, s1, s2, s3, .val (.int i4), .val (.int i5), .val (.int i6), .val (.int i7), .val (.int i8), .val (.int i9), s10, s11, s12, s13, s14] [])) _
  refine XS.iload X0.here hx rfl (hb hby at_165) rfl ?_
  show Steps p.tables e below (T0.setTop (mkF m 167 #[s0, s1, s2, s3, .val (.int i4), .val (.int i5), .val (.int i6), .val (.int i7), .val (.int i8), .val (.int i9), s10, s11, s12, s13, s14] [(.int i5)])) _
  refine XS.bipush X0.here hx rfl (hb hby at_167) ?_
  show Steps p.tables e below (T0.setTop (mkF m 169 #[s0, s1, s2, s3, .val (.int i4), .val (.int i5), .val (.int i6), .val (.int i7), .val (.int i8), .val (.int i9), s10, s11, s12, s13, s14] [(.int (84 : Int32)), (.int i5)])) _
  refine XS.icmpNo X0.here hx rfl (hb hby at_169) rfl (teq hc169).2 ?_
  show Steps p.tables e below (T0.setTop (mkF m 172 #[s0, s1, s2, s3, .val (.int i4), .val (.int i5), .val (.int i6), .val (.int i7), .val (.int i8), .val (.int i9), s10, s11, s12, s13, s14] [])) _
  refine XS.iload X0.here hx rfl (hb hby at_172) rfl ?_
  show Steps p.tables e below (T0.setTop (mkF m 174 #[s0, s1, s2, s3, .val (.int i4), .val (.int i5), .val (.int i6), .val (.int i7), .val (.int i8), .val (.int i9), s10, s11, s12, s13, s14] [(.int i6)])) _
  refine XS.bipush X0.here hx rfl (hb hby at_174) ?_
  show Steps p.tables e below (T0.setTop (mkF m 176 #[s0, s1, s2, s3, .val (.int i4), .val (.int i5), .val (.int i6), .val (.int i7), .val (.int i8), .val (.int i9), s10, s11, s12, s13, s14] [(.int (121 : Int32)), (.int i6)])) _
  refine XS.icmpNo X0.here hx rfl (hb hby at_176) rfl (teq hc176).2 ?_
  show Steps p.tables e below (T0.setTop (mkF m 179 #[s0, s1, s2, s3, .val (.int i4), .val (.int i5), .val (.int i6), .val (.int i7), .val (.int i8), .val (.int i9), s10, s11, s12, s13, s14] [])) _
  refine XS.iload X0.here hx rfl (hb hby at_179) rfl ?_
  show Steps p.tables e below (T0.setTop (mkF m 181 #[s0, s1, s2, s3, .val (.int i4), .val (.int i5), .val (.int i6), .val (.int i7), .val (.int i8), .val (.int i9), s10, s11, s12, s13, s14] [(.int i7)])) _
  refine XS.bipush X0.here hx rfl (hb hby at_181) ?_
  show Steps p.tables e below (T0.setTop (mkF m 183 #[s0, s1, s2, s3, .val (.int i4), .val (.int i5), .val (.int i6), .val (.int i7), .val (.int i8), .val (.int i9), s10, s11, s12, s13, s14] [(.int (112 : Int32)), (.int i7)])) _
  refine XS.icmpNo X0.here hx rfl (hb hby at_183) rfl (teq hc183).2 ?_
  show Steps p.tables e below (T0.setTop (mkF m 186 #[s0, s1, s2, s3, .val (.int i4), .val (.int i5), .val (.int i6), .val (.int i7), .val (.int i8), .val (.int i9), s10, s11, s12, s13, s14] [])) _
  refine XS.iload X0.here hx rfl (hb hby at_186) rfl ?_
  show Steps p.tables e below (T0.setTop (mkF m 188 #[s0, s1, s2, s3, .val (.int i4), .val (.int i5), .val (.int i6), .val (.int i7), .val (.int i8), .val (.int i9), s10, s11, s12, s13, s14] [(.int i8)])) _
  refine XS.bipush X0.here hx rfl (hb hby at_188) ?_
  show Steps p.tables e below (T0.setTop (mkF m 190 #[s0, s1, s2, s3, .val (.int i4), .val (.int i5), .val (.int i6), .val (.int i7), .val (.int i8), .val (.int i9), s10, s11, s12, s13, s14] [(.int (101 : Int32)), (.int i8)])) _
  refine XS.icmpNo X0.here hx rfl (hb hby at_190) rfl (teq hc190).2 ?_
  show Steps p.tables e below (T0.setTop (mkF m 193 #[s0, s1, s2, s3, .val (.int i4), .val (.int i5), .val (.int i6), .val (.int i7), .val (.int i8), .val (.int i9), s10, s11, s12, s13, s14] [])) _
  refine XS.iload X0.here hx rfl (hb hby at_193) rfl ?_
  show Steps p.tables e below (T0.setTop (mkF m 195 #[s0, s1, s2, s3, .val (.int i4), .val (.int i5), .val (.int i6), .val (.int i7), .val (.int i8), .val (.int i9), s10, s11, s12, s13, s14] [(.int i9)])) _
  refine XS.bipush X0.here hx rfl (hb hby at_195) ?_
  show Steps p.tables e below (T0.setTop (mkF m 197 #[s0, s1, s2, s3, .val (.int i4), .val (.int i5), .val (.int i6), .val (.int i7), .val (.int i8), .val (.int i9), s10, s11, s12, s13, s14] [(.int (59 : Int32)), (.int i9)])) _
  refine XS.icmpYes X0.here hx rfl (pc0 := 197) (pc' := 204) rfl (hb hby at_197) rfl (feq hc197).2 (by decide) (by decide) ?_
  show Steps p.tables e below (T0.setTop (mkF m 204 #[s0, s1, s2, s3, .val (.int i4), .val (.int i5), .val (.int i6), .val (.int i7), .val (.int i8), .val (.int i9), s10, s11, s12, s13, s14] [])) _
  refine XS.iconst X0.here hx rfl (hb hby at_204) ?_
  show Steps p.tables e below (T0.setTop (mkF m 205 #[s0, s1, s2, s3, .val (.int i4), .val (.int i5), .val (.int i6), .val (.int i7), .val (.int i8), .val (.int i9), s10, s11, s12, s13, s14] [(.int (0 : Int32))])) _
  refine XS.istore X0.here hx rfl (hb hby at_205) rfl (l' := #[s0, s1, s2, s3, .val (.int i4), .val (.int i5), .val (.int i6), .val (.int i7), .val (.int i8), .val (.int i9), s10, s11, s12, s13, .val (.int (0 : Int32))]) (os0_205_ffffft hs14) ?_
  exact kt
theorem os0_205_ffffff {s0 : Slot} {s1 : Slot} {s2 : Slot} {s3 : Slot} {z4 : Value} {z5 : Value} {z6 : Value} {z7 : Value} {z8 : Value} {z9 : Value} {s10 : Slot} {s11 : Slot} {s12 : Slot} {s13 : Slot} {s14 : Slot} {v : Int32} (h : One s14) : storeLocals #[s0, s1, s2, s3, .val z4, .val z5, .val z6, .val z7, .val z8, .val z9, s10, s11, s12, s13, s14] 14 (.int v) = some #[s0, s1, s2, s3, .val z4, .val z5, .val z6, .val z7, .val z8, .val z9, s10, s11, s12, s13, .val (.int v)] := by
  rcases h with rfl | ⟨w, rfl, hw⟩
  · rfl
  · cases w <;> first | rfl | (simp [Value.category] at hw)
set_option maxRecDepth 65536 in
set_option maxHeartbeats 40000000 in
theorem tn0_ffffff {p : Program} {l : Launch} {e : Env} {R : Room} {s : State} {m : MethodId} {args : Array Value} {below : List Frame} {meth : Method} {c : Code} {T0 : State} {locs : List Loc} {cells slots : Nat} {Z : State} {a0 : Array Value} {h0 : Heap} (s0 : Slot) (s1 : Slot) (s2 : Slot) (s3 : Slot) (i4 : Int32) (i5 : Int32) (i6 : Int32) (i7 : Int32) (i8 : Int32) (i9 : Int32) (s10 : Slot) (s11 : Slot) (s12 : Slot) (s13 : Slot) (s14 : Slot)
    (X0 : Stand p l e R s m args below meth c T0 locs cells slots) (hx : p.tables.exec = Jvm.exec) (hZ : Z.Warmed39 s.vm) (hw : ∀ d ∈ tables_1, d.before a0 Z = true) (hby : c.code = code) (hml : c.maxLocals = 15) (hown : s.vm.findClass "com/example/bandmark/bandmark/ReceiverExportReaderRecognisesPinLaw" = some m.cls) (e0 : T0.heap = h0) (hs14 : One s14) (hc162 : ¬ (i4 < (5 : Int32))) (hc169 : i5 = (84 : Int32)) (hc176 : i6 = (121 : Int32)) (hc183 : i7 = (112 : Int32)) (hc190 : i8 = (101 : Int32)) (hc197 : i9 = (59 : Int32)) :
    ∃ (T' : State), Stand p l e R s m args below meth c T' locs cells slots ∧ T'.heap = h0 ∧
      ∀ target, Steps p.tables e below (T'.setTop (mkF m 207 #[s0, s1, s2, s3, .val (.int i4), .val (.int i5), .val (.int i6), .val (.int i7), .val (.int i8), .val (.int i9), s10, s11, s12, s13, .val (.int (1 : Int32))] [])) target → Steps p.tables e below (T0.setTop (mkF m 159 #[s0, s1, s2, s3, .val (.int i4), .val (.int i5), .val (.int i6), .val (.int i7), .val (.int i8), .val (.int i9), s10, s11, s12, s13, s14] [])) target := by
  refine ⟨T0, X0, e0, fun target kt => ?_⟩
  show Steps p.tables e below (T0.setTop (mkF m 159 #[s0, s1, s2, s3, .val (.int i4), .val (.int i5), .val (.int i6), .val (.int i7), .val (.int i8), .val (.int i9), s10, s11, s12, s13, s14] [])) _
  refine XS.iload X0.here hx rfl (hb hby at_159) rfl ?_
  show Steps p.tables e below (T0.setTop (mkF m 161 #[s0, s1, s2, s3, .val (.int i4), .val (.int i5), .val (.int i6), .val (.int i7), .val (.int i8), .val (.int i9), s10, s11, s12, s13, s14] [(.int i4)])) _
  refine XS.iconst X0.here hx rfl (hb hby at_161) ?_
  show Steps p.tables e below (T0.setTop (mkF m 162 #[s0, s1, s2, s3, .val (.int i4), .val (.int i5), .val (.int i6), .val (.int i7), .val (.int i8), .val (.int i9), s10, s11, s12, s13, s14] [(.int (5 : Int32)), (.int i4)])) _
  refine XS.icmpNo X0.here hx rfl (hb hby at_162) rfl (flt hc162).1 ?_
  show Steps p.tables e below (T0.setTop (mkF m 165 #[s0, s1, s2, s3, .val (.int i4), .val (.int i5), .val (.int i6), .val (.int i7), .val (.int i8), .val (.int i9), s10, s11, s12, s13, s14] [])) _
  refine XS.iload X0.here hx rfl (hb hby at_165) rfl ?_
  show Steps p.tables e below (T0.setTop (mkF m 167 #[s0, s1, s2, s3, .val (.int i4), .val (.int i5), .val (.int i6), .val (.int i7), .val (.int i8), .val (.int i9), s10, s11, s12, s13, s14] [(.int i5)])) _
  refine XS.bipush X0.here hx rfl (hb hby at_167) ?_
  show Steps p.tables e below (T0.setTop (mkF m 169 #[s0, s1, s2, s3, .val (.int i4), .val (.int i5), .val (.int i6), .val (.int i7), .val (.int i8), .val (.int i9), s10, s11, s12, s13, s14] [(.int (84 : Int32)), (.int i5)])) _
  refine XS.icmpNo X0.here hx rfl (hb hby at_169) rfl (teq hc169).2 ?_
  show Steps p.tables e below (T0.setTop (mkF m 172 #[s0, s1, s2, s3, .val (.int i4), .val (.int i5), .val (.int i6), .val (.int i7), .val (.int i8), .val (.int i9), s10, s11, s12, s13, s14] [])) _
  refine XS.iload X0.here hx rfl (hb hby at_172) rfl ?_
  show Steps p.tables e below (T0.setTop (mkF m 174 #[s0, s1, s2, s3, .val (.int i4), .val (.int i5), .val (.int i6), .val (.int i7), .val (.int i8), .val (.int i9), s10, s11, s12, s13, s14] [(.int i6)])) _
  refine XS.bipush X0.here hx rfl (hb hby at_174) ?_
  show Steps p.tables e below (T0.setTop (mkF m 176 #[s0, s1, s2, s3, .val (.int i4), .val (.int i5), .val (.int i6), .val (.int i7), .val (.int i8), .val (.int i9), s10, s11, s12, s13, s14] [(.int (121 : Int32)), (.int i6)])) _
  refine XS.icmpNo X0.here hx rfl (hb hby at_176) rfl (teq hc176).2 ?_
  show Steps p.tables e below (T0.setTop (mkF m 179 #[s0, s1, s2, s3, .val (.int i4), .val (.int i5), .val (.int i6), .val (.int i7), .val (.int i8), .val (.int i9), s10, s11, s12, s13, s14] [])) _
  refine XS.iload X0.here hx rfl (hb hby at_179) rfl ?_
  show Steps p.tables e below (T0.setTop (mkF m 181 #[s0, s1, s2, s3, .val (.int i4), .val (.int i5), .val (.int i6), .val (.int i7), .val (.int i8), .val (.int i9), s10, s11, s12, s13, s14] [(.int i7)])) _
  refine XS.bipush X0.here hx rfl (hb hby at_181) ?_
  show Steps p.tables e below (T0.setTop (mkF m 183 #[s0, s1, s2, s3, .val (.int i4), .val (.int i5), .val (.int i6), .val (.int i7), .val (.int i8), .val (.int i9), s10, s11, s12, s13, s14] [(.int (112 : Int32)), (.int i7)])) _
  refine XS.icmpNo X0.here hx rfl (hb hby at_183) rfl (teq hc183).2 ?_
  show Steps p.tables e below (T0.setTop (mkF m 186 #[s0, s1, s2, s3, .val (.int i4), .val (.int i5), .val (.int i6), .val (.int i7), .val (.int i8), .val (.int i9), s10, s11, s12, s13, s14] [])) _
  refine XS.iload X0.here hx rfl (hb hby at_186) rfl ?_
  show Steps p.tables e below (T0.setTop (mkF m 188 #[s0, s1, s2, s3, .val (.int i4), .val (.int i5), .val (.int i6), .val (.int i7), .val (.int i8), .val (.int i9), s10, s11, s12, s13, s14] [(.int i8)])) _
  refine XS.bipush X0.here hx rfl (hb hby at_188) ?_
  show Steps p.tables e below (T0.setTop (mkF m 190 #[s0, s1, s2, s3, .val (.int i4), .val (.int i5), .val (.int i6), .val (.int i7), .val (.int i8), .val (.int i9), s10, s11, s12, s13, s14] [(.int (101 : Int32)), (.int i8)])) _
  refine XS.icmpNo X0.here hx rfl (hb hby at_190) rfl (teq hc190).2 ?_
  show Steps p.tables e below (T0.setTop (mkF m 193 #[s0, s1, s2, s3, .val (.int i4), .val (.int i5), .val (.int i6), .val (.int i7), .val (.int i8), .val (.int i9), s10, s11, s12, s13, s14] [])) _
  refine XS.iload X0.here hx rfl (hb hby at_193) rfl ?_
  show Steps p.tables e below (T0.setTop (mkF m 195 #[s0, s1, s2, s3, .val (.int i4), .val (.int i5), .val (.int i6), .val (.int i7), .val (.int i8), .val (.int i9), s10, s11, s12, s13, s14] [(.int i9)])) _
  refine XS.bipush X0.here hx rfl (hb hby at_195) ?_
  show Steps p.tables e below (T0.setTop (mkF m 197 #[s0, s1, s2, s3, .val (.int i4), .val (.int i5), .val (.int i6), .val (.int i7), .val (.int i8), .val (.int i9), s10, s11, s12, s13, s14] [(.int (59 : Int32)), (.int i9)])) _
  refine XS.icmpNo X0.here hx rfl (hb hby at_197) rfl (teq hc197).2 ?_
  show Steps p.tables e below (T0.setTop (mkF m 200 #[s0, s1, s2, s3, .val (.int i4), .val (.int i5), .val (.int i6), .val (.int i7), .val (.int i8), .val (.int i9), s10, s11, s12, s13, s14] [])) _
  refine XS.iconst X0.here hx rfl (hb hby at_200) ?_
  show Steps p.tables e below (T0.setTop (mkF m 201 #[s0, s1, s2, s3, .val (.int i4), .val (.int i5), .val (.int i6), .val (.int i7), .val (.int i8), .val (.int i9), s10, s11, s12, s13, s14] [(.int (1 : Int32))])) _
  refine XS.goto X0.here hx rfl (pc0 := 201) (pc' := 205) rfl (hb hby at_201) (by decide) (by decide) ?_
  show Steps p.tables e below (T0.setTop (mkF m 205 #[s0, s1, s2, s3, .val (.int i4), .val (.int i5), .val (.int i6), .val (.int i7), .val (.int i8), .val (.int i9), s10, s11, s12, s13, s14] [(.int (1 : Int32))])) _
  refine XS.istore X0.here hx rfl (hb hby at_205) rfl (l' := #[s0, s1, s2, s3, .val (.int i4), .val (.int i5), .val (.int i6), .val (.int i7), .val (.int i8), .val (.int i9), s10, s11, s12, s13, .val (.int (1 : Int32))]) (os0_205_ffffff hs14) ?_
  exact kt
def own_ex (i4 i5 i6 i7 i8 i9 : Int32) : Int32 := if ¬ i4 < 5 ∧ i5 = 84 ∧ i6 = 121 ∧ i7 = 112 ∧ i8 = 101 ∧ i9 = 59 then 1 else 0
theorem own_seg {p : Program} {l : Launch} {e : Env} {R : Room} {s : State} {m : MethodId} {args : Array Value} {below : List Frame} {meth : Method} {c : Code} {T0 : State} {locs : List Loc} {cells slots : Nat} {Z : State} {a0 : Array Value} {h0 : Heap} (s0 s1 s2 s3 : Slot) (i4 i5 i6 i7 i8 i9 : Int32) (s10 s11 s12 s13 s14 : Slot)
    (X0 : Stand p l e R s m args below meth c T0 locs cells slots) (hx : p.tables.exec = Jvm.exec) (hZ : Z.Warmed39 s.vm) (hw : ∀ d ∈ tables_1, d.before a0 Z = true) (hby : c.code = code) (hml : c.maxLocals = 15) (hown : s.vm.findClass "com/example/bandmark/bandmark/ReceiverExportReaderRecognisesPinLaw" = some m.cls) (e0 : T0.heap = h0) (hs14 : One s14) :
    ∃ (T' : State), Stand p l e R s m args below meth c T' locs cells slots ∧ T'.heap = h0 ∧
      ∀ target, Steps p.tables e below (T'.setTop (mkF m 207 #[s0, s1, s2, s3, .val (.int i4), .val (.int i5), .val (.int i6), .val (.int i7), .val (.int i8), .val (.int i9), s10, s11, s12, s13, .val (.int (own_ex i4 i5 i6 i7 i8 i9))] [])) target → Steps p.tables e below (T0.setTop (mkF m 159 #[s0, s1, s2, s3, .val (.int i4), .val (.int i5), .val (.int i6), .val (.int i7), .val (.int i8), .val (.int i9), s10, s11, s12, s13, s14] [])) target := by
  by_cases h4 : i4 < 5
  · rw [show own_ex i4 i5 i6 i7 i8 i9 = 0 by simp [own_ex, h4]]
    exact tn0_t s0 s1 s2 s3 i4 (.val (.int i5)) (.val (.int i6)) (.val (.int i7)) (.val (.int i8)) (.val (.int i9)) s10 s11 s12 s13 s14 X0 hx hZ hw hby hml hown e0 hs14 h4
  · by_cases h5 : i5 = 84
    · by_cases h6 : i6 = 121
      · by_cases h7 : i7 = 112
        · by_cases h8 : i8 = 101
          · by_cases h9 : i9 = 59
            · rw [show own_ex i4 i5 i6 i7 i8 i9 = 1 from if_pos ⟨h4, h5, h6, h7, h8, h9⟩]
              exact tn0_ffffff s0 s1 s2 s3 i4 i5 i6 i7 i8 i9 s10 s11 s12 s13 s14 X0 hx hZ hw hby hml hown e0 hs14 h4 h5 h6 h7 h8 h9
            · rw [show own_ex i4 i5 i6 i7 i8 i9 = 0 by simp [own_ex, h9]]
              exact tn0_ffffft s0 s1 s2 s3 i4 i5 i6 i7 i8 i9 s10 s11 s12 s13 s14 X0 hx hZ hw hby hml hown e0 hs14 h4 h5 h6 h7 h8 h9
          · rw [show own_ex i4 i5 i6 i7 i8 i9 = 0 by simp [own_ex, h8]]
            exact tn0_fffft s0 s1 s2 s3 i4 i5 i6 i7 i8 (.val (.int i9)) s10 s11 s12 s13 s14 X0 hx hZ hw hby hml hown e0 hs14 h4 h5 h6 h7 h8
        · rw [show own_ex i4 i5 i6 i7 i8 i9 = 0 by simp [own_ex, h7]]
          exact tn0_ffft s0 s1 s2 s3 i4 i5 i6 i7 (.val (.int i8)) (.val (.int i9)) s10 s11 s12 s13 s14 X0 hx hZ hw hby hml hown e0 hs14 h4 h5 h6 h7
      · rw [show own_ex i4 i5 i6 i7 i8 i9 = 0 by simp [own_ex, h6]]
        exact tn0_fft s0 s1 s2 s3 i4 i5 i6 (.val (.int i7)) (.val (.int i8)) (.val (.int i9)) s10 s11 s12 s13 s14 X0 hx hZ hw hby hml hown e0 hs14 h4 h5 h6
    · rw [show own_ex i4 i5 i6 i7 i8 i9 = 0 by simp [own_ex, h5]]
      exact tn0_ft s0 s1 s2 s3 i4 i5 (.val (.int i6)) (.val (.int i7)) (.val (.int i8)) (.val (.int i9)) s10 s11 s12 s13 s14 X0 hx hZ hw hby hml hown e0 hs14 h4 h5
theorem pn_0 : plainName "com/example/bandmark/bandmark/ReceiverExportReaderRecognisesPinLaw" = true := by first | (simp [plainName, overriddenIn]; done) | decide +kernel
theorem pd_0_0 : parseMethodDescriptor "(IIIJ)B" = some ⟨[.int, .int, .int, .long], some .byte⟩ := by decide +kernel
theorem pd_0_1 : parseMethodDescriptor "([BIB)V" = some ⟨[(.array .byte), .int, .byte], none⟩ := by decide +kernel
theorem pd_0_2 : parseMethodDescriptor "([B)Z" = some ⟨[(.array .byte)], some .boolean⟩ := by decide +kernel
theorem ef_0 (m : MethodId) (x0 : Int32) (x1 : Int32) (x2 : Int64) : entryFrame m #[(.int x0), (.int x1), (.long x2)] maxLocals = mkF m 0 #[.val (.int x0), .val (.int x1), .val (.long x2), .second, .unset, .unset, .unset, .unset, .unset, .unset, .unset, .unset, .unset, .unset, .unset] [] := by first | (simp [entryFrame, mkF, argsToLocals, Value.category, maxLocals]; done) | rfl
def Q0 (h0 : Heap) (n0 : Nat) (v : Option Value) (h : Heap) (L : List Loc) : Prop := v = some (.int (1 : Int32)) ∧ Fr n0 L
theorem own_new {Z : State} {h : Heap} {a : Addr} {k : ClassId} {N : Nat} (A : Arr Z h a (newA k .byte (Int32.ofNat N)) .byte) (hN : N < 8) : own_Ba Z h a N (fun _ => (0 : Int32)) := by
  refine ⟨_, A, by rw [sz_new]; exact (own_n N hN).1, fun j hj => ?_⟩
  have q := get_new (cA := k) (ty := .byte) (n := Int32.ofNat N) (k := Int32.ofNat j) (by rw [(own_n N hN).1, (own_i N hN j hj).1]; exact fun z => z.elim (own_i N hN j hj).2.1 (by omega))
  rwa [(own_i N hN j hj).1] at q
def own_B (p2 : Int32) (q3 : Int64) (i : Nat) : Int32 := match i with | 0 => (own_pk p2 (0 : Int32) (84 : Int32) q3) | 1 => (own_pk p2 (1 : Int32) (121 : Int32) q3) | 2 => (own_pk p2 (2 : Int32) (112 : Int32) q3) | 3 => (own_pk p2 (3 : Int32) (101 : Int32) q3) | 4 => (own_pk p2 (4 : Int32) (59 : Int32) q3) | 5 => (own_pk p2 (5 : Int32) (84 : Int32) q3) | 6 => (own_pk p2 (6 : Int32) (59 : Int32) q3) | _ => (own_pk p2 (7 : Int32) (0 : Int32) q3)
def own_F (p2 : Int32) (q3 : Int64) : Nat → Nat → Int32 | 0 => fun _ => 0 | i + 1 => fun j => if j = i then nar .byte (own_B p2 q3 i) else own_F p2 q3 i j
theorem own_F8 (p2 : Int32) (q3 : Int64) : ∀ j, j < 8 → own_F p2 q3 8 j = own_B p2 q3 j := by
  intro j hj
  rcases (by omega : j = 0 ∨ j = 1 ∨ j = 2 ∨ j = 3 ∨ j = 4 ∨ j = 5 ∨ j = 6 ∨ j = 7) with rfl | rfl | rfl | rfl | rfl | rfl | rfl | rfl <;> exact own_pkn _ _ _ _
theorem own_same (p2 : Int32) (q3 : Int64) (N : Nat) (hN : N < 8) (g : Nat → Int32) (hg : g 0 = 84 ∧ g 1 = 121 ∧ g 2 = 112 ∧ g 3 = 101 ∧ g 4 = 59) : own_rc N (own_F p2 q3 8) g = (own_ex (Int32.ofNat N) (own_pk p2 (0 : Int32) (84 : Int32) q3) (own_pk p2 (1 : Int32) (121 : Int32) q3) (own_pk p2 (2 : Int32) (112 : Int32) q3) (own_pk p2 (3 : Int32) (101 : Int32) q3) (own_pk p2 (4 : Int32) (59 : Int32) q3)) := by
  have e0 := own_F8 p2 q3 0 (by decide)
  have e1 := own_F8 p2 q3 1 (by decide)
  have e2 := own_F8 p2 q3 2 (by decide)
  have e3 := own_F8 p2 q3 3 (by decide)
  have e4 := own_F8 p2 q3 4 (by decide)
  have hall : (∀ j, j < 5 → own_F p2 q3 8 j = g j) ↔ ((own_pk p2 (0 : Int32) (84 : Int32) q3) = 84 ∧ (own_pk p2 (1 : Int32) (121 : Int32) q3) = 121 ∧ (own_pk p2 (2 : Int32) (112 : Int32) q3) = 112 ∧ (own_pk p2 (3 : Int32) (101 : Int32) q3) = 101 ∧ (own_pk p2 (4 : Int32) (59 : Int32) q3) = 59) := by
    constructor
    · intro h
      exact ⟨e0.symm.trans ((h 0 (by decide)).trans hg.1), e1.symm.trans ((h 1 (by decide)).trans hg.2.1), e2.symm.trans ((h 2 (by decide)).trans hg.2.2.1), e3.symm.trans ((h 3 (by decide)).trans hg.2.2.2.1), e4.symm.trans ((h 4 (by decide)).trans hg.2.2.2.2)⟩
    · rintro ⟨a0, a1, a2, a3, a4⟩ j hj
      rcases (by omega : j = 0 ∨ j = 1 ∨ j = 2 ∨ j = 3 ∨ j = 4) with rfl | rfl | rfl | rfl | rfl
      · exact e0.trans (a0.trans hg.1.symm)
      · exact e1.trans (a1.trans hg.2.1.symm)
      · exact e2.trans (a2.trans hg.2.2.1.symm)
      · exact e3.trans (a3.trans hg.2.2.2.1.symm)
      · exact e4.trans (a4.trans hg.2.2.2.2.symm)
  have hn : 5 ≤ N ↔ ¬ Int32.ofNat N < 5 := ⟨own_ge5 N hN, fun h => Decidable.byContradiction fun q => h (own_lt5 N hN q)⟩
  unfold own_rc own_ex
  by_cases q : 5 ≤ N ∧ (∀ j, j < 5 → own_F p2 q3 8 j = g j)
  · rw [if_pos ⟨q.1, (own_five _ _).mpr q.2⟩, if_pos ⟨hn.mp q.1, hall.mp q.2⟩]
  · rw [if_neg fun z => q ⟨z.1, (own_five _ _).mp z.2⟩, if_neg fun z => q ⟨hn.mpr z.1, hall.mpr z.2⟩]
set_option maxRecDepth 65536 in
set_option maxHeartbeats 40000000 in
theorem rm0 (l : Launch) (Z : State) (a0 : Array Value) (hw : ∀ d ∈ tables_1, d.before a0 Z = true) (ws : List Jvm.Cond) (p1 : Int32) (p2 : Int32) (q3 : Int64) (N : Nat) (w2 : Addr) (cw : Cell) (g : Nat → Int32) (h0 : Heap) (n0 : Nat) (Z0 : n0 ≤ h0.size) (hN8 : N < 8) (hN : (p1 &&& (7 : Int32)) = Int32.ofNat N) (O0 : Old Z n0 h0) (S_S : Sta Z Z.heap "com/example/bandmark/bandmark/ReceiverExportReader" "SIGNATURE" "[B" (.ref w2)) (Ar_w : Arr Z Z.heap w2 cw .byte) (hSw : cw.slots.size = 5) (hatw : ∀ j, j < 5 → cw.slots[j]? = some (.int (g j))) (hg : g 0 = 84 ∧ g 1 = 121 ∧ g 2 = 112 ∧ g 3 = 101 ∧ g 4 = 59) :
    MetFree l x (head1 (Jvm.Cond.code x code maxLocals ret :: ws) room_1) (fun a U => a = #[(.int p1), (.int p2), (.long q3)] ∧ Z.Warmed39 U.vm ∧ U.heap = h0) (fun _ _ _ _ _ => True) (fun _ U o U' => ∃ v L, o = .returned v ∧ Q0 h0 n0 v U'.heap L ∧ FrameEnd U o U' L room_1.cells room_1.slots) := by
  refine MetFree.of_bodySF (plainFor_of_name pn_0) hisR ?_
  intro p e s m args below meth c s₁ Bd hml0 hP hK
  obtain ⟨rfl, hZ, hh⟩ := hP
  have hx := Bd.exec
  have hby := Bd.bytes
  have hml : c.maxLocals = 15 := hml0
  have hown : s.vm.findClass "com/example/bandmark/bandmark/ReceiverExportReaderRecognisesPinLaw" = some m.cls := findClass_of_methodNamed Bd.named
  have hnm := (name_of_methodNamed Bd.named Bd.method).1
  have X0 : Stand p l e room_1 s m #[(.int p1), (.int p2), (.long q3)] below meth c s₁ [] 0 0 := Stand.of_body Bd
  have e0 : s₁.heap = h0 := by rw [← hh, Bd.state]; rfl
  have N0 := Fr.nil n0
  have pre0 : ∀ t, Steps p.tables e below (s₁.setTop (mkF m 0 #[.val (.int p1), .val (.int p2), .val (.long q3), .second, .unset, .unset, .unset, .unset, .unset, .unset, .unset, .unset, .unset, .unset, .unset] [])) t → Steps p.tables e below (s₁.setTop (entryFrame m #[(.int p1), (.int p2), (.long q3)] maxLocals)) t := fun t k => castTop (ef_0 m p1 p2 q3) k
  obtain ⟨_, _, ⟨T4, L4, k4, n4⟩, -, X4, ⟨Lc4, hQ4, l4, y4, z4⟩, st4⟩ := Jvm.LawKit.callS X0 hx (y := (⟨"com/example/bandmark/bandmark/ReceiverExportReaderRecognisesPinLaw", "pick", "(IIIJ)B"⟩ : MethodName)) hown (mvT hZ (hw _ (List.mem_of_getElem? (i := 0) rfl))) (mvT hZ (hw _ (List.mem_of_getElem? (i := 1) rfl))) (mvT hZ (hw _ (List.mem_of_getElem? (i := 2) rfl))) (mvT hZ (hw _ (List.mem_of_getElem? (i := 3) rfl))) (by decide) (backOf (W := 0) (r1 l Z a0 hw [] p2 (0 : Int32) (84 : Int32) q3 h0 n0 Z0) hZ (hw _ (List.mem_of_getElem? (i := 3) rfl)) (hw _ (List.mem_of_getElem? (i := 2) rfl)) (by decide) (by decide)) (g := (mkF m 11 #[.val (.int p1), .val (.int p2), .val (.long q3), .second, .val (.int (Int32.ofNat N)), .unset, .unset, .unset, .unset, .unset, .unset, .unset, .unset, .unset, .unset] [(.long q3), (.int (84 : Int32)), (.int (0 : Int32)), (.int p2)])) rfl (by rw [hml]; rfl) (argsL := [(.int p2), (.int (0 : Int32)), (.int (84 : Int32)), (.long q3)]) (rest := []) (lenOf pd_0_0 rfl) rfl (by show 2 * 0 + _ ≤ _; exact Nat.le_of_eq rfl) (hb hby at_11) (fun _ _ => ⟨rfl, e0, (by decide : 0 + 0 ≤ _), (by decide : 0 + 0 ≤ _)⟩)
  dsimp only [Pt.U, Pt.locs, Pt.cells, Pt.slots] at X4 l4 y4 z4 st4 hQ4
  subst l4 y4 z4
  obtain ⟨rfl, N4q, e4⟩ := hQ4
  have N4 := Fr.app N0 N4q
  obtain ⟨_, _, ⟨T5, L5, k5, n5⟩, -, X5, ⟨Lc5, hQ5, l5, y5, z5⟩, st5⟩ := Jvm.LawKit.callS X4 hx (y := (⟨"com/example/bandmark/bandmark/ReceiverExportReaderRecognisesPinLaw", "pick", "(IIIJ)B"⟩ : MethodName)) hown (mvT hZ (hw _ (List.mem_of_getElem? (i := 0) rfl))) (mvT hZ (hw _ (List.mem_of_getElem? (i := 1) rfl))) (mvT hZ (hw _ (List.mem_of_getElem? (i := 2) rfl))) (mvT hZ (hw _ (List.mem_of_getElem? (i := 3) rfl))) (by decide) (backOf (W := 0) (r1 l Z a0 hw [] p2 (1 : Int32) (121 : Int32) q3 h0 n0 Z0) hZ (hw _ (List.mem_of_getElem? (i := 3) rfl)) (hw _ (List.mem_of_getElem? (i := 2) rfl)) (by decide) (by decide)) (g := (mkF m 21 #[.val (.int p1), .val (.int p2), .val (.long q3), .second, .val (.int (Int32.ofNat N)), .val (.int (own_pk p2 (0 : Int32) (84 : Int32) q3)), .unset, .unset, .unset, .unset, .unset, .unset, .unset, .unset, .unset] [(.long q3), (.int (121 : Int32)), (.int (1 : Int32)), (.int p2)])) rfl (by rw [hml]; rfl) (argsL := [(.int p2), (.int (1 : Int32)), (.int (121 : Int32)), (.long q3)]) (rest := []) (lenOf pd_0_0 rfl) rfl (by show 2 * 0 + _ ≤ _; exact Nat.le_of_eq rfl) (hb hby at_21) (fun _ _ => ⟨rfl, e4, (by decide : 0 + 0 ≤ _), (by decide : 0 + 0 ≤ _)⟩)
  dsimp only [Pt.U, Pt.locs, Pt.cells, Pt.slots] at X5 l5 y5 z5 st5 hQ5
  subst l5 y5 z5
  obtain ⟨rfl, N5q, e5⟩ := hQ5
  have N5 := Fr.app N4 N5q
  obtain ⟨_, _, ⟨T6, L6, k6, n6⟩, -, X6, ⟨Lc6, hQ6, l6, y6, z6⟩, st6⟩ := Jvm.LawKit.callS X5 hx (y := (⟨"com/example/bandmark/bandmark/ReceiverExportReaderRecognisesPinLaw", "pick", "(IIIJ)B"⟩ : MethodName)) hown (mvT hZ (hw _ (List.mem_of_getElem? (i := 0) rfl))) (mvT hZ (hw _ (List.mem_of_getElem? (i := 1) rfl))) (mvT hZ (hw _ (List.mem_of_getElem? (i := 2) rfl))) (mvT hZ (hw _ (List.mem_of_getElem? (i := 3) rfl))) (by decide) (backOf (W := 0) (r1 l Z a0 hw [] p2 (2 : Int32) (112 : Int32) q3 h0 n0 Z0) hZ (hw _ (List.mem_of_getElem? (i := 3) rfl)) (hw _ (List.mem_of_getElem? (i := 2) rfl)) (by decide) (by decide)) (g := (mkF m 31 #[.val (.int p1), .val (.int p2), .val (.long q3), .second, .val (.int (Int32.ofNat N)), .val (.int (own_pk p2 (0 : Int32) (84 : Int32) q3)), .val (.int (own_pk p2 (1 : Int32) (121 : Int32) q3)), .unset, .unset, .unset, .unset, .unset, .unset, .unset, .unset] [(.long q3), (.int (112 : Int32)), (.int (2 : Int32)), (.int p2)])) rfl (by rw [hml]; rfl) (argsL := [(.int p2), (.int (2 : Int32)), (.int (112 : Int32)), (.long q3)]) (rest := []) (lenOf pd_0_0 rfl) rfl (by show 2 * 0 + _ ≤ _; exact Nat.le_of_eq rfl) (hb hby at_31) (fun _ _ => ⟨rfl, e5, (by decide : 0 + 0 ≤ _), (by decide : 0 + 0 ≤ _)⟩)
  dsimp only [Pt.U, Pt.locs, Pt.cells, Pt.slots] at X6 l6 y6 z6 st6 hQ6
  subst l6 y6 z6
  obtain ⟨rfl, N6q, e6⟩ := hQ6
  have N6 := Fr.app N5 N6q
  obtain ⟨_, _, ⟨T7, L7, k7, n7⟩, -, X7, ⟨Lc7, hQ7, l7, y7, z7⟩, st7⟩ := Jvm.LawKit.callS X6 hx (y := (⟨"com/example/bandmark/bandmark/ReceiverExportReaderRecognisesPinLaw", "pick", "(IIIJ)B"⟩ : MethodName)) hown (mvT hZ (hw _ (List.mem_of_getElem? (i := 0) rfl))) (mvT hZ (hw _ (List.mem_of_getElem? (i := 1) rfl))) (mvT hZ (hw _ (List.mem_of_getElem? (i := 2) rfl))) (mvT hZ (hw _ (List.mem_of_getElem? (i := 3) rfl))) (by decide) (backOf (W := 0) (r1 l Z a0 hw [] p2 (3 : Int32) (101 : Int32) q3 h0 n0 Z0) hZ (hw _ (List.mem_of_getElem? (i := 3) rfl)) (hw _ (List.mem_of_getElem? (i := 2) rfl)) (by decide) (by decide)) (g := (mkF m 41 #[.val (.int p1), .val (.int p2), .val (.long q3), .second, .val (.int (Int32.ofNat N)), .val (.int (own_pk p2 (0 : Int32) (84 : Int32) q3)), .val (.int (own_pk p2 (1 : Int32) (121 : Int32) q3)), .val (.int (own_pk p2 (2 : Int32) (112 : Int32) q3)), .unset, .unset, .unset, .unset, .unset, .unset, .unset] [(.long q3), (.int (101 : Int32)), (.int (3 : Int32)), (.int p2)])) rfl (by rw [hml]; rfl) (argsL := [(.int p2), (.int (3 : Int32)), (.int (101 : Int32)), (.long q3)]) (rest := []) (lenOf pd_0_0 rfl) rfl (by show 2 * 0 + _ ≤ _; exact Nat.le_of_eq rfl) (hb hby at_41) (fun _ _ => ⟨rfl, e6, (by decide : 0 + 0 ≤ _), (by decide : 0 + 0 ≤ _)⟩)
  dsimp only [Pt.U, Pt.locs, Pt.cells, Pt.slots] at X7 l7 y7 z7 st7 hQ7
  subst l7 y7 z7
  obtain ⟨rfl, N7q, e7⟩ := hQ7
  have N7 := Fr.app N6 N7q
  obtain ⟨_, _, ⟨T8, L8, k8, n8⟩, -, X8, ⟨Lc8, hQ8, l8, y8, z8⟩, st8⟩ := Jvm.LawKit.callS X7 hx (y := (⟨"com/example/bandmark/bandmark/ReceiverExportReaderRecognisesPinLaw", "pick", "(IIIJ)B"⟩ : MethodName)) hown (mvT hZ (hw _ (List.mem_of_getElem? (i := 0) rfl))) (mvT hZ (hw _ (List.mem_of_getElem? (i := 1) rfl))) (mvT hZ (hw _ (List.mem_of_getElem? (i := 2) rfl))) (mvT hZ (hw _ (List.mem_of_getElem? (i := 3) rfl))) (by decide) (backOf (W := 0) (r1 l Z a0 hw [] p2 (4 : Int32) (59 : Int32) q3 h0 n0 Z0) hZ (hw _ (List.mem_of_getElem? (i := 3) rfl)) (hw _ (List.mem_of_getElem? (i := 2) rfl)) (by decide) (by decide)) (g := (mkF m 51 #[.val (.int p1), .val (.int p2), .val (.long q3), .second, .val (.int (Int32.ofNat N)), .val (.int (own_pk p2 (0 : Int32) (84 : Int32) q3)), .val (.int (own_pk p2 (1 : Int32) (121 : Int32) q3)), .val (.int (own_pk p2 (2 : Int32) (112 : Int32) q3)), .val (.int (own_pk p2 (3 : Int32) (101 : Int32) q3)), .unset, .unset, .unset, .unset, .unset, .unset] [(.long q3), (.int (59 : Int32)), (.int (4 : Int32)), (.int p2)])) rfl (by rw [hml]; rfl) (argsL := [(.int p2), (.int (4 : Int32)), (.int (59 : Int32)), (.long q3)]) (rest := []) (lenOf pd_0_0 rfl) rfl (by show 2 * 0 + _ ≤ _; exact Nat.le_of_eq rfl) (hb hby at_51) (fun _ _ => ⟨rfl, e7, (by decide : 0 + 0 ≤ _), (by decide : 0 + 0 ≤ _)⟩)
  dsimp only [Pt.U, Pt.locs, Pt.cells, Pt.slots] at X8 l8 y8 z8 st8 hQ8
  subst l8 y8 z8
  obtain ⟨rfl, N8q, e8⟩ := hQ8
  have N8 := Fr.app N7 N8q
  obtain ⟨_, _, ⟨T9, L9, k9, n9⟩, -, X9, ⟨Lc9, hQ9, l9, y9, z9⟩, st9⟩ := Jvm.LawKit.callS X8 hx (y := (⟨"com/example/bandmark/bandmark/ReceiverExportReaderRecognisesPinLaw", "pick", "(IIIJ)B"⟩ : MethodName)) hown (mvT hZ (hw _ (List.mem_of_getElem? (i := 0) rfl))) (mvT hZ (hw _ (List.mem_of_getElem? (i := 1) rfl))) (mvT hZ (hw _ (List.mem_of_getElem? (i := 2) rfl))) (mvT hZ (hw _ (List.mem_of_getElem? (i := 3) rfl))) (by decide) (backOf (W := 0) (r1 l Z a0 hw [] p2 (5 : Int32) (84 : Int32) q3 h0 n0 Z0) hZ (hw _ (List.mem_of_getElem? (i := 3) rfl)) (hw _ (List.mem_of_getElem? (i := 2) rfl)) (by decide) (by decide)) (g := (mkF m 61 #[.val (.int p1), .val (.int p2), .val (.long q3), .second, .val (.int (Int32.ofNat N)), .val (.int (own_pk p2 (0 : Int32) (84 : Int32) q3)), .val (.int (own_pk p2 (1 : Int32) (121 : Int32) q3)), .val (.int (own_pk p2 (2 : Int32) (112 : Int32) q3)), .val (.int (own_pk p2 (3 : Int32) (101 : Int32) q3)), .val (.int (own_pk p2 (4 : Int32) (59 : Int32) q3)), .unset, .unset, .unset, .unset, .unset] [(.long q3), (.int (84 : Int32)), (.int (5 : Int32)), (.int p2)])) rfl (by rw [hml]; rfl) (argsL := [(.int p2), (.int (5 : Int32)), (.int (84 : Int32)), (.long q3)]) (rest := []) (lenOf pd_0_0 rfl) rfl (by show 2 * 0 + _ ≤ _; exact Nat.le_of_eq rfl) (hb hby at_61) (fun _ _ => ⟨rfl, e8, (by decide : 0 + 0 ≤ _), (by decide : 0 + 0 ≤ _)⟩)
  dsimp only [Pt.U, Pt.locs, Pt.cells, Pt.slots] at X9 l9 y9 z9 st9 hQ9
  subst l9 y9 z9
  obtain ⟨rfl, N9q, e9⟩ := hQ9
  have N9 := Fr.app N8 N9q
  obtain ⟨_, _, ⟨T10, L10, k10, n10⟩, -, X10, ⟨Lc10, hQ10, l10, y10, z10⟩, st10⟩ := Jvm.LawKit.callS X9 hx (y := (⟨"com/example/bandmark/bandmark/ReceiverExportReaderRecognisesPinLaw", "pick", "(IIIJ)B"⟩ : MethodName)) hown (mvT hZ (hw _ (List.mem_of_getElem? (i := 0) rfl))) (mvT hZ (hw _ (List.mem_of_getElem? (i := 1) rfl))) (mvT hZ (hw _ (List.mem_of_getElem? (i := 2) rfl))) (mvT hZ (hw _ (List.mem_of_getElem? (i := 3) rfl))) (by decide) (backOf (W := 0) (r1 l Z a0 hw [] p2 (6 : Int32) (59 : Int32) q3 h0 n0 Z0) hZ (hw _ (List.mem_of_getElem? (i := 3) rfl)) (hw _ (List.mem_of_getElem? (i := 2) rfl)) (by decide) (by decide)) (g := (mkF m 72 #[.val (.int p1), .val (.int p2), .val (.long q3), .second, .val (.int (Int32.ofNat N)), .val (.int (own_pk p2 (0 : Int32) (84 : Int32) q3)), .val (.int (own_pk p2 (1 : Int32) (121 : Int32) q3)), .val (.int (own_pk p2 (2 : Int32) (112 : Int32) q3)), .val (.int (own_pk p2 (3 : Int32) (101 : Int32) q3)), .val (.int (own_pk p2 (4 : Int32) (59 : Int32) q3)), .val (.int (own_pk p2 (5 : Int32) (84 : Int32) q3)), .unset, .unset, .unset, .unset] [(.long q3), (.int (59 : Int32)), (.int (6 : Int32)), (.int p2)])) rfl (by rw [hml]; rfl) (argsL := [(.int p2), (.int (6 : Int32)), (.int (59 : Int32)), (.long q3)]) (rest := []) (lenOf pd_0_0 rfl) rfl (by show 2 * 0 + _ ≤ _; exact Nat.le_of_eq rfl) (hb hby at_72) (fun _ _ => ⟨rfl, e9, (by decide : 0 + 0 ≤ _), (by decide : 0 + 0 ≤ _)⟩)
  dsimp only [Pt.U, Pt.locs, Pt.cells, Pt.slots] at X10 l10 y10 z10 st10 hQ10
  subst l10 y10 z10
  obtain ⟨rfl, N10q, e10⟩ := hQ10
  have N10 := Fr.app N9 N10q
  obtain ⟨_, _, ⟨T11, L11, k11, n11⟩, -, X11, ⟨Lc11, hQ11, l11, y11, z11⟩, st11⟩ := Jvm.LawKit.callS X10 hx (y := (⟨"com/example/bandmark/bandmark/ReceiverExportReaderRecognisesPinLaw", "pick", "(IIIJ)B"⟩ : MethodName)) hown (mvT hZ (hw _ (List.mem_of_getElem? (i := 0) rfl))) (mvT hZ (hw _ (List.mem_of_getElem? (i := 1) rfl))) (mvT hZ (hw _ (List.mem_of_getElem? (i := 2) rfl))) (mvT hZ (hw _ (List.mem_of_getElem? (i := 3) rfl))) (by decide) (backOf (W := 0) (r1 l Z a0 hw [] p2 (7 : Int32) (0 : Int32) q3 h0 n0 Z0) hZ (hw _ (List.mem_of_getElem? (i := 3) rfl)) (hw _ (List.mem_of_getElem? (i := 2) rfl)) (by decide) (by decide)) (g := (mkF m 82 #[.val (.int p1), .val (.int p2), .val (.long q3), .second, .val (.int (Int32.ofNat N)), .val (.int (own_pk p2 (0 : Int32) (84 : Int32) q3)), .val (.int (own_pk p2 (1 : Int32) (121 : Int32) q3)), .val (.int (own_pk p2 (2 : Int32) (112 : Int32) q3)), .val (.int (own_pk p2 (3 : Int32) (101 : Int32) q3)), .val (.int (own_pk p2 (4 : Int32) (59 : Int32) q3)), .val (.int (own_pk p2 (5 : Int32) (84 : Int32) q3)), .val (.int (own_pk p2 (6 : Int32) (59 : Int32) q3)), .unset, .unset, .unset] [(.long q3), (.int (0 : Int32)), (.int (7 : Int32)), (.int p2)])) rfl (by rw [hml]; rfl) (argsL := [(.int p2), (.int (7 : Int32)), (.int (0 : Int32)), (.long q3)]) (rest := []) (lenOf pd_0_0 rfl) rfl (by show 2 * 0 + _ ≤ _; exact Nat.le_of_eq rfl) (hb hby at_82) (fun _ _ => ⟨rfl, e10, (by decide : 0 + 0 ≤ _), (by decide : 0 + 0 ≤ _)⟩)
  dsimp only [Pt.U, Pt.locs, Pt.cells, Pt.slots] at X11 l11 y11 z11 st11 hQ11
  subst l11 y11 z11
  obtain ⟨rfl, N11q, e11⟩ := hQ11
  have N11 := Fr.app N10 N11q
  obtain ⟨T12, h12, k12, X12, e12, E12, A12, st12⟩ := newP X11 hx hZ (hw _ (List.mem_of_getElem? (i := 4) rfl)) rfl (g := (mkF m 89 #[.val (.int p1), .val (.int p2), .val (.long q3), .second, .val (.int (Int32.ofNat N)), .val (.int (own_pk p2 (0 : Int32) (84 : Int32) q3)), .val (.int (own_pk p2 (1 : Int32) (121 : Int32) q3)), .val (.int (own_pk p2 (2 : Int32) (112 : Int32) q3)), .val (.int (own_pk p2 (3 : Int32) (101 : Int32) q3)), .val (.int (own_pk p2 (4 : Int32) (59 : Int32) q3)), .val (.int (own_pk p2 (5 : Int32) (84 : Int32) q3)), .val (.int (own_pk p2 (6 : Int32) (59 : Int32) q3)), .val (.int (own_pk p2 (7 : Int32) (0 : Int32) q3)), .unset, .unset] [(.int (Int32.ofNat N))])) rfl (hb hby at_89) rfl (own_n N hN8).2.1 (cap := 7) (by rw [(own_n N hN8).1]; omega) (by decide) (by decide) (by decide)
  obtain ⟨b12, g12⟩ : ∃ z, z = T11.heap.size := ⟨_, rfl⟩
  rw [← g12] at A12 st12
  have g_b12 : n0 ≤ b12 := Nat.le_trans Z0 (Nat.le_of_eq ((congrArg Array.size e11.symm).trans g12.symm))
  have B13 : own_Ba Z h12 b12 N (fun _ => (0 : Int32)) := own_new A12 hN8
  have O13 : Old Z n0 h12 := (e11 ▸ O0).ext E12
  have Z13 : n0 ≤ h12.size := Nat.le_trans Z0 (Nat.le_trans (Nat.le_of_eq (congrArg Array.size e11.symm)) E12.1)
  obtain ⟨_, _, ⟨T13, L13, k13, n13⟩, -, X13, ⟨Lc13, hQ13, l13, y13, z13⟩, st13⟩ := Jvm.LawKit.callS X12 hx (y := (⟨"com/example/bandmark/bandmark/ReceiverExportReaderRecognisesPinLaw", "put", "([BIB)V"⟩ : MethodName)) hown (mvT hZ (hw _ (List.mem_of_getElem? (i := 5) rfl))) (mvT hZ (hw _ (List.mem_of_getElem? (i := 6) rfl))) (mvT hZ (hw _ (List.mem_of_getElem? (i := 2) rfl))) (mvT hZ (hw _ (List.mem_of_getElem? (i := 7) rfl))) (by decide) (backOf (W := 0) (r2 l Z a0 hw [] b12 0 (own_pk p2 (0 : Int32) (84 : Int32) q3) N (own_F p2 q3 0) h12 n0 Z13 hN8 (by decide) B13 g_b12) hZ (hw _ (List.mem_of_getElem? (i := 7) rfl)) (hw _ (List.mem_of_getElem? (i := 2) rfl)) (by decide) (by decide)) (g := (mkF m 98 #[.val (.int p1), .val (.int p2), .val (.long q3), .second, .val (.int (Int32.ofNat N)), .val (.int (own_pk p2 (0 : Int32) (84 : Int32) q3)), .val (.int (own_pk p2 (1 : Int32) (121 : Int32) q3)), .val (.int (own_pk p2 (2 : Int32) (112 : Int32) q3)), .val (.int (own_pk p2 (3 : Int32) (101 : Int32) q3)), .val (.int (own_pk p2 (4 : Int32) (59 : Int32) q3)), .val (.int (own_pk p2 (5 : Int32) (84 : Int32) q3)), .val (.int (own_pk p2 (6 : Int32) (59 : Int32) q3)), .val (.int (own_pk p2 (7 : Int32) (0 : Int32) q3)), .val (.ref b12), .unset] [(.int (own_pk p2 (0 : Int32) (84 : Int32) q3)), (.int (0 : Int32)), (.ref b12)])) rfl (by rw [hml]; rfl) (argsL := [(.ref b12), (.int (0 : Int32)), (.int (own_pk p2 (0 : Int32) (84 : Int32) q3))]) (rest := []) (lenOf pd_0_1 rfl) rfl (by show 2 * 0 + _ ≤ _; exact Nat.le_of_eq rfl) (hb hby at_98) (fun _ _ => ⟨rfl, e12, (by decide : 1 + 0 ≤ _), (by decide : 7 + 0 ≤ _)⟩)
  dsimp only [Pt.U, Pt.locs, Pt.cells, Pt.slots] at X13 l13 y13 z13 st13 hQ13
  subst l13 y13 z13
  obtain ⟨rfl, N13q, K13, B14⟩ := hQ13
  have N13 := Fr.app N11 N13q
  have O14 : Old Z n0 T13.heap := O13.keep K13 (allS g_b12 all0)
  have Z14 : n0 ≤ T13.heap.size := Nat.le_trans Z13 K13.1
  obtain ⟨_, _, ⟨T14, L14, k14, n14⟩, -, X14, ⟨Lc14, hQ14, l14, y14, z14⟩, st14⟩ := Jvm.LawKit.callS X13 hx (y := (⟨"com/example/bandmark/bandmark/ReceiverExportReaderRecognisesPinLaw", "put", "([BIB)V"⟩ : MethodName)) hown (mvT hZ (hw _ (List.mem_of_getElem? (i := 5) rfl))) (mvT hZ (hw _ (List.mem_of_getElem? (i := 6) rfl))) (mvT hZ (hw _ (List.mem_of_getElem? (i := 2) rfl))) (mvT hZ (hw _ (List.mem_of_getElem? (i := 7) rfl))) (by decide) (backOf (W := 0) (r2 l Z a0 hw [] b12 1 (own_pk p2 (1 : Int32) (121 : Int32) q3) N (own_F p2 q3 1) T13.heap n0 Z14 hN8 (by decide) B14 g_b12) hZ (hw _ (List.mem_of_getElem? (i := 7) rfl)) (hw _ (List.mem_of_getElem? (i := 2) rfl)) (by decide) (by decide)) (g := (mkF m 106 #[.val (.int p1), .val (.int p2), .val (.long q3), .second, .val (.int (Int32.ofNat N)), .val (.int (own_pk p2 (0 : Int32) (84 : Int32) q3)), .val (.int (own_pk p2 (1 : Int32) (121 : Int32) q3)), .val (.int (own_pk p2 (2 : Int32) (112 : Int32) q3)), .val (.int (own_pk p2 (3 : Int32) (101 : Int32) q3)), .val (.int (own_pk p2 (4 : Int32) (59 : Int32) q3)), .val (.int (own_pk p2 (5 : Int32) (84 : Int32) q3)), .val (.int (own_pk p2 (6 : Int32) (59 : Int32) q3)), .val (.int (own_pk p2 (7 : Int32) (0 : Int32) q3)), .val (.ref b12), .unset] [(.int (own_pk p2 (1 : Int32) (121 : Int32) q3)), (.int (1 : Int32)), (.ref b12)])) rfl (by rw [hml]; rfl) (argsL := [(.ref b12), (.int (1 : Int32)), (.int (own_pk p2 (1 : Int32) (121 : Int32) q3))]) (rest := []) (lenOf pd_0_1 rfl) rfl (by show 2 * 0 + _ ≤ _; exact Nat.le_of_eq rfl) (hb hby at_106) (fun _ _ => ⟨rfl, rfl, (by decide : 1 + 0 ≤ _), (by decide : 7 + 0 ≤ _)⟩)
  dsimp only [Pt.U, Pt.locs, Pt.cells, Pt.slots] at X14 l14 y14 z14 st14 hQ14
  subst l14 y14 z14
  obtain ⟨rfl, N14q, K14, B15⟩ := hQ14
  have N14 := Fr.app N13 N14q
  have O15 : Old Z n0 T14.heap := O14.keep K14 (allS g_b12 all0)
  have Z15 : n0 ≤ T14.heap.size := Nat.le_trans Z14 K14.1
  obtain ⟨_, _, ⟨T15, L15, k15, n15⟩, -, X15, ⟨Lc15, hQ15, l15, y15, z15⟩, st15⟩ := Jvm.LawKit.callS X14 hx (y := (⟨"com/example/bandmark/bandmark/ReceiverExportReaderRecognisesPinLaw", "put", "([BIB)V"⟩ : MethodName)) hown (mvT hZ (hw _ (List.mem_of_getElem? (i := 5) rfl))) (mvT hZ (hw _ (List.mem_of_getElem? (i := 6) rfl))) (mvT hZ (hw _ (List.mem_of_getElem? (i := 2) rfl))) (mvT hZ (hw _ (List.mem_of_getElem? (i := 7) rfl))) (by decide) (backOf (W := 0) (r2 l Z a0 hw [] b12 2 (own_pk p2 (2 : Int32) (112 : Int32) q3) N (own_F p2 q3 2) T14.heap n0 Z15 hN8 (by decide) B15 g_b12) hZ (hw _ (List.mem_of_getElem? (i := 7) rfl)) (hw _ (List.mem_of_getElem? (i := 2) rfl)) (by decide) (by decide)) (g := (mkF m 114 #[.val (.int p1), .val (.int p2), .val (.long q3), .second, .val (.int (Int32.ofNat N)), .val (.int (own_pk p2 (0 : Int32) (84 : Int32) q3)), .val (.int (own_pk p2 (1 : Int32) (121 : Int32) q3)), .val (.int (own_pk p2 (2 : Int32) (112 : Int32) q3)), .val (.int (own_pk p2 (3 : Int32) (101 : Int32) q3)), .val (.int (own_pk p2 (4 : Int32) (59 : Int32) q3)), .val (.int (own_pk p2 (5 : Int32) (84 : Int32) q3)), .val (.int (own_pk p2 (6 : Int32) (59 : Int32) q3)), .val (.int (own_pk p2 (7 : Int32) (0 : Int32) q3)), .val (.ref b12), .unset] [(.int (own_pk p2 (2 : Int32) (112 : Int32) q3)), (.int (2 : Int32)), (.ref b12)])) rfl (by rw [hml]; rfl) (argsL := [(.ref b12), (.int (2 : Int32)), (.int (own_pk p2 (2 : Int32) (112 : Int32) q3))]) (rest := []) (lenOf pd_0_1 rfl) rfl (by show 2 * 0 + _ ≤ _; exact Nat.le_of_eq rfl) (hb hby at_114) (fun _ _ => ⟨rfl, rfl, (by decide : 1 + 0 ≤ _), (by decide : 7 + 0 ≤ _)⟩)
  dsimp only [Pt.U, Pt.locs, Pt.cells, Pt.slots] at X15 l15 y15 z15 st15 hQ15
  subst l15 y15 z15
  obtain ⟨rfl, N15q, K15, B16⟩ := hQ15
  have N15 := Fr.app N14 N15q
  have O16 : Old Z n0 T15.heap := O15.keep K15 (allS g_b12 all0)
  have Z16 : n0 ≤ T15.heap.size := Nat.le_trans Z15 K15.1
  obtain ⟨_, _, ⟨T16, L16, k16, n16⟩, -, X16, ⟨Lc16, hQ16, l16, y16, z16⟩, st16⟩ := Jvm.LawKit.callS X15 hx (y := (⟨"com/example/bandmark/bandmark/ReceiverExportReaderRecognisesPinLaw", "put", "([BIB)V"⟩ : MethodName)) hown (mvT hZ (hw _ (List.mem_of_getElem? (i := 5) rfl))) (mvT hZ (hw _ (List.mem_of_getElem? (i := 6) rfl))) (mvT hZ (hw _ (List.mem_of_getElem? (i := 2) rfl))) (mvT hZ (hw _ (List.mem_of_getElem? (i := 7) rfl))) (by decide) (backOf (W := 0) (r2 l Z a0 hw [] b12 3 (own_pk p2 (3 : Int32) (101 : Int32) q3) N (own_F p2 q3 3) T15.heap n0 Z16 hN8 (by decide) B16 g_b12) hZ (hw _ (List.mem_of_getElem? (i := 7) rfl)) (hw _ (List.mem_of_getElem? (i := 2) rfl)) (by decide) (by decide)) (g := (mkF m 122 #[.val (.int p1), .val (.int p2), .val (.long q3), .second, .val (.int (Int32.ofNat N)), .val (.int (own_pk p2 (0 : Int32) (84 : Int32) q3)), .val (.int (own_pk p2 (1 : Int32) (121 : Int32) q3)), .val (.int (own_pk p2 (2 : Int32) (112 : Int32) q3)), .val (.int (own_pk p2 (3 : Int32) (101 : Int32) q3)), .val (.int (own_pk p2 (4 : Int32) (59 : Int32) q3)), .val (.int (own_pk p2 (5 : Int32) (84 : Int32) q3)), .val (.int (own_pk p2 (6 : Int32) (59 : Int32) q3)), .val (.int (own_pk p2 (7 : Int32) (0 : Int32) q3)), .val (.ref b12), .unset] [(.int (own_pk p2 (3 : Int32) (101 : Int32) q3)), (.int (3 : Int32)), (.ref b12)])) rfl (by rw [hml]; rfl) (argsL := [(.ref b12), (.int (3 : Int32)), (.int (own_pk p2 (3 : Int32) (101 : Int32) q3))]) (rest := []) (lenOf pd_0_1 rfl) rfl (by show 2 * 0 + _ ≤ _; exact Nat.le_of_eq rfl) (hb hby at_122) (fun _ _ => ⟨rfl, rfl, (by decide : 1 + 0 ≤ _), (by decide : 7 + 0 ≤ _)⟩)
  dsimp only [Pt.U, Pt.locs, Pt.cells, Pt.slots] at X16 l16 y16 z16 st16 hQ16
  subst l16 y16 z16
  obtain ⟨rfl, N16q, K16, B17⟩ := hQ16
  have N16 := Fr.app N15 N16q
  have O17 : Old Z n0 T16.heap := O16.keep K16 (allS g_b12 all0)
  have Z17 : n0 ≤ T16.heap.size := Nat.le_trans Z16 K16.1
  obtain ⟨_, _, ⟨T17, L17, k17, n17⟩, -, X17, ⟨Lc17, hQ17, l17, y17, z17⟩, st17⟩ := Jvm.LawKit.callS X16 hx (y := (⟨"com/example/bandmark/bandmark/ReceiverExportReaderRecognisesPinLaw", "put", "([BIB)V"⟩ : MethodName)) hown (mvT hZ (hw _ (List.mem_of_getElem? (i := 5) rfl))) (mvT hZ (hw _ (List.mem_of_getElem? (i := 6) rfl))) (mvT hZ (hw _ (List.mem_of_getElem? (i := 2) rfl))) (mvT hZ (hw _ (List.mem_of_getElem? (i := 7) rfl))) (by decide) (backOf (W := 0) (r2 l Z a0 hw [] b12 4 (own_pk p2 (4 : Int32) (59 : Int32) q3) N (own_F p2 q3 4) T16.heap n0 Z17 hN8 (by decide) B17 g_b12) hZ (hw _ (List.mem_of_getElem? (i := 7) rfl)) (hw _ (List.mem_of_getElem? (i := 2) rfl)) (by decide) (by decide)) (g := (mkF m 130 #[.val (.int p1), .val (.int p2), .val (.long q3), .second, .val (.int (Int32.ofNat N)), .val (.int (own_pk p2 (0 : Int32) (84 : Int32) q3)), .val (.int (own_pk p2 (1 : Int32) (121 : Int32) q3)), .val (.int (own_pk p2 (2 : Int32) (112 : Int32) q3)), .val (.int (own_pk p2 (3 : Int32) (101 : Int32) q3)), .val (.int (own_pk p2 (4 : Int32) (59 : Int32) q3)), .val (.int (own_pk p2 (5 : Int32) (84 : Int32) q3)), .val (.int (own_pk p2 (6 : Int32) (59 : Int32) q3)), .val (.int (own_pk p2 (7 : Int32) (0 : Int32) q3)), .val (.ref b12), .unset] [(.int (own_pk p2 (4 : Int32) (59 : Int32) q3)), (.int (4 : Int32)), (.ref b12)])) rfl (by rw [hml]; rfl) (argsL := [(.ref b12), (.int (4 : Int32)), (.int (own_pk p2 (4 : Int32) (59 : Int32) q3))]) (rest := []) (lenOf pd_0_1 rfl) rfl (by show 2 * 0 + _ ≤ _; exact Nat.le_of_eq rfl) (hb hby at_130) (fun _ _ => ⟨rfl, rfl, (by decide : 1 + 0 ≤ _), (by decide : 7 + 0 ≤ _)⟩)
  dsimp only [Pt.U, Pt.locs, Pt.cells, Pt.slots] at X17 l17 y17 z17 st17 hQ17
  subst l17 y17 z17
  obtain ⟨rfl, N17q, K17, B18⟩ := hQ17
  have N17 := Fr.app N16 N17q
  have O18 : Old Z n0 T17.heap := O17.keep K17 (allS g_b12 all0)
  have Z18 : n0 ≤ T17.heap.size := Nat.le_trans Z17 K17.1
  obtain ⟨_, _, ⟨T18, L18, k18, n18⟩, -, X18, ⟨Lc18, hQ18, l18, y18, z18⟩, st18⟩ := Jvm.LawKit.callS X17 hx (y := (⟨"com/example/bandmark/bandmark/ReceiverExportReaderRecognisesPinLaw", "put", "([BIB)V"⟩ : MethodName)) hown (mvT hZ (hw _ (List.mem_of_getElem? (i := 5) rfl))) (mvT hZ (hw _ (List.mem_of_getElem? (i := 6) rfl))) (mvT hZ (hw _ (List.mem_of_getElem? (i := 2) rfl))) (mvT hZ (hw _ (List.mem_of_getElem? (i := 7) rfl))) (by decide) (backOf (W := 0) (r2 l Z a0 hw [] b12 5 (own_pk p2 (5 : Int32) (84 : Int32) q3) N (own_F p2 q3 5) T17.heap n0 Z18 hN8 (by decide) B18 g_b12) hZ (hw _ (List.mem_of_getElem? (i := 7) rfl)) (hw _ (List.mem_of_getElem? (i := 2) rfl)) (by decide) (by decide)) (g := (mkF m 138 #[.val (.int p1), .val (.int p2), .val (.long q3), .second, .val (.int (Int32.ofNat N)), .val (.int (own_pk p2 (0 : Int32) (84 : Int32) q3)), .val (.int (own_pk p2 (1 : Int32) (121 : Int32) q3)), .val (.int (own_pk p2 (2 : Int32) (112 : Int32) q3)), .val (.int (own_pk p2 (3 : Int32) (101 : Int32) q3)), .val (.int (own_pk p2 (4 : Int32) (59 : Int32) q3)), .val (.int (own_pk p2 (5 : Int32) (84 : Int32) q3)), .val (.int (own_pk p2 (6 : Int32) (59 : Int32) q3)), .val (.int (own_pk p2 (7 : Int32) (0 : Int32) q3)), .val (.ref b12), .unset] [(.int (own_pk p2 (5 : Int32) (84 : Int32) q3)), (.int (5 : Int32)), (.ref b12)])) rfl (by rw [hml]; rfl) (argsL := [(.ref b12), (.int (5 : Int32)), (.int (own_pk p2 (5 : Int32) (84 : Int32) q3))]) (rest := []) (lenOf pd_0_1 rfl) rfl (by show 2 * 0 + _ ≤ _; exact Nat.le_of_eq rfl) (hb hby at_138) (fun _ _ => ⟨rfl, rfl, (by decide : 1 + 0 ≤ _), (by decide : 7 + 0 ≤ _)⟩)
  dsimp only [Pt.U, Pt.locs, Pt.cells, Pt.slots] at X18 l18 y18 z18 st18 hQ18
  subst l18 y18 z18
  obtain ⟨rfl, N18q, K18, B19⟩ := hQ18
  have N18 := Fr.app N17 N18q
  have O19 : Old Z n0 T18.heap := O18.keep K18 (allS g_b12 all0)
  have Z19 : n0 ≤ T18.heap.size := Nat.le_trans Z18 K18.1
  obtain ⟨_, _, ⟨T19, L19, k19, n19⟩, -, X19, ⟨Lc19, hQ19, l19, y19, z19⟩, st19⟩ := Jvm.LawKit.callS X18 hx (y := (⟨"com/example/bandmark/bandmark/ReceiverExportReaderRecognisesPinLaw", "put", "([BIB)V"⟩ : MethodName)) hown (mvT hZ (hw _ (List.mem_of_getElem? (i := 5) rfl))) (mvT hZ (hw _ (List.mem_of_getElem? (i := 6) rfl))) (mvT hZ (hw _ (List.mem_of_getElem? (i := 2) rfl))) (mvT hZ (hw _ (List.mem_of_getElem? (i := 7) rfl))) (by decide) (backOf (W := 0) (r2 l Z a0 hw [] b12 6 (own_pk p2 (6 : Int32) (59 : Int32) q3) N (own_F p2 q3 6) T18.heap n0 Z19 hN8 (by decide) B19 g_b12) hZ (hw _ (List.mem_of_getElem? (i := 7) rfl)) (hw _ (List.mem_of_getElem? (i := 2) rfl)) (by decide) (by decide)) (g := (mkF m 147 #[.val (.int p1), .val (.int p2), .val (.long q3), .second, .val (.int (Int32.ofNat N)), .val (.int (own_pk p2 (0 : Int32) (84 : Int32) q3)), .val (.int (own_pk p2 (1 : Int32) (121 : Int32) q3)), .val (.int (own_pk p2 (2 : Int32) (112 : Int32) q3)), .val (.int (own_pk p2 (3 : Int32) (101 : Int32) q3)), .val (.int (own_pk p2 (4 : Int32) (59 : Int32) q3)), .val (.int (own_pk p2 (5 : Int32) (84 : Int32) q3)), .val (.int (own_pk p2 (6 : Int32) (59 : Int32) q3)), .val (.int (own_pk p2 (7 : Int32) (0 : Int32) q3)), .val (.ref b12), .unset] [(.int (own_pk p2 (6 : Int32) (59 : Int32) q3)), (.int (6 : Int32)), (.ref b12)])) rfl (by rw [hml]; rfl) (argsL := [(.ref b12), (.int (6 : Int32)), (.int (own_pk p2 (6 : Int32) (59 : Int32) q3))]) (rest := []) (lenOf pd_0_1 rfl) rfl (by show 2 * 0 + _ ≤ _; exact Nat.le_of_eq rfl) (hb hby at_147) (fun _ _ => ⟨rfl, rfl, (by decide : 1 + 0 ≤ _), (by decide : 7 + 0 ≤ _)⟩)
  dsimp only [Pt.U, Pt.locs, Pt.cells, Pt.slots] at X19 l19 y19 z19 st19 hQ19
  subst l19 y19 z19
  obtain ⟨rfl, N19q, K19, B20⟩ := hQ19
  have N19 := Fr.app N18 N19q
  have O20 : Old Z n0 T19.heap := O19.keep K19 (allS g_b12 all0)
  have Z20 : n0 ≤ T19.heap.size := Nat.le_trans Z19 K19.1
  obtain ⟨_, _, ⟨T20, L20, k20, n20⟩, -, X20, ⟨Lc20, hQ20, l20, y20, z20⟩, st20⟩ := Jvm.LawKit.callS X19 hx (y := (⟨"com/example/bandmark/bandmark/ReceiverExportReaderRecognisesPinLaw", "put", "([BIB)V"⟩ : MethodName)) hown (mvT hZ (hw _ (List.mem_of_getElem? (i := 5) rfl))) (mvT hZ (hw _ (List.mem_of_getElem? (i := 6) rfl))) (mvT hZ (hw _ (List.mem_of_getElem? (i := 2) rfl))) (mvT hZ (hw _ (List.mem_of_getElem? (i := 7) rfl))) (by decide) (backOf (W := 0) (r2 l Z a0 hw [] b12 7 (own_pk p2 (7 : Int32) (0 : Int32) q3) N (own_F p2 q3 7) T19.heap n0 Z20 hN8 (by decide) B20 g_b12) hZ (hw _ (List.mem_of_getElem? (i := 7) rfl)) (hw _ (List.mem_of_getElem? (i := 2) rfl)) (by decide) (by decide)) (g := (mkF m 156 #[.val (.int p1), .val (.int p2), .val (.long q3), .second, .val (.int (Int32.ofNat N)), .val (.int (own_pk p2 (0 : Int32) (84 : Int32) q3)), .val (.int (own_pk p2 (1 : Int32) (121 : Int32) q3)), .val (.int (own_pk p2 (2 : Int32) (112 : Int32) q3)), .val (.int (own_pk p2 (3 : Int32) (101 : Int32) q3)), .val (.int (own_pk p2 (4 : Int32) (59 : Int32) q3)), .val (.int (own_pk p2 (5 : Int32) (84 : Int32) q3)), .val (.int (own_pk p2 (6 : Int32) (59 : Int32) q3)), .val (.int (own_pk p2 (7 : Int32) (0 : Int32) q3)), .val (.ref b12), .unset] [(.int (own_pk p2 (7 : Int32) (0 : Int32) q3)), (.int (7 : Int32)), (.ref b12)])) rfl (by rw [hml]; rfl) (argsL := [(.ref b12), (.int (7 : Int32)), (.int (own_pk p2 (7 : Int32) (0 : Int32) q3))]) (rest := []) (lenOf pd_0_1 rfl) rfl (by show 2 * 0 + _ ≤ _; exact Nat.le_of_eq rfl) (hb hby at_156) (fun _ _ => ⟨rfl, rfl, (by decide : 1 + 0 ≤ _), (by decide : 7 + 0 ≤ _)⟩)
  dsimp only [Pt.U, Pt.locs, Pt.cells, Pt.slots] at X20 l20 y20 z20 st20 hQ20
  subst l20 y20 z20
  obtain ⟨rfl, N20q, K20, B21⟩ := hQ20
  have N20 := Fr.app N19 N20q
  have O21 : Old Z n0 T20.heap := O20.keep K20 (allS g_b12 all0)
  have Z21 : n0 ≤ T20.heap.size := Nat.le_trans Z20 K20.1
  obtain ⟨TG, XG, eS, stS⟩ := own_seg (.val (.int p1)) (.val (.int p2)) (.val (.long q3)) .second (Int32.ofNat N) (own_pk p2 (0 : Int32) (84 : Int32) q3) (own_pk p2 (1 : Int32) (121 : Int32) q3) (own_pk p2 (2 : Int32) (112 : Int32) q3) (own_pk p2 (3 : Int32) (101 : Int32) q3) (own_pk p2 (4 : Int32) (59 : Int32) q3) (.val (.int (own_pk p2 (5 : Int32) (84 : Int32) q3))) (.val (.int (own_pk p2 (6 : Int32) (59 : Int32) q3))) (.val (.int (own_pk p2 (7 : Int32) (0 : Int32) q3))) (.val (.ref b12)) .unset X20 hx hZ hw hby hml hown rfl One.u
  obtain ⟨_, _, ⟨T21, L21, k21, n21⟩, -, X21, ⟨Lc21, hQ21, l21, y21, z21⟩, st21⟩ := Jvm.LawKit.callS XG hx (y := (⟨"com/example/bandmark/bandmark/ReceiverExportReader", "recognises", "([B)Z"⟩ : MethodName)) hown (mvT hZ (hw _ (List.mem_of_getElem? (i := 8) rfl))) (mvT hZ (hw _ (List.mem_of_getElem? (i := 9) rfl))) (mvT hZ (hw _ (List.mem_of_getElem? (i := 10) rfl))) (mvT hZ (hw _ (List.mem_of_getElem? (i := 11) rfl))) (by decide) (backOf (W := 0) (r3 l Z a0 hw [] b12 N (own_F p2 q3 8) g w2 cw T20.heap n0 Z21 hN8 (S_S.ext O21.2) (Ar_w.ext O21.2) hSw hatw B21) hZ (hw _ (List.mem_of_getElem? (i := 11) rfl)) (hw _ (List.mem_of_getElem? (i := 10) rfl)) (by decide) (by decide)) (g := (mkF m 209 #[.val (.int p1), .val (.int p2), .val (.long q3), .second, .val (.int (Int32.ofNat N)), .val (.int (own_pk p2 (0 : Int32) (84 : Int32) q3)), .val (.int (own_pk p2 (1 : Int32) (121 : Int32) q3)), .val (.int (own_pk p2 (2 : Int32) (112 : Int32) q3)), .val (.int (own_pk p2 (3 : Int32) (101 : Int32) q3)), .val (.int (own_pk p2 (4 : Int32) (59 : Int32) q3)), .val (.int (own_pk p2 (5 : Int32) (84 : Int32) q3)), .val (.int (own_pk p2 (6 : Int32) (59 : Int32) q3)), .val (.int (own_pk p2 (7 : Int32) (0 : Int32) q3)), .val (.ref b12), .val (.int (own_ex (Int32.ofNat N) (own_pk p2 (0 : Int32) (84 : Int32) q3) (own_pk p2 (1 : Int32) (121 : Int32) q3) (own_pk p2 (2 : Int32) (112 : Int32) q3) (own_pk p2 (3 : Int32) (101 : Int32) q3) (own_pk p2 (4 : Int32) (59 : Int32) q3)))] [(.ref b12)])) rfl (by rw [hml]; rfl) (argsL := [(.ref b12)]) (rest := []) (lenOf pd_0_2 rfl) rfl (by show 2 * 0 + _ ≤ _; exact Nat.le_of_eq rfl) (hb hby at_209) (fun _ _ => ⟨rfl, eS, (by decide : 1 + 0 ≤ _), (by decide : 7 + 0 ≤ _)⟩)
  dsimp only [Pt.U, Pt.locs, Pt.cells, Pt.slots] at X21 l21 y21 z21 st21 hQ21
  subst l21 y21 z21
  obtain ⟨rfl, N21q, e21⟩ := hQ21
  have N21 := Fr.app N20 N21q
  obtain ⟨fs, hr, hrun, hended, hW, hsame⟩ := X21.leave (v := some (.int (1 : Int32))) (fun h => by rw [Bd.returns] at h; cases h)
  refine ⟨_, _, pre0 _ ?_, hrun, hended, _, _, rfl, ?_, ⟨_, rfl⟩, hW, hsame.mono (by decide) (by decide)⟩
  · show Steps p.tables e below (s₁.setTop (mkF m 0 #[.val (.int p1), .val (.int p2), .val (.long q3), .second, .unset, .unset, .unset, .unset, .unset, .unset, .unset, .unset, .unset, .unset, .unset] [])) _
    refine XS.iloadN X0.here hx rfl (hb hby at_0) rfl ?_
    show Steps p.tables e below (s₁.setTop (mkF m 1 #[.val (.int p1), .val (.int p2), .val (.long q3), .second, .unset, .unset, .unset, .unset, .unset, .unset, .unset, .unset, .unset, .unset, .unset] [(.int p1)])) _
    refine XS.bipush X0.here hx rfl (hb hby at_1) ?_
    show Steps p.tables e below (s₁.setTop (mkF m 3 #[.val (.int p1), .val (.int p2), .val (.long q3), .second, .unset, .unset, .unset, .unset, .unset, .unset, .unset, .unset, .unset, .unset, .unset] [(.int (7 : Int32)), (.int p1)])) _
    refine XS.iand X0.here hx rfl (hb hby at_3) rfl ?_
    show Steps p.tables e below (s₁.setTop (mkF m 4 #[.val (.int p1), .val (.int p2), .val (.long q3), .second, .unset, .unset, .unset, .unset, .unset, .unset, .unset, .unset, .unset, .unset, .unset] [(.int (p1 &&& (7 : Int32)))])) _
    rw [hN]
    show Steps p.tables e below (s₁.setTop (mkF m 4 #[.val (.int p1), .val (.int p2), .val (.long q3), .second, .unset, .unset, .unset, .unset, .unset, .unset, .unset, .unset, .unset, .unset, .unset] [(.int (Int32.ofNat N))])) _
    refine XS.istore X0.here hx rfl (hb hby at_4) rfl (l' := #[.val (.int p1), .val (.int p2), .val (.long q3), .second, .val (.int (Int32.ofNat N)), .unset, .unset, .unset, .unset, .unset, .unset, .unset, .unset, .unset, .unset]) rfl ?_
    show Steps p.tables e below (s₁.setTop (mkF m 6 #[.val (.int p1), .val (.int p2), .val (.long q3), .second, .val (.int (Int32.ofNat N)), .unset, .unset, .unset, .unset, .unset, .unset, .unset, .unset, .unset, .unset] [])) _
    refine XS.iloadN X0.here hx rfl (hb hby at_6) rfl ?_
    show Steps p.tables e below (s₁.setTop (mkF m 7 #[.val (.int p1), .val (.int p2), .val (.long q3), .second, .val (.int (Int32.ofNat N)), .unset, .unset, .unset, .unset, .unset, .unset, .unset, .unset, .unset, .unset] [(.int p2)])) _
    refine XS.iconst X0.here hx rfl (hb hby at_7) ?_
    show Steps p.tables e below (s₁.setTop (mkF m 8 #[.val (.int p1), .val (.int p2), .val (.long q3), .second, .val (.int (Int32.ofNat N)), .unset, .unset, .unset, .unset, .unset, .unset, .unset, .unset, .unset, .unset] [(.int (0 : Int32)), (.int p2)])) _
    refine XS.bipush X0.here hx rfl (hb hby at_8) ?_
    show Steps p.tables e below (s₁.setTop (mkF m 10 #[.val (.int p1), .val (.int p2), .val (.long q3), .second, .val (.int (Int32.ofNat N)), .unset, .unset, .unset, .unset, .unset, .unset, .unset, .unset, .unset, .unset] [(.int (84 : Int32)), (.int (0 : Int32)), (.int p2)])) _
    refine XS.lloadN X0.here hx rfl (hb hby at_10) rfl ?_
    show Steps p.tables e below (s₁.setTop (mkF m 11 #[.val (.int p1), .val (.int p2), .val (.long q3), .second, .val (.int (Int32.ofNat N)), .unset, .unset, .unset, .unset, .unset, .unset, .unset, .unset, .unset, .unset] [(.long q3), (.int (84 : Int32)), (.int (0 : Int32)), (.int p2)])) _
    refine st4 _ ?_
    show Steps p.tables e below (T4.setTop (mkF m 14 #[.val (.int p1), .val (.int p2), .val (.long q3), .second, .val (.int (Int32.ofNat N)), .unset, .unset, .unset, .unset, .unset, .unset, .unset, .unset, .unset, .unset] [(.int (own_pk p2 (0 : Int32) (84 : Int32) q3))])) _
    refine XS.istore X4.here hx rfl (hb hby at_14) rfl (l' := #[.val (.int p1), .val (.int p2), .val (.long q3), .second, .val (.int (Int32.ofNat N)), .val (.int (own_pk p2 (0 : Int32) (84 : Int32) q3)), .unset, .unset, .unset, .unset, .unset, .unset, .unset, .unset, .unset]) rfl ?_
    show Steps p.tables e below (T4.setTop (mkF m 16 #[.val (.int p1), .val (.int p2), .val (.long q3), .second, .val (.int (Int32.ofNat N)), .val (.int (own_pk p2 (0 : Int32) (84 : Int32) q3)), .unset, .unset, .unset, .unset, .unset, .unset, .unset, .unset, .unset] [])) _
    refine XS.iloadN X4.here hx rfl (hb hby at_16) rfl ?_
    show Steps p.tables e below (T4.setTop (mkF m 17 #[.val (.int p1), .val (.int p2), .val (.long q3), .second, .val (.int (Int32.ofNat N)), .val (.int (own_pk p2 (0 : Int32) (84 : Int32) q3)), .unset, .unset, .unset, .unset, .unset, .unset, .unset, .unset, .unset] [(.int p2)])) _
    refine XS.iconst X4.here hx rfl (hb hby at_17) ?_
    show Steps p.tables e below (T4.setTop (mkF m 18 #[.val (.int p1), .val (.int p2), .val (.long q3), .second, .val (.int (Int32.ofNat N)), .val (.int (own_pk p2 (0 : Int32) (84 : Int32) q3)), .unset, .unset, .unset, .unset, .unset, .unset, .unset, .unset, .unset] [(.int (1 : Int32)), (.int p2)])) _
    refine XS.bipush X4.here hx rfl (hb hby at_18) ?_
    show Steps p.tables e below (T4.setTop (mkF m 20 #[.val (.int p1), .val (.int p2), .val (.long q3), .second, .val (.int (Int32.ofNat N)), .val (.int (own_pk p2 (0 : Int32) (84 : Int32) q3)), .unset, .unset, .unset, .unset, .unset, .unset, .unset, .unset, .unset] [(.int (121 : Int32)), (.int (1 : Int32)), (.int p2)])) _
    refine XS.lloadN X4.here hx rfl (hb hby at_20) rfl ?_
    show Steps p.tables e below (T4.setTop (mkF m 21 #[.val (.int p1), .val (.int p2), .val (.long q3), .second, .val (.int (Int32.ofNat N)), .val (.int (own_pk p2 (0 : Int32) (84 : Int32) q3)), .unset, .unset, .unset, .unset, .unset, .unset, .unset, .unset, .unset] [(.long q3), (.int (121 : Int32)), (.int (1 : Int32)), (.int p2)])) _
    refine st5 _ ?_
    show Steps p.tables e below (T5.setTop (mkF m 24 #[.val (.int p1), .val (.int p2), .val (.long q3), .second, .val (.int (Int32.ofNat N)), .val (.int (own_pk p2 (0 : Int32) (84 : Int32) q3)), .unset, .unset, .unset, .unset, .unset, .unset, .unset, .unset, .unset] [(.int (own_pk p2 (1 : Int32) (121 : Int32) q3))])) _
    refine XS.istore X5.here hx rfl (hb hby at_24) rfl (l' := #[.val (.int p1), .val (.int p2), .val (.long q3), .second, .val (.int (Int32.ofNat N)), .val (.int (own_pk p2 (0 : Int32) (84 : Int32) q3)), .val (.int (own_pk p2 (1 : Int32) (121 : Int32) q3)), .unset, .unset, .unset, .unset, .unset, .unset, .unset, .unset]) rfl ?_
    show Steps p.tables e below (T5.setTop (mkF m 26 #[.val (.int p1), .val (.int p2), .val (.long q3), .second, .val (.int (Int32.ofNat N)), .val (.int (own_pk p2 (0 : Int32) (84 : Int32) q3)), .val (.int (own_pk p2 (1 : Int32) (121 : Int32) q3)), .unset, .unset, .unset, .unset, .unset, .unset, .unset, .unset] [])) _
    refine XS.iloadN X5.here hx rfl (hb hby at_26) rfl ?_
    show Steps p.tables e below (T5.setTop (mkF m 27 #[.val (.int p1), .val (.int p2), .val (.long q3), .second, .val (.int (Int32.ofNat N)), .val (.int (own_pk p2 (0 : Int32) (84 : Int32) q3)), .val (.int (own_pk p2 (1 : Int32) (121 : Int32) q3)), .unset, .unset, .unset, .unset, .unset, .unset, .unset, .unset] [(.int p2)])) _
    refine XS.iconst X5.here hx rfl (hb hby at_27) ?_
    show Steps p.tables e below (T5.setTop (mkF m 28 #[.val (.int p1), .val (.int p2), .val (.long q3), .second, .val (.int (Int32.ofNat N)), .val (.int (own_pk p2 (0 : Int32) (84 : Int32) q3)), .val (.int (own_pk p2 (1 : Int32) (121 : Int32) q3)), .unset, .unset, .unset, .unset, .unset, .unset, .unset, .unset] [(.int (2 : Int32)), (.int p2)])) _
    refine XS.bipush X5.here hx rfl (hb hby at_28) ?_
    show Steps p.tables e below (T5.setTop (mkF m 30 #[.val (.int p1), .val (.int p2), .val (.long q3), .second, .val (.int (Int32.ofNat N)), .val (.int (own_pk p2 (0 : Int32) (84 : Int32) q3)), .val (.int (own_pk p2 (1 : Int32) (121 : Int32) q3)), .unset, .unset, .unset, .unset, .unset, .unset, .unset, .unset] [(.int (112 : Int32)), (.int (2 : Int32)), (.int p2)])) _
    refine XS.lloadN X5.here hx rfl (hb hby at_30) rfl ?_
    show Steps p.tables e below (T5.setTop (mkF m 31 #[.val (.int p1), .val (.int p2), .val (.long q3), .second, .val (.int (Int32.ofNat N)), .val (.int (own_pk p2 (0 : Int32) (84 : Int32) q3)), .val (.int (own_pk p2 (1 : Int32) (121 : Int32) q3)), .unset, .unset, .unset, .unset, .unset, .unset, .unset, .unset] [(.long q3), (.int (112 : Int32)), (.int (2 : Int32)), (.int p2)])) _
    refine st6 _ ?_
    show Steps p.tables e below (T6.setTop (mkF m 34 #[.val (.int p1), .val (.int p2), .val (.long q3), .second, .val (.int (Int32.ofNat N)), .val (.int (own_pk p2 (0 : Int32) (84 : Int32) q3)), .val (.int (own_pk p2 (1 : Int32) (121 : Int32) q3)), .unset, .unset, .unset, .unset, .unset, .unset, .unset, .unset] [(.int (own_pk p2 (2 : Int32) (112 : Int32) q3))])) _
    refine XS.istore X6.here hx rfl (hb hby at_34) rfl (l' := #[.val (.int p1), .val (.int p2), .val (.long q3), .second, .val (.int (Int32.ofNat N)), .val (.int (own_pk p2 (0 : Int32) (84 : Int32) q3)), .val (.int (own_pk p2 (1 : Int32) (121 : Int32) q3)), .val (.int (own_pk p2 (2 : Int32) (112 : Int32) q3)), .unset, .unset, .unset, .unset, .unset, .unset, .unset]) rfl ?_
    show Steps p.tables e below (T6.setTop (mkF m 36 #[.val (.int p1), .val (.int p2), .val (.long q3), .second, .val (.int (Int32.ofNat N)), .val (.int (own_pk p2 (0 : Int32) (84 : Int32) q3)), .val (.int (own_pk p2 (1 : Int32) (121 : Int32) q3)), .val (.int (own_pk p2 (2 : Int32) (112 : Int32) q3)), .unset, .unset, .unset, .unset, .unset, .unset, .unset] [])) _
    refine XS.iloadN X6.here hx rfl (hb hby at_36) rfl ?_
    show Steps p.tables e below (T6.setTop (mkF m 37 #[.val (.int p1), .val (.int p2), .val (.long q3), .second, .val (.int (Int32.ofNat N)), .val (.int (own_pk p2 (0 : Int32) (84 : Int32) q3)), .val (.int (own_pk p2 (1 : Int32) (121 : Int32) q3)), .val (.int (own_pk p2 (2 : Int32) (112 : Int32) q3)), .unset, .unset, .unset, .unset, .unset, .unset, .unset] [(.int p2)])) _
    refine XS.iconst X6.here hx rfl (hb hby at_37) ?_
    show Steps p.tables e below (T6.setTop (mkF m 38 #[.val (.int p1), .val (.int p2), .val (.long q3), .second, .val (.int (Int32.ofNat N)), .val (.int (own_pk p2 (0 : Int32) (84 : Int32) q3)), .val (.int (own_pk p2 (1 : Int32) (121 : Int32) q3)), .val (.int (own_pk p2 (2 : Int32) (112 : Int32) q3)), .unset, .unset, .unset, .unset, .unset, .unset, .unset] [(.int (3 : Int32)), (.int p2)])) _
    refine XS.bipush X6.here hx rfl (hb hby at_38) ?_
    show Steps p.tables e below (T6.setTop (mkF m 40 #[.val (.int p1), .val (.int p2), .val (.long q3), .second, .val (.int (Int32.ofNat N)), .val (.int (own_pk p2 (0 : Int32) (84 : Int32) q3)), .val (.int (own_pk p2 (1 : Int32) (121 : Int32) q3)), .val (.int (own_pk p2 (2 : Int32) (112 : Int32) q3)), .unset, .unset, .unset, .unset, .unset, .unset, .unset] [(.int (101 : Int32)), (.int (3 : Int32)), (.int p2)])) _
    refine XS.lloadN X6.here hx rfl (hb hby at_40) rfl ?_
    show Steps p.tables e below (T6.setTop (mkF m 41 #[.val (.int p1), .val (.int p2), .val (.long q3), .second, .val (.int (Int32.ofNat N)), .val (.int (own_pk p2 (0 : Int32) (84 : Int32) q3)), .val (.int (own_pk p2 (1 : Int32) (121 : Int32) q3)), .val (.int (own_pk p2 (2 : Int32) (112 : Int32) q3)), .unset, .unset, .unset, .unset, .unset, .unset, .unset] [(.long q3), (.int (101 : Int32)), (.int (3 : Int32)), (.int p2)])) _
    refine st7 _ ?_
    show Steps p.tables e below (T7.setTop (mkF m 44 #[.val (.int p1), .val (.int p2), .val (.long q3), .second, .val (.int (Int32.ofNat N)), .val (.int (own_pk p2 (0 : Int32) (84 : Int32) q3)), .val (.int (own_pk p2 (1 : Int32) (121 : Int32) q3)), .val (.int (own_pk p2 (2 : Int32) (112 : Int32) q3)), .unset, .unset, .unset, .unset, .unset, .unset, .unset] [(.int (own_pk p2 (3 : Int32) (101 : Int32) q3))])) _
    refine XS.istore X7.here hx rfl (hb hby at_44) rfl (l' := #[.val (.int p1), .val (.int p2), .val (.long q3), .second, .val (.int (Int32.ofNat N)), .val (.int (own_pk p2 (0 : Int32) (84 : Int32) q3)), .val (.int (own_pk p2 (1 : Int32) (121 : Int32) q3)), .val (.int (own_pk p2 (2 : Int32) (112 : Int32) q3)), .val (.int (own_pk p2 (3 : Int32) (101 : Int32) q3)), .unset, .unset, .unset, .unset, .unset, .unset]) rfl ?_
    show Steps p.tables e below (T7.setTop (mkF m 46 #[.val (.int p1), .val (.int p2), .val (.long q3), .second, .val (.int (Int32.ofNat N)), .val (.int (own_pk p2 (0 : Int32) (84 : Int32) q3)), .val (.int (own_pk p2 (1 : Int32) (121 : Int32) q3)), .val (.int (own_pk p2 (2 : Int32) (112 : Int32) q3)), .val (.int (own_pk p2 (3 : Int32) (101 : Int32) q3)), .unset, .unset, .unset, .unset, .unset, .unset] [])) _
    refine XS.iloadN X7.here hx rfl (hb hby at_46) rfl ?_
    show Steps p.tables e below (T7.setTop (mkF m 47 #[.val (.int p1), .val (.int p2), .val (.long q3), .second, .val (.int (Int32.ofNat N)), .val (.int (own_pk p2 (0 : Int32) (84 : Int32) q3)), .val (.int (own_pk p2 (1 : Int32) (121 : Int32) q3)), .val (.int (own_pk p2 (2 : Int32) (112 : Int32) q3)), .val (.int (own_pk p2 (3 : Int32) (101 : Int32) q3)), .unset, .unset, .unset, .unset, .unset, .unset] [(.int p2)])) _
    refine XS.iconst X7.here hx rfl (hb hby at_47) ?_
    show Steps p.tables e below (T7.setTop (mkF m 48 #[.val (.int p1), .val (.int p2), .val (.long q3), .second, .val (.int (Int32.ofNat N)), .val (.int (own_pk p2 (0 : Int32) (84 : Int32) q3)), .val (.int (own_pk p2 (1 : Int32) (121 : Int32) q3)), .val (.int (own_pk p2 (2 : Int32) (112 : Int32) q3)), .val (.int (own_pk p2 (3 : Int32) (101 : Int32) q3)), .unset, .unset, .unset, .unset, .unset, .unset] [(.int (4 : Int32)), (.int p2)])) _
    refine XS.bipush X7.here hx rfl (hb hby at_48) ?_
    show Steps p.tables e below (T7.setTop (mkF m 50 #[.val (.int p1), .val (.int p2), .val (.long q3), .second, .val (.int (Int32.ofNat N)), .val (.int (own_pk p2 (0 : Int32) (84 : Int32) q3)), .val (.int (own_pk p2 (1 : Int32) (121 : Int32) q3)), .val (.int (own_pk p2 (2 : Int32) (112 : Int32) q3)), .val (.int (own_pk p2 (3 : Int32) (101 : Int32) q3)), .unset, .unset, .unset, .unset, .unset, .unset] [(.int (59 : Int32)), (.int (4 : Int32)), (.int p2)])) _
    refine XS.lloadN X7.here hx rfl (hb hby at_50) rfl ?_
    show Steps p.tables e below (T7.setTop (mkF m 51 #[.val (.int p1), .val (.int p2), .val (.long q3), .second, .val (.int (Int32.ofNat N)), .val (.int (own_pk p2 (0 : Int32) (84 : Int32) q3)), .val (.int (own_pk p2 (1 : Int32) (121 : Int32) q3)), .val (.int (own_pk p2 (2 : Int32) (112 : Int32) q3)), .val (.int (own_pk p2 (3 : Int32) (101 : Int32) q3)), .unset, .unset, .unset, .unset, .unset, .unset] [(.long q3), (.int (59 : Int32)), (.int (4 : Int32)), (.int p2)])) _
    refine st8 _ ?_
    show Steps p.tables e below (T8.setTop (mkF m 54 #[.val (.int p1), .val (.int p2), .val (.long q3), .second, .val (.int (Int32.ofNat N)), .val (.int (own_pk p2 (0 : Int32) (84 : Int32) q3)), .val (.int (own_pk p2 (1 : Int32) (121 : Int32) q3)), .val (.int (own_pk p2 (2 : Int32) (112 : Int32) q3)), .val (.int (own_pk p2 (3 : Int32) (101 : Int32) q3)), .unset, .unset, .unset, .unset, .unset, .unset] [(.int (own_pk p2 (4 : Int32) (59 : Int32) q3))])) _
    refine XS.istore X8.here hx rfl (hb hby at_54) rfl (l' := #[.val (.int p1), .val (.int p2), .val (.long q3), .second, .val (.int (Int32.ofNat N)), .val (.int (own_pk p2 (0 : Int32) (84 : Int32) q3)), .val (.int (own_pk p2 (1 : Int32) (121 : Int32) q3)), .val (.int (own_pk p2 (2 : Int32) (112 : Int32) q3)), .val (.int (own_pk p2 (3 : Int32) (101 : Int32) q3)), .val (.int (own_pk p2 (4 : Int32) (59 : Int32) q3)), .unset, .unset, .unset, .unset, .unset]) rfl ?_
    show Steps p.tables e below (T8.setTop (mkF m 56 #[.val (.int p1), .val (.int p2), .val (.long q3), .second, .val (.int (Int32.ofNat N)), .val (.int (own_pk p2 (0 : Int32) (84 : Int32) q3)), .val (.int (own_pk p2 (1 : Int32) (121 : Int32) q3)), .val (.int (own_pk p2 (2 : Int32) (112 : Int32) q3)), .val (.int (own_pk p2 (3 : Int32) (101 : Int32) q3)), .val (.int (own_pk p2 (4 : Int32) (59 : Int32) q3)), .unset, .unset, .unset, .unset, .unset] [])) _
    refine XS.iloadN X8.here hx rfl (hb hby at_56) rfl ?_
    show Steps p.tables e below (T8.setTop (mkF m 57 #[.val (.int p1), .val (.int p2), .val (.long q3), .second, .val (.int (Int32.ofNat N)), .val (.int (own_pk p2 (0 : Int32) (84 : Int32) q3)), .val (.int (own_pk p2 (1 : Int32) (121 : Int32) q3)), .val (.int (own_pk p2 (2 : Int32) (112 : Int32) q3)), .val (.int (own_pk p2 (3 : Int32) (101 : Int32) q3)), .val (.int (own_pk p2 (4 : Int32) (59 : Int32) q3)), .unset, .unset, .unset, .unset, .unset] [(.int p2)])) _
    refine XS.iconst X8.here hx rfl (hb hby at_57) ?_
    show Steps p.tables e below (T8.setTop (mkF m 58 #[.val (.int p1), .val (.int p2), .val (.long q3), .second, .val (.int (Int32.ofNat N)), .val (.int (own_pk p2 (0 : Int32) (84 : Int32) q3)), .val (.int (own_pk p2 (1 : Int32) (121 : Int32) q3)), .val (.int (own_pk p2 (2 : Int32) (112 : Int32) q3)), .val (.int (own_pk p2 (3 : Int32) (101 : Int32) q3)), .val (.int (own_pk p2 (4 : Int32) (59 : Int32) q3)), .unset, .unset, .unset, .unset, .unset] [(.int (5 : Int32)), (.int p2)])) _
    refine XS.bipush X8.here hx rfl (hb hby at_58) ?_
    show Steps p.tables e below (T8.setTop (mkF m 60 #[.val (.int p1), .val (.int p2), .val (.long q3), .second, .val (.int (Int32.ofNat N)), .val (.int (own_pk p2 (0 : Int32) (84 : Int32) q3)), .val (.int (own_pk p2 (1 : Int32) (121 : Int32) q3)), .val (.int (own_pk p2 (2 : Int32) (112 : Int32) q3)), .val (.int (own_pk p2 (3 : Int32) (101 : Int32) q3)), .val (.int (own_pk p2 (4 : Int32) (59 : Int32) q3)), .unset, .unset, .unset, .unset, .unset] [(.int (84 : Int32)), (.int (5 : Int32)), (.int p2)])) _
    refine XS.lloadN X8.here hx rfl (hb hby at_60) rfl ?_
    show Steps p.tables e below (T8.setTop (mkF m 61 #[.val (.int p1), .val (.int p2), .val (.long q3), .second, .val (.int (Int32.ofNat N)), .val (.int (own_pk p2 (0 : Int32) (84 : Int32) q3)), .val (.int (own_pk p2 (1 : Int32) (121 : Int32) q3)), .val (.int (own_pk p2 (2 : Int32) (112 : Int32) q3)), .val (.int (own_pk p2 (3 : Int32) (101 : Int32) q3)), .val (.int (own_pk p2 (4 : Int32) (59 : Int32) q3)), .unset, .unset, .unset, .unset, .unset] [(.long q3), (.int (84 : Int32)), (.int (5 : Int32)), (.int p2)])) _
    refine st9 _ ?_
    show Steps p.tables e below (T9.setTop (mkF m 64 #[.val (.int p1), .val (.int p2), .val (.long q3), .second, .val (.int (Int32.ofNat N)), .val (.int (own_pk p2 (0 : Int32) (84 : Int32) q3)), .val (.int (own_pk p2 (1 : Int32) (121 : Int32) q3)), .val (.int (own_pk p2 (2 : Int32) (112 : Int32) q3)), .val (.int (own_pk p2 (3 : Int32) (101 : Int32) q3)), .val (.int (own_pk p2 (4 : Int32) (59 : Int32) q3)), .unset, .unset, .unset, .unset, .unset] [(.int (own_pk p2 (5 : Int32) (84 : Int32) q3))])) _
    refine XS.istore X9.here hx rfl (hb hby at_64) rfl (l' := #[.val (.int p1), .val (.int p2), .val (.long q3), .second, .val (.int (Int32.ofNat N)), .val (.int (own_pk p2 (0 : Int32) (84 : Int32) q3)), .val (.int (own_pk p2 (1 : Int32) (121 : Int32) q3)), .val (.int (own_pk p2 (2 : Int32) (112 : Int32) q3)), .val (.int (own_pk p2 (3 : Int32) (101 : Int32) q3)), .val (.int (own_pk p2 (4 : Int32) (59 : Int32) q3)), .val (.int (own_pk p2 (5 : Int32) (84 : Int32) q3)), .unset, .unset, .unset, .unset]) rfl ?_
    show Steps p.tables e below (T9.setTop (mkF m 66 #[.val (.int p1), .val (.int p2), .val (.long q3), .second, .val (.int (Int32.ofNat N)), .val (.int (own_pk p2 (0 : Int32) (84 : Int32) q3)), .val (.int (own_pk p2 (1 : Int32) (121 : Int32) q3)), .val (.int (own_pk p2 (2 : Int32) (112 : Int32) q3)), .val (.int (own_pk p2 (3 : Int32) (101 : Int32) q3)), .val (.int (own_pk p2 (4 : Int32) (59 : Int32) q3)), .val (.int (own_pk p2 (5 : Int32) (84 : Int32) q3)), .unset, .unset, .unset, .unset] [])) _
    refine XS.iloadN X9.here hx rfl (hb hby at_66) rfl ?_
    show Steps p.tables e below (T9.setTop (mkF m 67 #[.val (.int p1), .val (.int p2), .val (.long q3), .second, .val (.int (Int32.ofNat N)), .val (.int (own_pk p2 (0 : Int32) (84 : Int32) q3)), .val (.int (own_pk p2 (1 : Int32) (121 : Int32) q3)), .val (.int (own_pk p2 (2 : Int32) (112 : Int32) q3)), .val (.int (own_pk p2 (3 : Int32) (101 : Int32) q3)), .val (.int (own_pk p2 (4 : Int32) (59 : Int32) q3)), .val (.int (own_pk p2 (5 : Int32) (84 : Int32) q3)), .unset, .unset, .unset, .unset] [(.int p2)])) _
    refine XS.bipush X9.here hx rfl (hb hby at_67) ?_
    show Steps p.tables e below (T9.setTop (mkF m 69 #[.val (.int p1), .val (.int p2), .val (.long q3), .second, .val (.int (Int32.ofNat N)), .val (.int (own_pk p2 (0 : Int32) (84 : Int32) q3)), .val (.int (own_pk p2 (1 : Int32) (121 : Int32) q3)), .val (.int (own_pk p2 (2 : Int32) (112 : Int32) q3)), .val (.int (own_pk p2 (3 : Int32) (101 : Int32) q3)), .val (.int (own_pk p2 (4 : Int32) (59 : Int32) q3)), .val (.int (own_pk p2 (5 : Int32) (84 : Int32) q3)), .unset, .unset, .unset, .unset] [(.int (6 : Int32)), (.int p2)])) _
    refine XS.bipush X9.here hx rfl (hb hby at_69) ?_
    show Steps p.tables e below (T9.setTop (mkF m 71 #[.val (.int p1), .val (.int p2), .val (.long q3), .second, .val (.int (Int32.ofNat N)), .val (.int (own_pk p2 (0 : Int32) (84 : Int32) q3)), .val (.int (own_pk p2 (1 : Int32) (121 : Int32) q3)), .val (.int (own_pk p2 (2 : Int32) (112 : Int32) q3)), .val (.int (own_pk p2 (3 : Int32) (101 : Int32) q3)), .val (.int (own_pk p2 (4 : Int32) (59 : Int32) q3)), .val (.int (own_pk p2 (5 : Int32) (84 : Int32) q3)), .unset, .unset, .unset, .unset] [(.int (59 : Int32)), (.int (6 : Int32)), (.int p2)])) _
    refine XS.lloadN X9.here hx rfl (hb hby at_71) rfl ?_
    show Steps p.tables e below (T9.setTop (mkF m 72 #[.val (.int p1), .val (.int p2), .val (.long q3), .second, .val (.int (Int32.ofNat N)), .val (.int (own_pk p2 (0 : Int32) (84 : Int32) q3)), .val (.int (own_pk p2 (1 : Int32) (121 : Int32) q3)), .val (.int (own_pk p2 (2 : Int32) (112 : Int32) q3)), .val (.int (own_pk p2 (3 : Int32) (101 : Int32) q3)), .val (.int (own_pk p2 (4 : Int32) (59 : Int32) q3)), .val (.int (own_pk p2 (5 : Int32) (84 : Int32) q3)), .unset, .unset, .unset, .unset] [(.long q3), (.int (59 : Int32)), (.int (6 : Int32)), (.int p2)])) _
    refine st10 _ ?_
    show Steps p.tables e below (T10.setTop (mkF m 75 #[.val (.int p1), .val (.int p2), .val (.long q3), .second, .val (.int (Int32.ofNat N)), .val (.int (own_pk p2 (0 : Int32) (84 : Int32) q3)), .val (.int (own_pk p2 (1 : Int32) (121 : Int32) q3)), .val (.int (own_pk p2 (2 : Int32) (112 : Int32) q3)), .val (.int (own_pk p2 (3 : Int32) (101 : Int32) q3)), .val (.int (own_pk p2 (4 : Int32) (59 : Int32) q3)), .val (.int (own_pk p2 (5 : Int32) (84 : Int32) q3)), .unset, .unset, .unset, .unset] [(.int (own_pk p2 (6 : Int32) (59 : Int32) q3))])) _
    refine XS.istore X10.here hx rfl (hb hby at_75) rfl (l' := #[.val (.int p1), .val (.int p2), .val (.long q3), .second, .val (.int (Int32.ofNat N)), .val (.int (own_pk p2 (0 : Int32) (84 : Int32) q3)), .val (.int (own_pk p2 (1 : Int32) (121 : Int32) q3)), .val (.int (own_pk p2 (2 : Int32) (112 : Int32) q3)), .val (.int (own_pk p2 (3 : Int32) (101 : Int32) q3)), .val (.int (own_pk p2 (4 : Int32) (59 : Int32) q3)), .val (.int (own_pk p2 (5 : Int32) (84 : Int32) q3)), .val (.int (own_pk p2 (6 : Int32) (59 : Int32) q3)), .unset, .unset, .unset]) rfl ?_
    show Steps p.tables e below (T10.setTop (mkF m 77 #[.val (.int p1), .val (.int p2), .val (.long q3), .second, .val (.int (Int32.ofNat N)), .val (.int (own_pk p2 (0 : Int32) (84 : Int32) q3)), .val (.int (own_pk p2 (1 : Int32) (121 : Int32) q3)), .val (.int (own_pk p2 (2 : Int32) (112 : Int32) q3)), .val (.int (own_pk p2 (3 : Int32) (101 : Int32) q3)), .val (.int (own_pk p2 (4 : Int32) (59 : Int32) q3)), .val (.int (own_pk p2 (5 : Int32) (84 : Int32) q3)), .val (.int (own_pk p2 (6 : Int32) (59 : Int32) q3)), .unset, .unset, .unset] [])) _
    refine XS.iloadN X10.here hx rfl (hb hby at_77) rfl ?_
    show Steps p.tables e below (T10.setTop (mkF m 78 #[.val (.int p1), .val (.int p2), .val (.long q3), .second, .val (.int (Int32.ofNat N)), .val (.int (own_pk p2 (0 : Int32) (84 : Int32) q3)), .val (.int (own_pk p2 (1 : Int32) (121 : Int32) q3)), .val (.int (own_pk p2 (2 : Int32) (112 : Int32) q3)), .val (.int (own_pk p2 (3 : Int32) (101 : Int32) q3)), .val (.int (own_pk p2 (4 : Int32) (59 : Int32) q3)), .val (.int (own_pk p2 (5 : Int32) (84 : Int32) q3)), .val (.int (own_pk p2 (6 : Int32) (59 : Int32) q3)), .unset, .unset, .unset] [(.int p2)])) _
    refine XS.bipush X10.here hx rfl (hb hby at_78) ?_
    show Steps p.tables e below (T10.setTop (mkF m 80 #[.val (.int p1), .val (.int p2), .val (.long q3), .second, .val (.int (Int32.ofNat N)), .val (.int (own_pk p2 (0 : Int32) (84 : Int32) q3)), .val (.int (own_pk p2 (1 : Int32) (121 : Int32) q3)), .val (.int (own_pk p2 (2 : Int32) (112 : Int32) q3)), .val (.int (own_pk p2 (3 : Int32) (101 : Int32) q3)), .val (.int (own_pk p2 (4 : Int32) (59 : Int32) q3)), .val (.int (own_pk p2 (5 : Int32) (84 : Int32) q3)), .val (.int (own_pk p2 (6 : Int32) (59 : Int32) q3)), .unset, .unset, .unset] [(.int (7 : Int32)), (.int p2)])) _
    refine XS.iconst X10.here hx rfl (hb hby at_80) ?_
    show Steps p.tables e below (T10.setTop (mkF m 81 #[.val (.int p1), .val (.int p2), .val (.long q3), .second, .val (.int (Int32.ofNat N)), .val (.int (own_pk p2 (0 : Int32) (84 : Int32) q3)), .val (.int (own_pk p2 (1 : Int32) (121 : Int32) q3)), .val (.int (own_pk p2 (2 : Int32) (112 : Int32) q3)), .val (.int (own_pk p2 (3 : Int32) (101 : Int32) q3)), .val (.int (own_pk p2 (4 : Int32) (59 : Int32) q3)), .val (.int (own_pk p2 (5 : Int32) (84 : Int32) q3)), .val (.int (own_pk p2 (6 : Int32) (59 : Int32) q3)), .unset, .unset, .unset] [(.int (0 : Int32)), (.int (7 : Int32)), (.int p2)])) _
    refine XS.lloadN X10.here hx rfl (hb hby at_81) rfl ?_
    show Steps p.tables e below (T10.setTop (mkF m 82 #[.val (.int p1), .val (.int p2), .val (.long q3), .second, .val (.int (Int32.ofNat N)), .val (.int (own_pk p2 (0 : Int32) (84 : Int32) q3)), .val (.int (own_pk p2 (1 : Int32) (121 : Int32) q3)), .val (.int (own_pk p2 (2 : Int32) (112 : Int32) q3)), .val (.int (own_pk p2 (3 : Int32) (101 : Int32) q3)), .val (.int (own_pk p2 (4 : Int32) (59 : Int32) q3)), .val (.int (own_pk p2 (5 : Int32) (84 : Int32) q3)), .val (.int (own_pk p2 (6 : Int32) (59 : Int32) q3)), .unset, .unset, .unset] [(.long q3), (.int (0 : Int32)), (.int (7 : Int32)), (.int p2)])) _
    refine st11 _ ?_
    show Steps p.tables e below (T11.setTop (mkF m 85 #[.val (.int p1), .val (.int p2), .val (.long q3), .second, .val (.int (Int32.ofNat N)), .val (.int (own_pk p2 (0 : Int32) (84 : Int32) q3)), .val (.int (own_pk p2 (1 : Int32) (121 : Int32) q3)), .val (.int (own_pk p2 (2 : Int32) (112 : Int32) q3)), .val (.int (own_pk p2 (3 : Int32) (101 : Int32) q3)), .val (.int (own_pk p2 (4 : Int32) (59 : Int32) q3)), .val (.int (own_pk p2 (5 : Int32) (84 : Int32) q3)), .val (.int (own_pk p2 (6 : Int32) (59 : Int32) q3)), .unset, .unset, .unset] [(.int (own_pk p2 (7 : Int32) (0 : Int32) q3))])) _
    refine XS.istore X11.here hx rfl (hb hby at_85) rfl (l' := #[.val (.int p1), .val (.int p2), .val (.long q3), .second, .val (.int (Int32.ofNat N)), .val (.int (own_pk p2 (0 : Int32) (84 : Int32) q3)), .val (.int (own_pk p2 (1 : Int32) (121 : Int32) q3)), .val (.int (own_pk p2 (2 : Int32) (112 : Int32) q3)), .val (.int (own_pk p2 (3 : Int32) (101 : Int32) q3)), .val (.int (own_pk p2 (4 : Int32) (59 : Int32) q3)), .val (.int (own_pk p2 (5 : Int32) (84 : Int32) q3)), .val (.int (own_pk p2 (6 : Int32) (59 : Int32) q3)), .val (.int (own_pk p2 (7 : Int32) (0 : Int32) q3)), .unset, .unset]) rfl ?_
    show Steps p.tables e below (T11.setTop (mkF m 87 #[.val (.int p1), .val (.int p2), .val (.long q3), .second, .val (.int (Int32.ofNat N)), .val (.int (own_pk p2 (0 : Int32) (84 : Int32) q3)), .val (.int (own_pk p2 (1 : Int32) (121 : Int32) q3)), .val (.int (own_pk p2 (2 : Int32) (112 : Int32) q3)), .val (.int (own_pk p2 (3 : Int32) (101 : Int32) q3)), .val (.int (own_pk p2 (4 : Int32) (59 : Int32) q3)), .val (.int (own_pk p2 (5 : Int32) (84 : Int32) q3)), .val (.int (own_pk p2 (6 : Int32) (59 : Int32) q3)), .val (.int (own_pk p2 (7 : Int32) (0 : Int32) q3)), .unset, .unset] [])) _
    refine XS.iload X11.here hx rfl (hb hby at_87) rfl ?_
    show Steps p.tables e below (T11.setTop (mkF m 89 #[.val (.int p1), .val (.int p2), .val (.long q3), .second, .val (.int (Int32.ofNat N)), .val (.int (own_pk p2 (0 : Int32) (84 : Int32) q3)), .val (.int (own_pk p2 (1 : Int32) (121 : Int32) q3)), .val (.int (own_pk p2 (2 : Int32) (112 : Int32) q3)), .val (.int (own_pk p2 (3 : Int32) (101 : Int32) q3)), .val (.int (own_pk p2 (4 : Int32) (59 : Int32) q3)), .val (.int (own_pk p2 (5 : Int32) (84 : Int32) q3)), .val (.int (own_pk p2 (6 : Int32) (59 : Int32) q3)), .val (.int (own_pk p2 (7 : Int32) (0 : Int32) q3)), .unset, .unset] [(.int (Int32.ofNat N))])) _
    refine st12 _ ?_
    show Steps p.tables e below (T12.setTop (mkF m 91 #[.val (.int p1), .val (.int p2), .val (.long q3), .second, .val (.int (Int32.ofNat N)), .val (.int (own_pk p2 (0 : Int32) (84 : Int32) q3)), .val (.int (own_pk p2 (1 : Int32) (121 : Int32) q3)), .val (.int (own_pk p2 (2 : Int32) (112 : Int32) q3)), .val (.int (own_pk p2 (3 : Int32) (101 : Int32) q3)), .val (.int (own_pk p2 (4 : Int32) (59 : Int32) q3)), .val (.int (own_pk p2 (5 : Int32) (84 : Int32) q3)), .val (.int (own_pk p2 (6 : Int32) (59 : Int32) q3)), .val (.int (own_pk p2 (7 : Int32) (0 : Int32) q3)), .unset, .unset] [(.ref b12)])) _
    refine XS.astore X12.here hx rfl (hb hby at_91) rfl rfl (l' := #[.val (.int p1), .val (.int p2), .val (.long q3), .second, .val (.int (Int32.ofNat N)), .val (.int (own_pk p2 (0 : Int32) (84 : Int32) q3)), .val (.int (own_pk p2 (1 : Int32) (121 : Int32) q3)), .val (.int (own_pk p2 (2 : Int32) (112 : Int32) q3)), .val (.int (own_pk p2 (3 : Int32) (101 : Int32) q3)), .val (.int (own_pk p2 (4 : Int32) (59 : Int32) q3)), .val (.int (own_pk p2 (5 : Int32) (84 : Int32) q3)), .val (.int (own_pk p2 (6 : Int32) (59 : Int32) q3)), .val (.int (own_pk p2 (7 : Int32) (0 : Int32) q3)), .val (.ref b12), .unset]) rfl ?_
    show Steps p.tables e below (T12.setTop (mkF m 93 #[.val (.int p1), .val (.int p2), .val (.long q3), .second, .val (.int (Int32.ofNat N)), .val (.int (own_pk p2 (0 : Int32) (84 : Int32) q3)), .val (.int (own_pk p2 (1 : Int32) (121 : Int32) q3)), .val (.int (own_pk p2 (2 : Int32) (112 : Int32) q3)), .val (.int (own_pk p2 (3 : Int32) (101 : Int32) q3)), .val (.int (own_pk p2 (4 : Int32) (59 : Int32) q3)), .val (.int (own_pk p2 (5 : Int32) (84 : Int32) q3)), .val (.int (own_pk p2 (6 : Int32) (59 : Int32) q3)), .val (.int (own_pk p2 (7 : Int32) (0 : Int32) q3)), .val (.ref b12), .unset] [])) _
    refine XS.aload X12.here hx rfl (hb hby at_93) rfl rfl ?_
    show Steps p.tables e below (T12.setTop (mkF m 95 #[.val (.int p1), .val (.int p2), .val (.long q3), .second, .val (.int (Int32.ofNat N)), .val (.int (own_pk p2 (0 : Int32) (84 : Int32) q3)), .val (.int (own_pk p2 (1 : Int32) (121 : Int32) q3)), .val (.int (own_pk p2 (2 : Int32) (112 : Int32) q3)), .val (.int (own_pk p2 (3 : Int32) (101 : Int32) q3)), .val (.int (own_pk p2 (4 : Int32) (59 : Int32) q3)), .val (.int (own_pk p2 (5 : Int32) (84 : Int32) q3)), .val (.int (own_pk p2 (6 : Int32) (59 : Int32) q3)), .val (.int (own_pk p2 (7 : Int32) (0 : Int32) q3)), .val (.ref b12), .unset] [(.ref b12)])) _
    refine XS.iconst X12.here hx rfl (hb hby at_95) ?_
    show Steps p.tables e below (T12.setTop (mkF m 96 #[.val (.int p1), .val (.int p2), .val (.long q3), .second, .val (.int (Int32.ofNat N)), .val (.int (own_pk p2 (0 : Int32) (84 : Int32) q3)), .val (.int (own_pk p2 (1 : Int32) (121 : Int32) q3)), .val (.int (own_pk p2 (2 : Int32) (112 : Int32) q3)), .val (.int (own_pk p2 (3 : Int32) (101 : Int32) q3)), .val (.int (own_pk p2 (4 : Int32) (59 : Int32) q3)), .val (.int (own_pk p2 (5 : Int32) (84 : Int32) q3)), .val (.int (own_pk p2 (6 : Int32) (59 : Int32) q3)), .val (.int (own_pk p2 (7 : Int32) (0 : Int32) q3)), .val (.ref b12), .unset] [(.int (0 : Int32)), (.ref b12)])) _
    refine XS.iload X12.here hx rfl (hb hby at_96) rfl ?_
    show Steps p.tables e below (T12.setTop (mkF m 98 #[.val (.int p1), .val (.int p2), .val (.long q3), .second, .val (.int (Int32.ofNat N)), .val (.int (own_pk p2 (0 : Int32) (84 : Int32) q3)), .val (.int (own_pk p2 (1 : Int32) (121 : Int32) q3)), .val (.int (own_pk p2 (2 : Int32) (112 : Int32) q3)), .val (.int (own_pk p2 (3 : Int32) (101 : Int32) q3)), .val (.int (own_pk p2 (4 : Int32) (59 : Int32) q3)), .val (.int (own_pk p2 (5 : Int32) (84 : Int32) q3)), .val (.int (own_pk p2 (6 : Int32) (59 : Int32) q3)), .val (.int (own_pk p2 (7 : Int32) (0 : Int32) q3)), .val (.ref b12), .unset] [(.int (own_pk p2 (0 : Int32) (84 : Int32) q3)), (.int (0 : Int32)), (.ref b12)])) _
    refine st13 _ ?_
    show Steps p.tables e below (T13.setTop (mkF m 101 #[.val (.int p1), .val (.int p2), .val (.long q3), .second, .val (.int (Int32.ofNat N)), .val (.int (own_pk p2 (0 : Int32) (84 : Int32) q3)), .val (.int (own_pk p2 (1 : Int32) (121 : Int32) q3)), .val (.int (own_pk p2 (2 : Int32) (112 : Int32) q3)), .val (.int (own_pk p2 (3 : Int32) (101 : Int32) q3)), .val (.int (own_pk p2 (4 : Int32) (59 : Int32) q3)), .val (.int (own_pk p2 (5 : Int32) (84 : Int32) q3)), .val (.int (own_pk p2 (6 : Int32) (59 : Int32) q3)), .val (.int (own_pk p2 (7 : Int32) (0 : Int32) q3)), .val (.ref b12), .unset] [])) _
    refine XS.aload X13.here hx rfl (hb hby at_101) rfl rfl ?_
    show Steps p.tables e below (T13.setTop (mkF m 103 #[.val (.int p1), .val (.int p2), .val (.long q3), .second, .val (.int (Int32.ofNat N)), .val (.int (own_pk p2 (0 : Int32) (84 : Int32) q3)), .val (.int (own_pk p2 (1 : Int32) (121 : Int32) q3)), .val (.int (own_pk p2 (2 : Int32) (112 : Int32) q3)), .val (.int (own_pk p2 (3 : Int32) (101 : Int32) q3)), .val (.int (own_pk p2 (4 : Int32) (59 : Int32) q3)), .val (.int (own_pk p2 (5 : Int32) (84 : Int32) q3)), .val (.int (own_pk p2 (6 : Int32) (59 : Int32) q3)), .val (.int (own_pk p2 (7 : Int32) (0 : Int32) q3)), .val (.ref b12), .unset] [(.ref b12)])) _
    refine XS.iconst X13.here hx rfl (hb hby at_103) ?_
    show Steps p.tables e below (T13.setTop (mkF m 104 #[.val (.int p1), .val (.int p2), .val (.long q3), .second, .val (.int (Int32.ofNat N)), .val (.int (own_pk p2 (0 : Int32) (84 : Int32) q3)), .val (.int (own_pk p2 (1 : Int32) (121 : Int32) q3)), .val (.int (own_pk p2 (2 : Int32) (112 : Int32) q3)), .val (.int (own_pk p2 (3 : Int32) (101 : Int32) q3)), .val (.int (own_pk p2 (4 : Int32) (59 : Int32) q3)), .val (.int (own_pk p2 (5 : Int32) (84 : Int32) q3)), .val (.int (own_pk p2 (6 : Int32) (59 : Int32) q3)), .val (.int (own_pk p2 (7 : Int32) (0 : Int32) q3)), .val (.ref b12), .unset] [(.int (1 : Int32)), (.ref b12)])) _
    refine XS.iload X13.here hx rfl (hb hby at_104) rfl ?_
    show Steps p.tables e below (T13.setTop (mkF m 106 #[.val (.int p1), .val (.int p2), .val (.long q3), .second, .val (.int (Int32.ofNat N)), .val (.int (own_pk p2 (0 : Int32) (84 : Int32) q3)), .val (.int (own_pk p2 (1 : Int32) (121 : Int32) q3)), .val (.int (own_pk p2 (2 : Int32) (112 : Int32) q3)), .val (.int (own_pk p2 (3 : Int32) (101 : Int32) q3)), .val (.int (own_pk p2 (4 : Int32) (59 : Int32) q3)), .val (.int (own_pk p2 (5 : Int32) (84 : Int32) q3)), .val (.int (own_pk p2 (6 : Int32) (59 : Int32) q3)), .val (.int (own_pk p2 (7 : Int32) (0 : Int32) q3)), .val (.ref b12), .unset] [(.int (own_pk p2 (1 : Int32) (121 : Int32) q3)), (.int (1 : Int32)), (.ref b12)])) _
    refine st14 _ ?_
    show Steps p.tables e below (T14.setTop (mkF m 109 #[.val (.int p1), .val (.int p2), .val (.long q3), .second, .val (.int (Int32.ofNat N)), .val (.int (own_pk p2 (0 : Int32) (84 : Int32) q3)), .val (.int (own_pk p2 (1 : Int32) (121 : Int32) q3)), .val (.int (own_pk p2 (2 : Int32) (112 : Int32) q3)), .val (.int (own_pk p2 (3 : Int32) (101 : Int32) q3)), .val (.int (own_pk p2 (4 : Int32) (59 : Int32) q3)), .val (.int (own_pk p2 (5 : Int32) (84 : Int32) q3)), .val (.int (own_pk p2 (6 : Int32) (59 : Int32) q3)), .val (.int (own_pk p2 (7 : Int32) (0 : Int32) q3)), .val (.ref b12), .unset] [])) _
    refine XS.aload X14.here hx rfl (hb hby at_109) rfl rfl ?_
    show Steps p.tables e below (T14.setTop (mkF m 111 #[.val (.int p1), .val (.int p2), .val (.long q3), .second, .val (.int (Int32.ofNat N)), .val (.int (own_pk p2 (0 : Int32) (84 : Int32) q3)), .val (.int (own_pk p2 (1 : Int32) (121 : Int32) q3)), .val (.int (own_pk p2 (2 : Int32) (112 : Int32) q3)), .val (.int (own_pk p2 (3 : Int32) (101 : Int32) q3)), .val (.int (own_pk p2 (4 : Int32) (59 : Int32) q3)), .val (.int (own_pk p2 (5 : Int32) (84 : Int32) q3)), .val (.int (own_pk p2 (6 : Int32) (59 : Int32) q3)), .val (.int (own_pk p2 (7 : Int32) (0 : Int32) q3)), .val (.ref b12), .unset] [(.ref b12)])) _
    refine XS.iconst X14.here hx rfl (hb hby at_111) ?_
    show Steps p.tables e below (T14.setTop (mkF m 112 #[.val (.int p1), .val (.int p2), .val (.long q3), .second, .val (.int (Int32.ofNat N)), .val (.int (own_pk p2 (0 : Int32) (84 : Int32) q3)), .val (.int (own_pk p2 (1 : Int32) (121 : Int32) q3)), .val (.int (own_pk p2 (2 : Int32) (112 : Int32) q3)), .val (.int (own_pk p2 (3 : Int32) (101 : Int32) q3)), .val (.int (own_pk p2 (4 : Int32) (59 : Int32) q3)), .val (.int (own_pk p2 (5 : Int32) (84 : Int32) q3)), .val (.int (own_pk p2 (6 : Int32) (59 : Int32) q3)), .val (.int (own_pk p2 (7 : Int32) (0 : Int32) q3)), .val (.ref b12), .unset] [(.int (2 : Int32)), (.ref b12)])) _
    refine XS.iload X14.here hx rfl (hb hby at_112) rfl ?_
    show Steps p.tables e below (T14.setTop (mkF m 114 #[.val (.int p1), .val (.int p2), .val (.long q3), .second, .val (.int (Int32.ofNat N)), .val (.int (own_pk p2 (0 : Int32) (84 : Int32) q3)), .val (.int (own_pk p2 (1 : Int32) (121 : Int32) q3)), .val (.int (own_pk p2 (2 : Int32) (112 : Int32) q3)), .val (.int (own_pk p2 (3 : Int32) (101 : Int32) q3)), .val (.int (own_pk p2 (4 : Int32) (59 : Int32) q3)), .val (.int (own_pk p2 (5 : Int32) (84 : Int32) q3)), .val (.int (own_pk p2 (6 : Int32) (59 : Int32) q3)), .val (.int (own_pk p2 (7 : Int32) (0 : Int32) q3)), .val (.ref b12), .unset] [(.int (own_pk p2 (2 : Int32) (112 : Int32) q3)), (.int (2 : Int32)), (.ref b12)])) _
    refine st15 _ ?_
    show Steps p.tables e below (T15.setTop (mkF m 117 #[.val (.int p1), .val (.int p2), .val (.long q3), .second, .val (.int (Int32.ofNat N)), .val (.int (own_pk p2 (0 : Int32) (84 : Int32) q3)), .val (.int (own_pk p2 (1 : Int32) (121 : Int32) q3)), .val (.int (own_pk p2 (2 : Int32) (112 : Int32) q3)), .val (.int (own_pk p2 (3 : Int32) (101 : Int32) q3)), .val (.int (own_pk p2 (4 : Int32) (59 : Int32) q3)), .val (.int (own_pk p2 (5 : Int32) (84 : Int32) q3)), .val (.int (own_pk p2 (6 : Int32) (59 : Int32) q3)), .val (.int (own_pk p2 (7 : Int32) (0 : Int32) q3)), .val (.ref b12), .unset] [])) _
    refine XS.aload X15.here hx rfl (hb hby at_117) rfl rfl ?_
    show Steps p.tables e below (T15.setTop (mkF m 119 #[.val (.int p1), .val (.int p2), .val (.long q3), .second, .val (.int (Int32.ofNat N)), .val (.int (own_pk p2 (0 : Int32) (84 : Int32) q3)), .val (.int (own_pk p2 (1 : Int32) (121 : Int32) q3)), .val (.int (own_pk p2 (2 : Int32) (112 : Int32) q3)), .val (.int (own_pk p2 (3 : Int32) (101 : Int32) q3)), .val (.int (own_pk p2 (4 : Int32) (59 : Int32) q3)), .val (.int (own_pk p2 (5 : Int32) (84 : Int32) q3)), .val (.int (own_pk p2 (6 : Int32) (59 : Int32) q3)), .val (.int (own_pk p2 (7 : Int32) (0 : Int32) q3)), .val (.ref b12), .unset] [(.ref b12)])) _
    refine XS.iconst X15.here hx rfl (hb hby at_119) ?_
    show Steps p.tables e below (T15.setTop (mkF m 120 #[.val (.int p1), .val (.int p2), .val (.long q3), .second, .val (.int (Int32.ofNat N)), .val (.int (own_pk p2 (0 : Int32) (84 : Int32) q3)), .val (.int (own_pk p2 (1 : Int32) (121 : Int32) q3)), .val (.int (own_pk p2 (2 : Int32) (112 : Int32) q3)), .val (.int (own_pk p2 (3 : Int32) (101 : Int32) q3)), .val (.int (own_pk p2 (4 : Int32) (59 : Int32) q3)), .val (.int (own_pk p2 (5 : Int32) (84 : Int32) q3)), .val (.int (own_pk p2 (6 : Int32) (59 : Int32) q3)), .val (.int (own_pk p2 (7 : Int32) (0 : Int32) q3)), .val (.ref b12), .unset] [(.int (3 : Int32)), (.ref b12)])) _
    refine XS.iload X15.here hx rfl (hb hby at_120) rfl ?_
    show Steps p.tables e below (T15.setTop (mkF m 122 #[.val (.int p1), .val (.int p2), .val (.long q3), .second, .val (.int (Int32.ofNat N)), .val (.int (own_pk p2 (0 : Int32) (84 : Int32) q3)), .val (.int (own_pk p2 (1 : Int32) (121 : Int32) q3)), .val (.int (own_pk p2 (2 : Int32) (112 : Int32) q3)), .val (.int (own_pk p2 (3 : Int32) (101 : Int32) q3)), .val (.int (own_pk p2 (4 : Int32) (59 : Int32) q3)), .val (.int (own_pk p2 (5 : Int32) (84 : Int32) q3)), .val (.int (own_pk p2 (6 : Int32) (59 : Int32) q3)), .val (.int (own_pk p2 (7 : Int32) (0 : Int32) q3)), .val (.ref b12), .unset] [(.int (own_pk p2 (3 : Int32) (101 : Int32) q3)), (.int (3 : Int32)), (.ref b12)])) _
    refine st16 _ ?_
    show Steps p.tables e below (T16.setTop (mkF m 125 #[.val (.int p1), .val (.int p2), .val (.long q3), .second, .val (.int (Int32.ofNat N)), .val (.int (own_pk p2 (0 : Int32) (84 : Int32) q3)), .val (.int (own_pk p2 (1 : Int32) (121 : Int32) q3)), .val (.int (own_pk p2 (2 : Int32) (112 : Int32) q3)), .val (.int (own_pk p2 (3 : Int32) (101 : Int32) q3)), .val (.int (own_pk p2 (4 : Int32) (59 : Int32) q3)), .val (.int (own_pk p2 (5 : Int32) (84 : Int32) q3)), .val (.int (own_pk p2 (6 : Int32) (59 : Int32) q3)), .val (.int (own_pk p2 (7 : Int32) (0 : Int32) q3)), .val (.ref b12), .unset] [])) _
    refine XS.aload X16.here hx rfl (hb hby at_125) rfl rfl ?_
    show Steps p.tables e below (T16.setTop (mkF m 127 #[.val (.int p1), .val (.int p2), .val (.long q3), .second, .val (.int (Int32.ofNat N)), .val (.int (own_pk p2 (0 : Int32) (84 : Int32) q3)), .val (.int (own_pk p2 (1 : Int32) (121 : Int32) q3)), .val (.int (own_pk p2 (2 : Int32) (112 : Int32) q3)), .val (.int (own_pk p2 (3 : Int32) (101 : Int32) q3)), .val (.int (own_pk p2 (4 : Int32) (59 : Int32) q3)), .val (.int (own_pk p2 (5 : Int32) (84 : Int32) q3)), .val (.int (own_pk p2 (6 : Int32) (59 : Int32) q3)), .val (.int (own_pk p2 (7 : Int32) (0 : Int32) q3)), .val (.ref b12), .unset] [(.ref b12)])) _
    refine XS.iconst X16.here hx rfl (hb hby at_127) ?_
    show Steps p.tables e below (T16.setTop (mkF m 128 #[.val (.int p1), .val (.int p2), .val (.long q3), .second, .val (.int (Int32.ofNat N)), .val (.int (own_pk p2 (0 : Int32) (84 : Int32) q3)), .val (.int (own_pk p2 (1 : Int32) (121 : Int32) q3)), .val (.int (own_pk p2 (2 : Int32) (112 : Int32) q3)), .val (.int (own_pk p2 (3 : Int32) (101 : Int32) q3)), .val (.int (own_pk p2 (4 : Int32) (59 : Int32) q3)), .val (.int (own_pk p2 (5 : Int32) (84 : Int32) q3)), .val (.int (own_pk p2 (6 : Int32) (59 : Int32) q3)), .val (.int (own_pk p2 (7 : Int32) (0 : Int32) q3)), .val (.ref b12), .unset] [(.int (4 : Int32)), (.ref b12)])) _
    refine XS.iload X16.here hx rfl (hb hby at_128) rfl ?_
    show Steps p.tables e below (T16.setTop (mkF m 130 #[.val (.int p1), .val (.int p2), .val (.long q3), .second, .val (.int (Int32.ofNat N)), .val (.int (own_pk p2 (0 : Int32) (84 : Int32) q3)), .val (.int (own_pk p2 (1 : Int32) (121 : Int32) q3)), .val (.int (own_pk p2 (2 : Int32) (112 : Int32) q3)), .val (.int (own_pk p2 (3 : Int32) (101 : Int32) q3)), .val (.int (own_pk p2 (4 : Int32) (59 : Int32) q3)), .val (.int (own_pk p2 (5 : Int32) (84 : Int32) q3)), .val (.int (own_pk p2 (6 : Int32) (59 : Int32) q3)), .val (.int (own_pk p2 (7 : Int32) (0 : Int32) q3)), .val (.ref b12), .unset] [(.int (own_pk p2 (4 : Int32) (59 : Int32) q3)), (.int (4 : Int32)), (.ref b12)])) _
    refine st17 _ ?_
    show Steps p.tables e below (T17.setTop (mkF m 133 #[.val (.int p1), .val (.int p2), .val (.long q3), .second, .val (.int (Int32.ofNat N)), .val (.int (own_pk p2 (0 : Int32) (84 : Int32) q3)), .val (.int (own_pk p2 (1 : Int32) (121 : Int32) q3)), .val (.int (own_pk p2 (2 : Int32) (112 : Int32) q3)), .val (.int (own_pk p2 (3 : Int32) (101 : Int32) q3)), .val (.int (own_pk p2 (4 : Int32) (59 : Int32) q3)), .val (.int (own_pk p2 (5 : Int32) (84 : Int32) q3)), .val (.int (own_pk p2 (6 : Int32) (59 : Int32) q3)), .val (.int (own_pk p2 (7 : Int32) (0 : Int32) q3)), .val (.ref b12), .unset] [])) _
    refine XS.aload X17.here hx rfl (hb hby at_133) rfl rfl ?_
    show Steps p.tables e below (T17.setTop (mkF m 135 #[.val (.int p1), .val (.int p2), .val (.long q3), .second, .val (.int (Int32.ofNat N)), .val (.int (own_pk p2 (0 : Int32) (84 : Int32) q3)), .val (.int (own_pk p2 (1 : Int32) (121 : Int32) q3)), .val (.int (own_pk p2 (2 : Int32) (112 : Int32) q3)), .val (.int (own_pk p2 (3 : Int32) (101 : Int32) q3)), .val (.int (own_pk p2 (4 : Int32) (59 : Int32) q3)), .val (.int (own_pk p2 (5 : Int32) (84 : Int32) q3)), .val (.int (own_pk p2 (6 : Int32) (59 : Int32) q3)), .val (.int (own_pk p2 (7 : Int32) (0 : Int32) q3)), .val (.ref b12), .unset] [(.ref b12)])) _
    refine XS.iconst X17.here hx rfl (hb hby at_135) ?_
    show Steps p.tables e below (T17.setTop (mkF m 136 #[.val (.int p1), .val (.int p2), .val (.long q3), .second, .val (.int (Int32.ofNat N)), .val (.int (own_pk p2 (0 : Int32) (84 : Int32) q3)), .val (.int (own_pk p2 (1 : Int32) (121 : Int32) q3)), .val (.int (own_pk p2 (2 : Int32) (112 : Int32) q3)), .val (.int (own_pk p2 (3 : Int32) (101 : Int32) q3)), .val (.int (own_pk p2 (4 : Int32) (59 : Int32) q3)), .val (.int (own_pk p2 (5 : Int32) (84 : Int32) q3)), .val (.int (own_pk p2 (6 : Int32) (59 : Int32) q3)), .val (.int (own_pk p2 (7 : Int32) (0 : Int32) q3)), .val (.ref b12), .unset] [(.int (5 : Int32)), (.ref b12)])) _
    refine XS.iload X17.here hx rfl (hb hby at_136) rfl ?_
    show Steps p.tables e below (T17.setTop (mkF m 138 #[.val (.int p1), .val (.int p2), .val (.long q3), .second, .val (.int (Int32.ofNat N)), .val (.int (own_pk p2 (0 : Int32) (84 : Int32) q3)), .val (.int (own_pk p2 (1 : Int32) (121 : Int32) q3)), .val (.int (own_pk p2 (2 : Int32) (112 : Int32) q3)), .val (.int (own_pk p2 (3 : Int32) (101 : Int32) q3)), .val (.int (own_pk p2 (4 : Int32) (59 : Int32) q3)), .val (.int (own_pk p2 (5 : Int32) (84 : Int32) q3)), .val (.int (own_pk p2 (6 : Int32) (59 : Int32) q3)), .val (.int (own_pk p2 (7 : Int32) (0 : Int32) q3)), .val (.ref b12), .unset] [(.int (own_pk p2 (5 : Int32) (84 : Int32) q3)), (.int (5 : Int32)), (.ref b12)])) _
    refine st18 _ ?_
    show Steps p.tables e below (T18.setTop (mkF m 141 #[.val (.int p1), .val (.int p2), .val (.long q3), .second, .val (.int (Int32.ofNat N)), .val (.int (own_pk p2 (0 : Int32) (84 : Int32) q3)), .val (.int (own_pk p2 (1 : Int32) (121 : Int32) q3)), .val (.int (own_pk p2 (2 : Int32) (112 : Int32) q3)), .val (.int (own_pk p2 (3 : Int32) (101 : Int32) q3)), .val (.int (own_pk p2 (4 : Int32) (59 : Int32) q3)), .val (.int (own_pk p2 (5 : Int32) (84 : Int32) q3)), .val (.int (own_pk p2 (6 : Int32) (59 : Int32) q3)), .val (.int (own_pk p2 (7 : Int32) (0 : Int32) q3)), .val (.ref b12), .unset] [])) _
    refine XS.aload X18.here hx rfl (hb hby at_141) rfl rfl ?_
    show Steps p.tables e below (T18.setTop (mkF m 143 #[.val (.int p1), .val (.int p2), .val (.long q3), .second, .val (.int (Int32.ofNat N)), .val (.int (own_pk p2 (0 : Int32) (84 : Int32) q3)), .val (.int (own_pk p2 (1 : Int32) (121 : Int32) q3)), .val (.int (own_pk p2 (2 : Int32) (112 : Int32) q3)), .val (.int (own_pk p2 (3 : Int32) (101 : Int32) q3)), .val (.int (own_pk p2 (4 : Int32) (59 : Int32) q3)), .val (.int (own_pk p2 (5 : Int32) (84 : Int32) q3)), .val (.int (own_pk p2 (6 : Int32) (59 : Int32) q3)), .val (.int (own_pk p2 (7 : Int32) (0 : Int32) q3)), .val (.ref b12), .unset] [(.ref b12)])) _
    refine XS.bipush X18.here hx rfl (hb hby at_143) ?_
    show Steps p.tables e below (T18.setTop (mkF m 145 #[.val (.int p1), .val (.int p2), .val (.long q3), .second, .val (.int (Int32.ofNat N)), .val (.int (own_pk p2 (0 : Int32) (84 : Int32) q3)), .val (.int (own_pk p2 (1 : Int32) (121 : Int32) q3)), .val (.int (own_pk p2 (2 : Int32) (112 : Int32) q3)), .val (.int (own_pk p2 (3 : Int32) (101 : Int32) q3)), .val (.int (own_pk p2 (4 : Int32) (59 : Int32) q3)), .val (.int (own_pk p2 (5 : Int32) (84 : Int32) q3)), .val (.int (own_pk p2 (6 : Int32) (59 : Int32) q3)), .val (.int (own_pk p2 (7 : Int32) (0 : Int32) q3)), .val (.ref b12), .unset] [(.int (6 : Int32)), (.ref b12)])) _
    refine XS.iload X18.here hx rfl (hb hby at_145) rfl ?_
    show Steps p.tables e below (T18.setTop (mkF m 147 #[.val (.int p1), .val (.int p2), .val (.long q3), .second, .val (.int (Int32.ofNat N)), .val (.int (own_pk p2 (0 : Int32) (84 : Int32) q3)), .val (.int (own_pk p2 (1 : Int32) (121 : Int32) q3)), .val (.int (own_pk p2 (2 : Int32) (112 : Int32) q3)), .val (.int (own_pk p2 (3 : Int32) (101 : Int32) q3)), .val (.int (own_pk p2 (4 : Int32) (59 : Int32) q3)), .val (.int (own_pk p2 (5 : Int32) (84 : Int32) q3)), .val (.int (own_pk p2 (6 : Int32) (59 : Int32) q3)), .val (.int (own_pk p2 (7 : Int32) (0 : Int32) q3)), .val (.ref b12), .unset] [(.int (own_pk p2 (6 : Int32) (59 : Int32) q3)), (.int (6 : Int32)), (.ref b12)])) _
    refine st19 _ ?_
    show Steps p.tables e below (T19.setTop (mkF m 150 #[.val (.int p1), .val (.int p2), .val (.long q3), .second, .val (.int (Int32.ofNat N)), .val (.int (own_pk p2 (0 : Int32) (84 : Int32) q3)), .val (.int (own_pk p2 (1 : Int32) (121 : Int32) q3)), .val (.int (own_pk p2 (2 : Int32) (112 : Int32) q3)), .val (.int (own_pk p2 (3 : Int32) (101 : Int32) q3)), .val (.int (own_pk p2 (4 : Int32) (59 : Int32) q3)), .val (.int (own_pk p2 (5 : Int32) (84 : Int32) q3)), .val (.int (own_pk p2 (6 : Int32) (59 : Int32) q3)), .val (.int (own_pk p2 (7 : Int32) (0 : Int32) q3)), .val (.ref b12), .unset] [])) _
    refine XS.aload X19.here hx rfl (hb hby at_150) rfl rfl ?_
    show Steps p.tables e below (T19.setTop (mkF m 152 #[.val (.int p1), .val (.int p2), .val (.long q3), .second, .val (.int (Int32.ofNat N)), .val (.int (own_pk p2 (0 : Int32) (84 : Int32) q3)), .val (.int (own_pk p2 (1 : Int32) (121 : Int32) q3)), .val (.int (own_pk p2 (2 : Int32) (112 : Int32) q3)), .val (.int (own_pk p2 (3 : Int32) (101 : Int32) q3)), .val (.int (own_pk p2 (4 : Int32) (59 : Int32) q3)), .val (.int (own_pk p2 (5 : Int32) (84 : Int32) q3)), .val (.int (own_pk p2 (6 : Int32) (59 : Int32) q3)), .val (.int (own_pk p2 (7 : Int32) (0 : Int32) q3)), .val (.ref b12), .unset] [(.ref b12)])) _
    refine XS.bipush X19.here hx rfl (hb hby at_152) ?_
    show Steps p.tables e below (T19.setTop (mkF m 154 #[.val (.int p1), .val (.int p2), .val (.long q3), .second, .val (.int (Int32.ofNat N)), .val (.int (own_pk p2 (0 : Int32) (84 : Int32) q3)), .val (.int (own_pk p2 (1 : Int32) (121 : Int32) q3)), .val (.int (own_pk p2 (2 : Int32) (112 : Int32) q3)), .val (.int (own_pk p2 (3 : Int32) (101 : Int32) q3)), .val (.int (own_pk p2 (4 : Int32) (59 : Int32) q3)), .val (.int (own_pk p2 (5 : Int32) (84 : Int32) q3)), .val (.int (own_pk p2 (6 : Int32) (59 : Int32) q3)), .val (.int (own_pk p2 (7 : Int32) (0 : Int32) q3)), .val (.ref b12), .unset] [(.int (7 : Int32)), (.ref b12)])) _
    refine XS.iload X19.here hx rfl (hb hby at_154) rfl ?_
    show Steps p.tables e below (T19.setTop (mkF m 156 #[.val (.int p1), .val (.int p2), .val (.long q3), .second, .val (.int (Int32.ofNat N)), .val (.int (own_pk p2 (0 : Int32) (84 : Int32) q3)), .val (.int (own_pk p2 (1 : Int32) (121 : Int32) q3)), .val (.int (own_pk p2 (2 : Int32) (112 : Int32) q3)), .val (.int (own_pk p2 (3 : Int32) (101 : Int32) q3)), .val (.int (own_pk p2 (4 : Int32) (59 : Int32) q3)), .val (.int (own_pk p2 (5 : Int32) (84 : Int32) q3)), .val (.int (own_pk p2 (6 : Int32) (59 : Int32) q3)), .val (.int (own_pk p2 (7 : Int32) (0 : Int32) q3)), .val (.ref b12), .unset] [(.int (own_pk p2 (7 : Int32) (0 : Int32) q3)), (.int (7 : Int32)), (.ref b12)])) _
    refine st20 _ ?_
    show Steps p.tables e below (T20.setTop (mkF m 159 #[.val (.int p1), .val (.int p2), .val (.long q3), .second, .val (.int (Int32.ofNat N)), .val (.int (own_pk p2 (0 : Int32) (84 : Int32) q3)), .val (.int (own_pk p2 (1 : Int32) (121 : Int32) q3)), .val (.int (own_pk p2 (2 : Int32) (112 : Int32) q3)), .val (.int (own_pk p2 (3 : Int32) (101 : Int32) q3)), .val (.int (own_pk p2 (4 : Int32) (59 : Int32) q3)), .val (.int (own_pk p2 (5 : Int32) (84 : Int32) q3)), .val (.int (own_pk p2 (6 : Int32) (59 : Int32) q3)), .val (.int (own_pk p2 (7 : Int32) (0 : Int32) q3)), .val (.ref b12), .unset] [])) _
    refine stS _ ?_
    show Steps p.tables e below (TG.setTop (mkF m 207 #[.val (.int p1), .val (.int p2), .val (.long q3), .second, .val (.int (Int32.ofNat N)), .val (.int (own_pk p2 (0 : Int32) (84 : Int32) q3)), .val (.int (own_pk p2 (1 : Int32) (121 : Int32) q3)), .val (.int (own_pk p2 (2 : Int32) (112 : Int32) q3)), .val (.int (own_pk p2 (3 : Int32) (101 : Int32) q3)), .val (.int (own_pk p2 (4 : Int32) (59 : Int32) q3)), .val (.int (own_pk p2 (5 : Int32) (84 : Int32) q3)), .val (.int (own_pk p2 (6 : Int32) (59 : Int32) q3)), .val (.int (own_pk p2 (7 : Int32) (0 : Int32) q3)), .val (.ref b12), .val (.int (own_ex (Int32.ofNat N) (own_pk p2 (0 : Int32) (84 : Int32) q3) (own_pk p2 (1 : Int32) (121 : Int32) q3) (own_pk p2 (2 : Int32) (112 : Int32) q3) (own_pk p2 (3 : Int32) (101 : Int32) q3) (own_pk p2 (4 : Int32) (59 : Int32) q3)))] [])) _
    refine XS.aload XG.here hx rfl (hb hby at_207) rfl rfl ?_
    show Steps p.tables e below (TG.setTop (mkF m 209 #[.val (.int p1), .val (.int p2), .val (.long q3), .second, .val (.int (Int32.ofNat N)), .val (.int (own_pk p2 (0 : Int32) (84 : Int32) q3)), .val (.int (own_pk p2 (1 : Int32) (121 : Int32) q3)), .val (.int (own_pk p2 (2 : Int32) (112 : Int32) q3)), .val (.int (own_pk p2 (3 : Int32) (101 : Int32) q3)), .val (.int (own_pk p2 (4 : Int32) (59 : Int32) q3)), .val (.int (own_pk p2 (5 : Int32) (84 : Int32) q3)), .val (.int (own_pk p2 (6 : Int32) (59 : Int32) q3)), .val (.int (own_pk p2 (7 : Int32) (0 : Int32) q3)), .val (.ref b12), .val (.int (own_ex (Int32.ofNat N) (own_pk p2 (0 : Int32) (84 : Int32) q3) (own_pk p2 (1 : Int32) (121 : Int32) q3) (own_pk p2 (2 : Int32) (112 : Int32) q3) (own_pk p2 (3 : Int32) (101 : Int32) q3) (own_pk p2 (4 : Int32) (59 : Int32) q3)))] [(.ref b12)])) _
    refine st21 _ ?_
    show Steps p.tables e below (T21.setTop (mkF m 212 #[.val (.int p1), .val (.int p2), .val (.long q3), .second, .val (.int (Int32.ofNat N)), .val (.int (own_pk p2 (0 : Int32) (84 : Int32) q3)), .val (.int (own_pk p2 (1 : Int32) (121 : Int32) q3)), .val (.int (own_pk p2 (2 : Int32) (112 : Int32) q3)), .val (.int (own_pk p2 (3 : Int32) (101 : Int32) q3)), .val (.int (own_pk p2 (4 : Int32) (59 : Int32) q3)), .val (.int (own_pk p2 (5 : Int32) (84 : Int32) q3)), .val (.int (own_pk p2 (6 : Int32) (59 : Int32) q3)), .val (.int (own_pk p2 (7 : Int32) (0 : Int32) q3)), .val (.ref b12), .val (.int (own_ex (Int32.ofNat N) (own_pk p2 (0 : Int32) (84 : Int32) q3) (own_pk p2 (1 : Int32) (121 : Int32) q3) (own_pk p2 (2 : Int32) (112 : Int32) q3) (own_pk p2 (3 : Int32) (101 : Int32) q3) (own_pk p2 (4 : Int32) (59 : Int32) q3)))] [(.int (own_rc N (own_F p2 q3 8) g))])) _
    refine XS.iload X21.here hx rfl (hb hby at_212) rfl ?_
    show Steps p.tables e below (T21.setTop (mkF m 214 #[.val (.int p1), .val (.int p2), .val (.long q3), .second, .val (.int (Int32.ofNat N)), .val (.int (own_pk p2 (0 : Int32) (84 : Int32) q3)), .val (.int (own_pk p2 (1 : Int32) (121 : Int32) q3)), .val (.int (own_pk p2 (2 : Int32) (112 : Int32) q3)), .val (.int (own_pk p2 (3 : Int32) (101 : Int32) q3)), .val (.int (own_pk p2 (4 : Int32) (59 : Int32) q3)), .val (.int (own_pk p2 (5 : Int32) (84 : Int32) q3)), .val (.int (own_pk p2 (6 : Int32) (59 : Int32) q3)), .val (.int (own_pk p2 (7 : Int32) (0 : Int32) q3)), .val (.ref b12), .val (.int (own_ex (Int32.ofNat N) (own_pk p2 (0 : Int32) (84 : Int32) q3) (own_pk p2 (1 : Int32) (121 : Int32) q3) (own_pk p2 (2 : Int32) (112 : Int32) q3) (own_pk p2 (3 : Int32) (101 : Int32) q3) (own_pk p2 (4 : Int32) (59 : Int32) q3)))] [(.int (own_ex (Int32.ofNat N) (own_pk p2 (0 : Int32) (84 : Int32) q3) (own_pk p2 (1 : Int32) (121 : Int32) q3) (own_pk p2 (2 : Int32) (112 : Int32) q3) (own_pk p2 (3 : Int32) (101 : Int32) q3) (own_pk p2 (4 : Int32) (59 : Int32) q3))), (.int (own_rc N (own_F p2 q3 8) g))])) _
    refine XS.icmpNo X21.here hx rfl (hb hby at_214) rfl (teq (own_same p2 q3 N hN8 g hg)).2 ?_
    show Steps p.tables e below (T21.setTop (mkF m 217 #[.val (.int p1), .val (.int p2), .val (.long q3), .second, .val (.int (Int32.ofNat N)), .val (.int (own_pk p2 (0 : Int32) (84 : Int32) q3)), .val (.int (own_pk p2 (1 : Int32) (121 : Int32) q3)), .val (.int (own_pk p2 (2 : Int32) (112 : Int32) q3)), .val (.int (own_pk p2 (3 : Int32) (101 : Int32) q3)), .val (.int (own_pk p2 (4 : Int32) (59 : Int32) q3)), .val (.int (own_pk p2 (5 : Int32) (84 : Int32) q3)), .val (.int (own_pk p2 (6 : Int32) (59 : Int32) q3)), .val (.int (own_pk p2 (7 : Int32) (0 : Int32) q3)), .val (.ref b12), .val (.int (own_ex (Int32.ofNat N) (own_pk p2 (0 : Int32) (84 : Int32) q3) (own_pk p2 (1 : Int32) (121 : Int32) q3) (own_pk p2 (2 : Int32) (112 : Int32) q3) (own_pk p2 (3 : Int32) (101 : Int32) q3) (own_pk p2 (4 : Int32) (59 : Int32) q3)))] [])) _
    refine XS.iconst X21.here hx rfl (hb hby at_217) ?_
    show Steps p.tables e below (T21.setTop (mkF m 218 #[.val (.int p1), .val (.int p2), .val (.long q3), .second, .val (.int (Int32.ofNat N)), .val (.int (own_pk p2 (0 : Int32) (84 : Int32) q3)), .val (.int (own_pk p2 (1 : Int32) (121 : Int32) q3)), .val (.int (own_pk p2 (2 : Int32) (112 : Int32) q3)), .val (.int (own_pk p2 (3 : Int32) (101 : Int32) q3)), .val (.int (own_pk p2 (4 : Int32) (59 : Int32) q3)), .val (.int (own_pk p2 (5 : Int32) (84 : Int32) q3)), .val (.int (own_pk p2 (6 : Int32) (59 : Int32) q3)), .val (.int (own_pk p2 (7 : Int32) (0 : Int32) q3)), .val (.ref b12), .val (.int (own_ex (Int32.ofNat N) (own_pk p2 (0 : Int32) (84 : Int32) q3) (own_pk p2 (1 : Int32) (121 : Int32) q3) (own_pk p2 (2 : Int32) (112 : Int32) q3) (own_pk p2 (3 : Int32) (101 : Int32) q3) (own_pk p2 (4 : Int32) (59 : Int32) q3)))] [(.int (1 : Int32))])) _
    refine XS.goto X21.here hx rfl (pc0 := 218) (pc' := 222) rfl (hb hby at_218) (by decide) (by decide) ?_
    show Steps p.tables e below (T21.setTop (mkF m 222 #[.val (.int p1), .val (.int p2), .val (.long q3), .second, .val (.int (Int32.ofNat N)), .val (.int (own_pk p2 (0 : Int32) (84 : Int32) q3)), .val (.int (own_pk p2 (1 : Int32) (121 : Int32) q3)), .val (.int (own_pk p2 (2 : Int32) (112 : Int32) q3)), .val (.int (own_pk p2 (3 : Int32) (101 : Int32) q3)), .val (.int (own_pk p2 (4 : Int32) (59 : Int32) q3)), .val (.int (own_pk p2 (5 : Int32) (84 : Int32) q3)), .val (.int (own_pk p2 (6 : Int32) (59 : Int32) q3)), .val (.int (own_pk p2 (7 : Int32) (0 : Int32) q3)), .val (.ref b12), .val (.int (own_ex (Int32.ofNat N) (own_pk p2 (0 : Int32) (84 : Int32) q3) (own_pk p2 (1 : Int32) (121 : Int32) q3) (own_pk p2 (2 : Int32) (112 : Int32) q3) (own_pk p2 (3 : Int32) (101 : Int32) q3) (own_pk p2 (4 : Int32) (59 : Int32) q3)))] [(.int (1 : Int32))])) _
    exact retN X21 hx (t := .boolean) Bd.returns (by simp) (hb hby at_222) hr
  · show Q0 h0 n0 _ T21.heap _
    exact ⟨rfl, N21⟩
theorem own_eqv {args : Array Value} {s : State} {t : Term} {k : Int32} (h : (Cond.eq t (.int k)).value args s none s [] = some true) : t.eval args s none [] s = some (.int k) := by
  obtain ⟨x, y, hx, hy, k1, k2⟩ := cmp_v (Or.inl h)
  obtain rfl : y = .int k := (Option.some.inj ((Term.int_eval k).symm.trans hy)).symm
  obtain ⟨z, rfl⟩ := k2
  rw [hx]; congr 2
  exact gotT (Cond.eq_ints hx hy) h
theorem own_eqr {args : Array Value} {s : State} {t u : Term} {b : Addr} (h : (Cond.eq t u).value args s none s [] = some true) (hu : u.eval args s none [] s = some (.ref b)) : t.eval args s none [] s = some (.ref b) := by
  obtain ⟨x, y, hx, hy, k1, k2⟩ := cmp_v (Or.inl h)
  obtain rfl : y = .ref b := (Option.some.inj (hu.symm.trans hy)).symm
  rw [hx]; congr 1
  exact gotT (eq_R hx hy k2.2 rfl) h
theorem own_len {args : Array Value} {s : State} {t : Term} {a : Addr} {cl : Cell} {n : Int32} (h : (Term.length t).eval args s none [] s = some (.int n)) (ht : t.eval args s none [] s = some (.ref a)) (hc : s.heap[a]? = some cl) : cl.slots.size = n.toNatClampNeg ∧ ¬ n < 0 := by
  obtain ⟨a', cell, e1, e2, e3⟩ := Term.length_spec h
  cases ht.symm.trans e1
  cases hc.symm.trans (State.arrayAt?_spec e2).1
  have hl : cl.slots.size < 2 ^ 31 := by
    by_cases hn : cl.slots.size < 2147483648
    · exact hn
    · simp [Term.eval, ht, e2, hn] at h
  have q := len_toInt hl
  cases e3
  refine ⟨?_, fun hh => ?_⟩
  · simp only [Int32.toNatClampNeg, q]; rfl
  · rw [Int32.lt_iff_toInt_lt, q] at hh
    have z0 : (0 : Int32).toInt = 0 := by decide
    omega
theorem own_and7 (x : Int32) : ∃ N : Nat, N < 8 ∧ x &&& 7 = Int32.ofNat N := by
  have h := c_and x 7 (by decide)
  have h7 : (7 : Int32).toInt = 7 := by decide
  generalize x &&& 7 = y at h
  refine ⟨y.toInt.toNat, by omega, ?_⟩
  rw [← Int32.toInt_inj, Int32.toInt_ofNat_of_lt (by omega)]
  omega
set_option maxRecDepth 65536 in
set_option maxHeartbeats 40000000 in
theorem comes_1 {Post : Tables → Env → Array Value → State → Outcome → State → Prop} (hpost : ∀ tb e args s v u, (limb_1_1.after args s (.returned v) u = true ∧ limb_1_2.after args s (.returned v) u = true ∧ True) → FrameEnd s (.returned v) u (Jvm.fieldLocs frame_1_writes args s ++ Jvm.arrayLocs frame_1_arrays args s ++ Jvm.staticLocs frame_1_statics s) 16 128 → Post tb e args s (.returned v) u) :
    ArmFor flags0 classFile x code maxLocals ret World_1 tables_1 room_1 Calls_1 rest_1 Pre_1 Post := by
  intro l hfl _ _ p e ha hc hk s m args below hf hA hF happ hP
  obtain ⟨hcalls, hrest, hpre⟩ := hP
  obtain ⟨-, -, -, hnamed, -, -, -, hat⟩ := (Spec.applies_iff hf).mp happ
  obtain ⟨hg, hn⟩ := and_e (Cond.before_iff.mp (show (Jvm.Cond.and given_1 narrow_1).before args s = true from hpre))
  obtain ⟨g22, g23⟩ := and_e hg
  obtain ⟨g24, g25⟩ := and_e g23
  obtain ⟨g26, g27⟩ := and_e g25
  obtain ⟨w0, w1, w2, rfl⟩ : ∃ w0 w1 w2 : Value, args = #[w0, w1, w2] := by
    have hs : args.size = 3 := by simpa [Cond.value, given_1] using g22
    obtain ⟨L⟩ := args
    match L, hs with
    | [w0, w1, w2], _ => exact ⟨w0, w1, w2, rfl⟩
  have hw := fun d (hd : d ∈ tables_1) => atoms_spec (ws := Jvm.Cond.code x code maxLocals ret :: tables_1) hat d (List.mem_cons_of_mem _ hd)
  have hfit : Fit s := fun {y c} hc i hi => by
    obtain ⟨ha, rfl⟩ := Array.getElem?_eq_some_iff.mp hc
    have q := List.all_eq_true.mp ((Array.all_eq_true_iff_forall_mem.mp hF) _ (Array.getElem_mem ha)) i (List.mem_range.mpr hi)
    simpa [Array.getElem?_eq_getElem hi] using q
  obtain ⟨i0, ei0⟩ := is_v g24
  obtain rfl : w0 = (.int i0) := Option.some.inj ei0
  obtain ⟨i1, ei1⟩ := is_v g26
  obtain rfl : w1 = (.int i1) := Option.some.inj ei1
  obtain ⟨i2, ei2⟩ := isL_v g27
  obtain rfl : w2 = (.long i2) := Option.some.inj ei2
  obtain ⟨u0, r0⟩ := and_e hn
  obtain ⟨u1, r1⟩ := and_e r0
  obtain ⟨v0, s0⟩ := and_e r1
  obtain ⟨v1, s1⟩ := and_e s0
  obtain ⟨v2, s2⟩ := and_e s1
  obtain ⟨v3, s3⟩ := and_e s2
  have v4 := s3
  obtain ⟨w2, ev⟩ := arr_v u0
  obtain ⟨cw, Ar⟩ := Arr.start ev u0
  obtain ⟨hS, -⟩ := own_len (own_eqv u1) ev Ar.1
  have SK := Sta.start ev (Or.inr ⟨hw _ (List.mem_of_getElem? (i := 10) rfl), hw _ (List.mem_of_getElem? (i := 13) rfl)⟩)
  have h0e := (elem_in (own_eqv v0) ev (Term.int_eval _) Ar.1).2
  have h1e := (elem_in (own_eqv v1) ev (Term.int_eval _) Ar.1).2
  have h2e := (elem_in (own_eqv v2) ev (Term.int_eval _) Ar.1).2
  have h3e := (elem_in (own_eqv v3) ev (Term.int_eval _) Ar.1).2
  have h4e := (elem_in (own_eqv v4) ev (Term.int_eval _) Ar.1).2
  let g : Nat → Int32 := fun j => [84, 121, 112, 101, 59].getD j 0
  have hat1 : ∀ j, j < 5 → cw.slots[j]? = some (.int (g j)) := fun j hj => by
    rcases (by omega : j = 0 ∨ j = 1 ∨ j = 2 ∨ j = 3 ∨ j = 4) with rfl | rfl | rfl | rfl | rfl
    · exact h0e
    · exact h1e
    · exact h2e
    · exact h3e
    · exact h4e
  obtain ⟨N, hN8, hN⟩ := own_and7 i0
  obtain ⟨n, o, h1, h2, h3, _, L, rfl, ⟨rfl, N⟩, hq⟩ := rm0 l s _ hw tables_1 i0 i1 i2 N w2 cw g s.heap s.heap.size (Nat.le_refl _) hN8 hN (Old.start s) SK Ar hS hat1 ⟨rfl, rfl, rfl, rfl, rfl⟩ p e ha hc hk s m _ below hf ((Spec.applies_iff_loose hf).mp happ).1 ⟨rfl, State.Warmed39.refl s, rfl⟩ trivial
  refine ⟨n, _, h1, h2, h3, hpost _ _ _ _ _ _ ⟨Cond.after_iff.mpr rfl, Cond.after_iff.mpr (eq_i res_at (Term.int_eval (1)) rfl), trivial⟩ ⟨hq.1, hq.2.1, (hq.2.2.sift fun y hy => Or.inr (N y hy)).mono (by decide) (by decide)⟩⟩
theorem main_1_1 : Claimed_1_1 := comes_1 fun _ _ _ _ _ _ h hF => ⟨h.1, hF⟩
theorem main_1_2 : Claimed_1_2 := comes_1 fun _ _ _ _ _ _ h hF => ⟨h.2.1, hF⟩
end Jvm.Pilot.@@N@@
namespace Jvm.Pilot.@@N@@
open Jvm Jvm.ClassFile Sem Op Lib Jvm.Free Jvm.Stand Jvm.Pilot.@@N@@.Jvm.D
/-! MADE BY PROGRAM (witnessworld.py) out of the Statement's table words and the real class files: 9 classes; the members and pool entries that the words name. The judged class is class 1, her method 1. -/
namespace start1
open Jvm.ClassFile
def u (s : String) : CpInfo := .utf8 (stringToUtf16 s)
/-- a pool by its gaps: so many unusable entries, then the entry; so many at the end -/
def gap : Nat → List CpInfo → List CpInfo
  | 0, r => r
  | n + 1, r => .unusable :: gap n r
def poolList (es : List (Nat × CpInfo)) (last : Nat) : List CpInfo := es.foldr (fun e r => gap e.1 (e.2 :: r)) (gap last [])
def pool (es : List (Nat × CpInfo)) (last : Nat) : Array CpInfo := ⟨poolList es last⟩
def fileOf (pool : Array CpInfo) (this : Nat) (attrs : Array Attribute := #[]) (ms : Array MethodInfo := #[]) (fl : Nat := 33) (sup : Nat := 0) (ifs : Array Nat := #[]) (fds : Array FieldInfo := #[]) : ClassFile where
  minorVersion := 0
  majorVersion := 65
  constantPool := pool
  accessFlags := fl
  thisClass := this
  superClass := sup
  interfaces := ifs
  fields := fds
  methods := ms
  attributes := attrs
def plain (name : String) (sup : Option ClassId) : Class where
  name := name
  kind := .ordinary
  loader := none
  accessFlags := 33
  super := sup
  interfaces := #[]
  cf := none
  fields := #[]
  methods := #[]
  instanceTypes := #[]
  staticTypes := #[]
  resolved := #[]
  callSites := []
  init := .initialized
  statics := none
  mirror := none

def pool0 : Array CpInfo := pool [(5, u "<init>"), (0, u "()V"), (1, .class_ 10), (1, u "java/lang/Object")] 113

def k0m0 : Method := { name := "<init>", desc := "()V", sig := { parameters := [], returnType := none }, accessFlags := 1, code := none }
/-- java/lang/Object -/
def k0 : Class := { plain "java/lang/Object" none with
  accessFlags := 33
  interfaces := #[]
  cf := some (fileOf pool0 8 #[] #[{ accessFlags := 1, nameIndex := 5, descriptorIndex := 6, attributes := #[] }] 33 0 #[] #[])
  fields := #[]
  methods := #[k0m0]
  instanceTypes := #[]
  staticTypes := #[]
  resolved := Array.replicate 124 none
  statics := none }

def pool1 : Array CpInfo := pool [(2, .class_ 4), (1, u "java/lang/Object"), (0, u "<init>"), (0, u "()V"), (0, .methodref 8 9), (0, .class_ 10), (0, .nameAndType 11 12), (0, u "com/example/bandmark/bandmark/ReceiverExportReaderRecognisesPinLaw"), (0, u "pick"), (0, u "(IIIJ)B"), (0, .methodref 8 14), (0, .nameAndType 15 16), (0, u "put"), (0, u "([BIB)V"), (0, .methodref 18 19), (0, .class_ 20), (0, .nameAndType 21 22), (0, u "com/example/bandmark/bandmark/ReceiverExportReader"), (0, u "recognises"), (0, u "([B)Z"), (2, u "law"), (0, u "(IIJ)Z")] 5

def k1m0 : Method := { name := "<init>", desc := "()V", sig := { parameters := [], returnType := none }, accessFlags := 1, code := none }
def k1c1 : Code := { maxStack := 5, maxLocals := 15, code := code, exceptionTable := #[], attributes := #[] }
def k1m1 : Method := { name := "law", desc := "(IIJ)Z", sig := { parameters := [.int, .int, .long], returnType := some .boolean }, accessFlags := 9, code := some k1c1 }
def k1c2 : Code := { maxStack := 4, maxLocals := 5, code := method_3_code, exceptionTable := #[], attributes := #[] }
def k1m2 : Method := { name := "pick", desc := "(IIIJ)B", sig := { parameters := [.int, .int, .int, .long], returnType := some .byte }, accessFlags := 10, code := some k1c2 }
def k1c3 : Code := { maxStack := 3, maxLocals := 3, code := method_4_code, exceptionTable := #[], attributes := #[] }
def k1m3 : Method := { name := "put", desc := "([BIB)V", sig := { parameters := [(.array .byte), .int, .byte], returnType := none }, accessFlags := 10, code := some k1c3 }
/-- com/example/bandmark/bandmark/ReceiverExportReaderRecognisesPinLaw -/
def k1 : Class := { plain "com/example/bandmark/bandmark/ReceiverExportReaderRecognisesPinLaw" (some 0) with
  accessFlags := 49
  interfaces := #[]
  cf := some (fileOf pool1 8 #[] #[{ accessFlags := 1, nameIndex := 5, descriptorIndex := 6, attributes := #[] }, { accessFlags := 9, nameIndex := 25, descriptorIndex := 26, attributes := #[] }, { accessFlags := 10, nameIndex := 11, descriptorIndex := 12, attributes := #[] }, { accessFlags := 10, nameIndex := 15, descriptorIndex := 16, attributes := #[] }] 49 2 #[] #[])
  fields := #[]
  methods := #[k1m0, k1m1, k1m2, k1m3]
  instanceTypes := #[]
  staticTypes := #[]
  resolved := Array.replicate 32 none
  statics := none }

def pool2 : Array CpInfo := pool [(2, .class_ 4), (1, u "java/lang/Object"), (3, .class_ 10), (1, u "com/example/bandmark/bandmark/ReceiverExportReader"), (0, u "file"), (0, u "Ljava/nio/file/Path;"), (2, u "lines"), (0, u "[Ljava/lang/String;"), (8, u "end"), (0, u "I"), (0, .fieldref 8 28), (0, .nameAndType 29 30), (0, u "SIGNATURE"), (0, u "[B"), (44, u "SCAN_LINE"), (0, u "Ljava/util/regex/Pattern;"), (23, u "TRACE_LINE"), (67, .class_ 170), (1, u "com/example/bandmark/bandmark/ReceiverExportReader$Header"), (79, u "COUNT"), (60, u "TRACE_WORD"), (0, u "Ljava/lang/String;"), (1, u "HERTZ"), (0, u "BLANK_MODE"), (6, u "recognises"), (0, u "([B)Z")] 44

def k2c0 : Code := { maxStack := 3, maxLocals := 2, code := prog_11_method_2_code, exceptionTable := #[], attributes := #[] }
def k2m0 : Method := { name := "recognises", desc := "([B)Z", sig := { parameters := [(.array .byte)], returnType := some .boolean }, accessFlags := 8, code := some k2c0 }
/-- com/example/bandmark/bandmark/ReceiverExportReader -/
def k2 : Class := { plain "com/example/bandmark/bandmark/ReceiverExportReader" (some 0) with
  accessFlags := 48
  interfaces := #[]
  cf := some (fileOf pool2 8 #[.nestMembers #[168]] #[{ accessFlags := 8, nameIndex := 322, descriptorIndex := 323, attributes := #[] }] 48 2 #[] #[{ accessFlags := 26, nameIndex := 29, descriptorIndex := 30, attributes := #[] }, { accessFlags := 26, nameIndex := 311, descriptorIndex := 312, attributes := #[] }, { accessFlags := 26, nameIndex := 100, descriptorIndex := 76, attributes := #[] }, { accessFlags := 26, nameIndex := 75, descriptorIndex := 76, attributes := #[] }, { accessFlags := 26, nameIndex := 250, descriptorIndex := 76, attributes := #[] }, { accessFlags := 26, nameIndex := 314, descriptorIndex := 312, attributes := #[] }, { accessFlags := 26, nameIndex := 315, descriptorIndex := 312, attributes := #[] }, { accessFlags := 18, nameIndex := 11, descriptorIndex := 12, attributes := #[] }, { accessFlags := 18, nameIndex := 15, descriptorIndex := 16, attributes := #[] }, { accessFlags := 18, nameIndex := 25, descriptorIndex := 26, attributes := #[] }])
  fields := #[{ name := "SIGNATURE", type := (.array .byte), accessFlags := 26, slot := 0, constantValue := 0 }, { name := "TRACE_WORD", type := (.object "java/lang/String"), accessFlags := 26, slot := 1, constantValue := 0 }, { name := "TRACE_LINE", type := (.object "java/util/regex/Pattern"), accessFlags := 26, slot := 2, constantValue := 0 }, { name := "SCAN_LINE", type := (.object "java/util/regex/Pattern"), accessFlags := 26, slot := 3, constantValue := 0 }, { name := "COUNT", type := (.object "java/util/regex/Pattern"), accessFlags := 26, slot := 4, constantValue := 0 }, { name := "HERTZ", type := (.object "java/lang/String"), accessFlags := 26, slot := 5, constantValue := 0 }, { name := "BLANK_MODE", type := (.object "java/lang/String"), accessFlags := 26, slot := 6, constantValue := 0 }, { name := "file", type := (.object "java/nio/file/Path"), accessFlags := 18, slot := 0, constantValue := 0 }, { name := "lines", type := (.array (.object "java/lang/String")), accessFlags := 18, slot := 1, constantValue := 0 }, { name := "end", type := .int, accessFlags := 18, slot := 2, constantValue := 0 }]
  methods := #[k2m0]
  instanceTypes := #[(.object "java/nio/file/Path"), (.array (.object "java/lang/String")), .int]
  staticTypes := #[(.array .byte), (.object "java/lang/String"), (.object "java/util/regex/Pattern"), (.object "java/util/regex/Pattern"), (.object "java/util/regex/Pattern"), (.object "java/lang/String"), (.object "java/lang/String")]
  resolved := Array.replicate 368 none
  statics := some 0 }

def pool3 : Array CpInfo := pool [(1, u "java/lang/Cloneable"), (0, .class_ 1), (0, u "java/lang/Object"), (0, .class_ 3)] 3

/-- java/lang/Cloneable -/
def k3 : Class := { plain "java/lang/Cloneable" (some 0) with
  accessFlags := 1537
  interfaces := #[]
  cf := some (fileOf pool3 2 #[] #[] 1537 4 #[] #[])
  fields := #[]
  methods := #[]
  instanceTypes := #[]
  staticTypes := #[]
  resolved := Array.replicate 8 none
  statics := none }

def pool4 : Array CpInfo := pool [(1, u "java/io/Serializable"), (0, .class_ 1), (0, u "java/lang/Object"), (0, .class_ 3)] 3

/-- java/io/Serializable -/
def k4 : Class := { plain "java/io/Serializable" (some 0) with
  accessFlags := 1537
  interfaces := #[]
  cf := some (fileOf pool4 2 #[] #[] 1537 4 #[] #[])
  fields := #[]
  methods := #[]
  instanceTypes := #[]
  staticTypes := #[]
  resolved := Array.replicate 8 none
  statics := none }

/-- the primitive byte -/
def k5 : Class := { plain "byte" none with kind := .primitive 'B', accessFlags := 0x411 }
/-- [B -/
def k6 : Class := { plain "[B" (some 0) with kind := .array 5 .byte, interfaces := #[3, 4], accessFlags := 1041 }

/-- the primitive int -/
def k7 : Class := { plain "int" none with kind := .primitive 'I', accessFlags := 0x411 }
/-- [I -/
def k8 : Class := { plain "[I" (some 0) with kind := .array 7 .int, interfaces := #[3, 4], accessFlags := 1041 }

def heap : Heap := #[{ cls := 2, slots := #[.ref 1, .null, .null, .null, .null, .null, .null], vm := .statics 2 },
  { cls := 6, slots := #[.int 84, .int 121, .int 112, .int 101, .int 59], vm := .none }]
def classes : Array Class := #[k0, k1, k2, k3, k4, k5, k6, k7, k8]
def interned : List (Array UInt16 × Addr) := []
def slotsUsed : Nat := 12
def theMethod : MethodId := ⟨1, 1⟩
def args0 : Array Value := #[.int 7, .int 31, .long 5]
def aboutOver (below : List Frame) : State where
  vm := { classes := classes, interned := interned.toArray }
  heap := heap
  slotsUsed := slotsUsed
  threads := #[{ frames := .invoking theMethod args0 :: below }]
def below0 : List Frame := [.native { method := ⟨0, 0⟩, args := #[] }]
def about1 : State := aboutOver below0
def p0 : Program := .bare "" "" ""
def e0 : Env := launch0.env 0 0 0
theorem w_frames : about1.frames = Frame.invoking theMethod args0 :: below0 := rfl
set_option maxRecDepth 65536 in
theorem w_args : argsFit about1.vm theMethod args0 = true := by decide +kernel
set_option maxRecDepth 65536 in
theorem w_heap : heapFits about1 = true := by decide +kernel
set_option maxRecDepth 65536 in
theorem w_runnable : about1.curStatus? = some .runnable := by decide +kernel
set_option maxRecDepth 65536 in
theorem w_alone : about1.alone = true := by decide +kernel
set_option maxRecDepth 65536 in
theorem w_named : about1.methodNamed? x = some theMethod := by decide +kernel
set_option maxRecDepth 65536 in
theorem w_hears : about1.hears theMethod below0 = true := by decide +kernel
set_option maxRecDepth 65536 in
theorem w_ripe : about1.ripe theMethod args0 below0 = true := by decide +kernel
theorem w_running : about1.status = .running := rfl
set_option maxRecDepth 65536 in
theorem w_room : about1.hasRoom e0.platform room_1 = true :=
  launch0.hasRoom_least _ room_1 (by decide +kernel) (by decide +kernel) (by decide +kernel) (by decide +kernel) (by decide +kernel) (by decide +kernel)
theorem allAtoms_all (ts : List Jvm.Cond) (a : Array Jvm.Value) (st : Jvm.State) : (allAtoms ts).before a st = ts.all (fun c => c.before a st) := by
  induction ts with
  | nil => rfl
  | cons c t ih =>
    show (Jvm.Cond.and c (allAtoms t)).before a st = _
    rw [Jvm.Cond.before_and, ih, List.all_cons]
def words1 : List Jvm.Cond := Jvm.Cond.code x code maxLocals ret :: tables_1
/-- a 'code' word, met by the world's own term for the bytes: nothing is compared byte by byte -/
theorem code_word {y : MethodName} {bytes : ByteArray} {mx : Nat} {rt : Option FieldType} {a : Array Value} {s : State} {m : MethodId} {meth : Method} {c : Code} (h1 : s.methodNamed? y = some m) (h2 : s.vm.method? m = some meth) (h3 : meth.code = some c) (h4 : c.code = bytes)
    (h5 : (c.maxLocals == mx && c.exceptionTable.isEmpty && decide (c.maxStack ≤ mostOperands) && decide (meth.sig.returnType = rt) && !meth.locks && decide (parseMethodDescriptor y.desc = some meth.sig)) = true) : (Jvm.Cond.code y bytes mx rt).before a s = true := by
  simp only [Bool.and_eq_true, beq_iff_eq, Bool.not_eq_true', decide_eq_true_eq] at h5
  obtain ⟨⟨⟨⟨⟨g1, g2⟩, g3⟩, g4⟩, g5⟩, g6⟩ := h5
  simp [Cond.before, Cond.holds, Cond.value, h1, h2, h3, h4, g1, g2, g3, g4, g5, g6]
def isCode : Jvm.Cond → Bool
  | .code _ _ _ _ => true
  | _ => false
theorem all_split {L : List Jvm.Cond} {P : Jvm.Cond → Bool} (h1 : L.all (fun c => isCode c || P c) = true) (h2 : ∀ c ∈ L.filter isCode, P c = true) : L.all P = true := by
  refine List.all_eq_true.mpr fun c hc => ?_
  have h := List.all_eq_true.mp h1 c hc
  rcases Bool.eq_false_or_eq_true (isCode c) with hi | hi
  · exact h2 c (List.mem_filter.mpr ⟨hc, hi⟩)
  · simpa [hi] using h
set_option maxRecDepth 65536 in
theorem w_c0 : (Jvm.Cond.code x code maxLocals ret).before args0 about1 = true := code_word (m := ⟨1, 1⟩) (meth := k1m1) (c := k1c1) (by decide +kernel) rfl rfl rfl (by decide +kernel)
set_option maxRecDepth 65536 in
theorem w_c1 : (Jvm.Cond.code ({ cls := "com/example/bandmark/bandmark/ReceiverExportReaderRecognisesPinLaw", name := "pick", desc := "(IIIJ)B" } : Jvm.MethodName) method_3_code (5 : Nat) (Option.some Jvm.ClassFile.FieldType.byte)).before args0 about1 = true := code_word (m := ⟨1, 2⟩) (meth := k1m2) (c := k1c2) (by decide +kernel) rfl rfl rfl (by decide +kernel)
set_option maxRecDepth 65536 in
theorem w_c2 : (Jvm.Cond.code ({ cls := "com/example/bandmark/bandmark/ReceiverExportReaderRecognisesPinLaw", name := "put", desc := "([BIB)V" } : Jvm.MethodName) method_4_code (3 : Nat) (Option.none : Option Jvm.ClassFile.FieldType)).before args0 about1 = true := code_word (m := ⟨1, 3⟩) (meth := k1m3) (c := k1c3) (by decide +kernel) rfl rfl rfl (by decide +kernel)
set_option maxRecDepth 65536 in
theorem w_c3 : (Jvm.Cond.code ({ cls := "com/example/bandmark/bandmark/ReceiverExportReader", name := "recognises", desc := "([B)Z" } : Jvm.MethodName) prog_11_method_2_code (2 : Nat) (Option.some Jvm.ClassFile.FieldType.boolean)).before args0 about1 = true := code_word (m := ⟨2, 0⟩) (meth := k2m0) (c := k2c0) (by decide +kernel) rfl rfl rfl (by decide +kernel)
def codes1 : List Jvm.Cond := [Jvm.Cond.code x code maxLocals ret, Jvm.Cond.code ({ cls := "com/example/bandmark/bandmark/ReceiverExportReaderRecognisesPinLaw", name := "pick", desc := "(IIIJ)B" } : Jvm.MethodName) method_3_code (5 : Nat) (Option.some Jvm.ClassFile.FieldType.byte), Jvm.Cond.code ({ cls := "com/example/bandmark/bandmark/ReceiverExportReaderRecognisesPinLaw", name := "put", desc := "([BIB)V" } : Jvm.MethodName) method_4_code (3 : Nat) (Option.none : Option Jvm.ClassFile.FieldType), Jvm.Cond.code ({ cls := "com/example/bandmark/bandmark/ReceiverExportReader", name := "recognises", desc := "([B)Z" } : Jvm.MethodName) prog_11_method_2_code (2 : Nat) (Option.some Jvm.ClassFile.FieldType.boolean)]
set_option maxRecDepth 65536 in
theorem codes_eq : words1.filter isCode = codes1 := rfl
theorem w_codes : ∀ c ∈ words1.filter isCode, c.before args0 about1 = true := by
  rw [codes_eq]
  intro c hc
  simp only [codes1, List.mem_cons, List.not_mem_nil, or_false] at hc
  rcases hc with rfl | rfl | rfl | rfl
  · exact w_c0
  · exact w_c1
  · exact w_c2
  · exact w_c3
set_option maxRecDepth 65536 in
theorem w_t1 : words1.all (fun c => isCode c || c.before args0 about1) = true := by decide +kernel
theorem w_tables : (allAtoms (Jvm.Cond.code x code maxLocals ret :: tables_1)).before args0 about1 = true := by
  rw [allAtoms_all]
  show words1.all (fun c => c.before args0 about1) = true
  refine all_split ?_ w_codes
  rw [w_t1]
set_option maxRecDepth 65536 in
theorem w_case : (Jvm.Cond.and given_1 narrow_1).before args0 about1 = true := by decide +kernel
theorem w_applies : (headSpec (Jvm.Cond.code x code maxLocals ret :: tables_1) room_1).applies x e0.platform about1 = true :=
  (Spec.applies_iff w_frames).mpr ⟨w_running, w_runnable, w_alone, w_named, w_hears, w_ripe, w_room, w_tables⟩
theorem atStart : AtStart classFile x code maxLocals ret World_1 tables_1 room_1 Calls_1 rest_1 Pre_1 launch0 p0 e0 about1 theMethod args0 below0 :=
  ⟨lists_1, trivial, launch0.admits_env _ _ _, launch0.least_env, fairChoices_fair.cas, fairChoices_fair.clock, w_frames, w_args, w_heap, w_applies, trivial, trivial, w_case⟩
end start1
theorem witness_1 : WitnessClaimed_1 := ⟨start1.p0, start1.e0, start1.about1, start1.theMethod, start1.args0, start1.below0, start1.atStart⟩
end Jvm.Pilot.@@N@@
