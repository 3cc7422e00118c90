import JvmDerived
import JvmDerived.Pilot.@@N@@Statement
import JvmDerived.Pilot.@@N@@Code
set_option linter.unusedVariables false
set_option linter.unusedSimpArgs false
@@BLOCK:NumsL.lean.txt@@
namespace Jvm.RoadKit
open Sem ClassFile Op Lib Jvm.Stand Jvm.Free Jvm.LawKit
section Own
variable {p : Program} {l : Launch} {e : Env} {R : Room} {s : State} {m : MethodId} {args : Array Value} {below : List Frame} {meth : Method} {c : Code} {T : State} {locs : List Loc} {cells slots : Nat}
/-- from t the run ends in a return of which Q holds -/
def OGo (p : Program) (e : Env) (below : List Frame) (s : State) (Q : Option Value → Heap → List Loc → Prop) (C N : Nat) (t : State) : Prop :=
  ∃ s₂ o, Steps p.tables e below t s₂ ∧ s₂.status = .running ∧ Ended s₂ below o ∧ ∃ v L, o = .returned v ∧ Q v s₂.heap L ∧ FrameEnd s o s₂ L C N
theorem OGo.st {Q : Option Value → Heap → List Loc → Prop} {C N : Nat} {t t' : State} (k : ∀ target, Steps p.tables e below t' target → Steps p.tables e below t target) (h : OGo p e below s Q C N t') : OGo p e below s Q C N t := by
  obtain ⟨s₂, o, a, r⟩ := h; exact ⟨s₂, o, k _ a, r⟩
theorem oretW {Q : Option Value → Heap → List Loc → Prop} {C N : Nat} (X : Stand p l e R s m args below meth c T locs cells slots) (hx : p.tables.exec = Jvm.exec) (hlk : meth.locks = false) {pc : Nat} {Ls : Array Slot} {w : Value} {t : FieldType} {i : Instr} {rest : List Value} (hret : meth.sig.returnType = some t) (hn : narrow t w = w)
    (hi : (i = .ireturn ∧ (t = .int ∨ t = .boolean ∨ t = .byte ∨ t = .char ∨ t = .short) ∧ ∃ z, w = .int z) ∨ (i = .lreturn ∧ t = .long ∧ ∃ z, w = .long z) ∨ (i = .dreturn ∧ t = .double ∧ ∃ z, w = .double z) ∨ (i = .freturn ∧ t = .float ∧ ∃ z, w = .float z) ∨ (i = .areturn ∧ t.isReference = true ∧ w.isRef = true))
    (hd : decode c.code pc = .ok (i, 1)) {h : Heap} (hh : T.heap = h) (hq : Q (some w) h locs) (hC : cells ≤ C) (hN : slots ≤ N) : OGo p e below s Q C N (T.setTop (mkF m pc Ls (w :: rest))) := by
  obtain ⟨fs, hr, hrun, hended, hW, hsame⟩ := X.leave (v := some w) (fun h => by rw [hret] at h; cases h) hlk
  exact ⟨_, _, retOut X hx hret hn hi hd hr, hrun, hended, _, _, rfl, hh ▸ hq, ⟨_, rfl⟩, hW, hsame.mono hC hN⟩
theorem oretI {Q : Option Value → Heap → List Loc → Prop} {C N : Nat} (X : Stand p l e R s m args below meth c T locs cells slots) (hx : p.tables.exec = Jvm.exec) (hlk : meth.locks = false) {pc : Nat} {Ls : Array Slot} {z : Int32} {rest : List Value} (hret : meth.sig.returnType = some .int)
    (hd : decode c.code pc = .ok (.ireturn, 1)) {h : Heap} (hh : T.heap = h) (hq : Q (some (.int z)) h locs) (hC : cells ≤ C) (hN : slots ≤ N) : OGo p e below s Q C N (T.setTop (mkF m pc Ls (.int z :: rest))) :=
  oretW X hx hlk hret rfl (Or.inl ⟨rfl, Or.inl rfl, _, rfl⟩) hd hh hq hC hN
theorem oretJ {Q : Option Value → Heap → List Loc → Prop} {C N : Nat} (X : Stand p l e R s m args below meth c T locs cells slots) (hx : p.tables.exec = Jvm.exec) (hlk : meth.locks = false) {pc : Nat} {Ls : Array Slot} {z : Int64} {rest : List Value} (hret : meth.sig.returnType = some .long)
    (hd : decode c.code pc = .ok (.lreturn, 1)) {h : Heap} (hh : T.heap = h) (hq : Q (some (.long z)) h locs) (hC : cells ≤ C) (hN : slots ≤ N) : OGo p e below s Q C N (T.setTop (mkF m pc Ls (.long z :: rest))) :=
  oretW X hx hlk hret rfl (Or.inr (Or.inl ⟨rfl, rfl, _, rfl⟩)) hd hh hq hC hN
theorem onarR {t : FieldType} {w : Value} (ht : t.isReference = true) (hw : w.isRef = true) : narrow t w = w := by
  cases t <;> first | (cases ht; done) | (cases w <;> first | rfl | (cases hw; done))
theorem ofitR {t : FieldType} {w : Value} (ht : t.isReference = true) (hw : w.isRef = true) : fits t w = true := by
  cases t <;> first | (cases ht; done) | (cases w <;> first | rfl | (cases hw; done))
theorem oretA {Q : Option Value → Heap → List Loc → Prop} {C N : Nat} (X : Stand p l e R s m args below meth c T locs cells slots) (hx : p.tables.exec = Jvm.exec) (hlk : meth.locks = false) {pc : Nat} {Ls : Array Slot} {w : Value} {t : FieldType} {rest : List Value} (hret : meth.sig.returnType = some t) (ht : t.isReference = true) (hw : w.isRef = true)
    (hd : decode c.code pc = .ok (.areturn, 1)) {h : Heap} (hh : T.heap = h) (hq : Q (some w) h locs) (hC : cells ≤ C) (hN : slots ≤ N) : OGo p e below s Q C N (T.setTop (mkF m pc Ls (w :: rest))) :=
  oretW X hx hlk hret (onarR ht hw) (Or.inr (Or.inr (Or.inr (Or.inr ⟨rfl, ht, hw⟩)))) hd hh hq hC hN
theorem oretN {Q : Option Value → Heap → List Loc → Prop} {C N : Nat} (X : Stand p l e R s m args below meth c T locs cells slots) (hx : p.tables.exec = Jvm.exec) (hlk : meth.locks = false) {pc : Nat} {Ls : Array Slot} {z z' : Int32} {t : FieldType} {rest : List Value} (hret : meth.sig.returnType = some t) (ht : t = .boolean ∨ t = .byte ∨ t = .char ∨ t = .short)
    (hd : decode c.code pc = .ok (.ireturn, 1)) (hz : nar t z = z') {h : Heap} (hh : T.heap = h) (hq : Q (some (.int z')) h locs) (hC : cells ≤ C) (hN : slots ≤ N) : OGo p e below s Q C N (T.setTop (mkF m pc Ls (.int z :: rest))) := by
  subst hz
  obtain ⟨fs, hr, hrun, hended, hW, hsame⟩ := X.leave (v := some (.int (nar t z))) (fun h => by rw [hret] at h; cases h) hlk
  exact ⟨_, _, retN X hx hret ht hd hr, hrun, hended, _, _, rfl, hh ▸ hq, ⟨_, rfl⟩, hW, hsame.mono hC hN⟩
theorem oret0 {Q : Option Value → Heap → List Loc → Prop} {C N : Nat} (X : Stand p l e R s m args below meth c T locs cells slots) (hx : p.tables.exec = Jvm.exec) (hlk : meth.locks = false) {pc : Nat} {Ls : Array Slot} (hret : meth.sig.returnType = none)
    (hd : decode c.code pc = .ok (.return_, 1)) {h : Heap} (hh : T.heap = h) (hq : Q none h locs) (hC : cells ≤ C) (hN : slots ≤ N) : OGo p e below s Q C N (T.setTop (mkF m pc Ls [])) := by
  obtain ⟨fs, hr, hrun, hended, hW, hsame⟩ := X.leave (v := none) (fun _ => rfl) hlk
  exact ⟨_, _, X.returnOut hx hret hd hr, hrun, hended, _, _, rfl, hh ▸ hq, ⟨_, rfl⟩, hW, hsame.mono hC hN⟩
theorem olrem {tb : Tables} [Ours tb] {target : State} {g : JFrame} (h : At T m c below) (hx : tb.exec = Jvm.exec) (hg : g.method = m) {x y : Int64} {rest : List Value} (hd : decode c.code g.pc = .ok (.lrem, 1)) (hs : g.stack = .long y :: .long x :: rest) (hy : y ≠ 0)
    (hr : Steps tb e below (T.setTop { g with pc := g.pc + 1, stack := .long (x % y) :: rest }) target) : Steps tb e below (T.setTop g) target :=
  XS.lrem h hx hg hd hs hy (by rw [lrem_mod]; exact hr)
theorem olc_lt (x y : Int64) : lcmpW x y < 0 ↔ x < y := by rw [lcW]; exact lc_lt x y
theorem olc_gt (x y : Int64) : 0 < lcmpW x y ↔ y < x := by rw [lcW]; exact lc_gt x y
theorem olc_eq (x y : Int64) : lcmpW x y = 0 ↔ x = y := by rw [lcW]; exact lc_eq x y
theorem onilP {v : Int} : ∀ q ∈ ([] : List (Int × Int)), q.1 ≠ v := fun _ q => nomatch q
theorem oconsP {v a b : Int} {l : List (Int × Int)} (h : a ≠ v) (t : ∀ q ∈ l, q.1 ≠ v) : ∀ q ∈ (a, b) :: l, q.1 ≠ v := fun q hq => (List.mem_cons.mp hq).elim (fun u => by rw [u]; exact h) (t q)
theorem oint_ne {z k : Int32} {K : Int} (h : ¬ z = k) (hk : k.toInt = K) : K ≠ z.toInt := fun q => h (Int32.toInt_inj.mp (by rw [hk, q]))
theorem ofld_eq {Z : State} {t : Term} {C n d : String} {a : Addr} {k : Int32} (h : (Cond.eq (Term.field t C n d) (Term.int k)).value args Z none Z [] = some true) (ev : t.eval args Z none [] Z = some (.ref a)) : Fld Z Z.heap a C n d (.int k) := by
  apply Fld.start
  have q := fld_at (args := args) (first := Z) (o := none) (idx := []) (s := Z) (C := C) (n := n) (dd := d) ev
  simp only [Cond.value, q, Term.int_eval] at h
  cases hv : Z.fieldOf? a C n d with
  | none => simp [hv] at h
  | some v => cases v <;> simp [hv] at h <;> simp [h]
section Imp
variable {E a b : Int32}
theorem oLL (h : E < a) (k : a.toInt ≤ b.toInt) : E < b := by rw [Int32.lt_iff_toInt_lt] at *; omega
theorem oLnG (h : E < a) (k : a.toInt ≤ b.toInt + 1) : ¬ b < E := by rw [Int32.lt_iff_toInt_lt] at *; omega
theorem oLnE (h : E < a) (k : a.toInt ≤ b.toInt) : ¬ E = b := fun q => by subst q; rw [Int32.lt_iff_toInt_lt] at h; omega
theorem oGG (h : a < E) (k : b.toInt ≤ a.toInt) : b < E := by rw [Int32.lt_iff_toInt_lt] at *; omega
theorem oGnL (h : a < E) (k : b.toInt ≤ a.toInt + 1) : ¬ E < b := by rw [Int32.lt_iff_toInt_lt] at *; omega
theorem oGnE (h : a < E) (k : b.toInt ≤ a.toInt) : ¬ E = b := fun q => by subst q; rw [Int32.lt_iff_toInt_lt] at h; omega
theorem onLnL (h : ¬ E < a) (k : b.toInt ≤ a.toInt) : ¬ E < b := by rw [Int32.lt_iff_toInt_lt] at *; omega
theorem onLG (h : ¬ E < a) (k : b.toInt < a.toInt) : b < E := by rw [Int32.lt_iff_toInt_lt] at *; omega
theorem onLnE (h : ¬ E < a) (k : b.toInt < a.toInt) : ¬ E = b := fun q => by subst q; rw [Int32.lt_iff_toInt_lt] at h; omega
theorem onGnG (h : ¬ a < E) (k : a.toInt ≤ b.toInt) : ¬ b < E := by rw [Int32.lt_iff_toInt_lt] at *; omega
theorem onGL (h : ¬ a < E) (k : a.toInt < b.toInt) : E < b := by rw [Int32.lt_iff_toInt_lt] at *; omega
theorem onGnE (h : ¬ a < E) (k : a.toInt < b.toInt) : ¬ E = b := fun q => by subst q; rw [Int32.lt_iff_toInt_lt] at h; omega
end Imp
end Own
end Jvm.RoadKit
namespace Jvm.Pilot.@@N@@
open Jvm Jvm.ClassFile Sem Op Lib Jvm.Free Jvm.Stand Jvm.LawKit Jvm.RoadKit Bundle Jvm.Pilot.@@N@@.Jvm.D

theorem d1_0 : decode method_3_code 0 = .ok (.iload_n 0, 1) := by decide +kernel
theorem d1_1 : decode method_3_code 1 = .ok (.ifCond .lt 10, 3) := by decide +kernel
theorem d1_4 : decode method_3_code 4 = .ok (.iload_n 0, 1) := by decide +kernel
theorem d1_5 : decode method_3_code 5 = .ok (.sipush 255, 3) := by decide +kernel
theorem d1_8 : decode method_3_code 8 = .ok (.if_icmp .le 5, 3) := by decide +kernel
theorem d1_11 : decode method_3_code 11 = .ok (.aconst_null, 1) := by decide +kernel
theorem d1_12 : decode method_3_code 12 = .ok (.areturn, 1) := by decide +kernel
theorem d1_13 : decode method_3_code 13 = .ok (.iload_n 0, 1) := by decide +kernel
theorem d1_14 : decode method_3_code 14 = .ok (.bipush 123, 2) := by decide +kernel
theorem d1_16 : decode method_3_code 16 = .ok (.if_icmp .ne 7, 3) := by decide +kernel
theorem d1_19 : decode method_3_code 19 = .ok (.getstatic 18, 3) := by decide +kernel
theorem d1_22 : decode method_3_code 22 = .ok (.areturn, 1) := by decide +kernel
theorem d1_23 : decode method_3_code 23 = .ok (.iload_n 0, 1) := by decide +kernel
theorem d1_24 : decode method_3_code 24 = .ok (.iconst 5, 1) := by decide +kernel
theorem d1_25 : decode method_3_code 25 = .ok (.ishr, 1) := by decide +kernel
theorem d1_26 : decode method_3_code 26 = .ok (.istore_n 1, 1) := by decide +kernel
theorem d1_27 : decode method_3_code 27 = .ok (.iload_n 1, 1) := by decide +kernel
theorem d1_28 : decode method_3_code 28 = .ok (.iconst 4, 1) := by decide +kernel
theorem d1_29 : decode method_3_code 29 = .ok (.if_icmp .eq 8, 3) := by decide +kernel
theorem d1_32 : decode method_3_code 32 = .ok (.iload_n 1, 1) := by decide +kernel
theorem d1_33 : decode method_3_code 33 = .ok (.iconst 5, 1) := by decide +kernel
theorem d1_34 : decode method_3_code 34 = .ok (.if_icmp .ne 7, 3) := by decide +kernel
theorem d1_37 : decode method_3_code 37 = .ok (.getstatic 22, 3) := by decide +kernel
theorem d1_40 : decode method_3_code 40 = .ok (.areturn, 1) := by decide +kernel
theorem d1_41 : decode method_3_code 41 = .ok (.aconst_null, 1) := by decide +kernel
theorem d1_42 : decode method_3_code 42 = .ok (.areturn, 1) := by decide +kernel
theorem pn_1 : plainName "com/example/sealwright/sealwright/bottle/SerializationOfPinLaw" = true := by first | (simp [plainName, overriddenIn]; done) | decide +kernel
theorem ef_1 (m : MethodId) (p0 : Int32) : entryFrame m #[(.int p0)] 2 = mkF m 0 #[.val (.int p0), .unset] [] := by first | (simp [entryFrame, mkF, argsToLocals, Value.category]; done) | rfl
def f1 (p0 : Int32) (w_JSON : Addr) (w_CBOR : Addr) : Value := (if p0 < (0 : Int32) then (.null : Value) else (if (255 : Int32) < p0 then (.null : Value) else (if p0 = (123 : Int32) then ((.ref w_JSON) : Value) else (if (p0 >>> ((5 : Int32) &&& 31)) = (4 : Int32) then ((.ref w_CBOR) : Value) else (if (p0 >>> ((5 : Int32) &&& 31)) = (5 : Int32) then ((.ref w_CBOR) : Value) else (.null : Value))))))
theorem f1_isRef (p0 : Int32) (w_JSON : Addr) (w_CBOR : Addr) : (f1 p0 w_JSON w_CBOR).isRef = true := by unfold f1; (repeat' split) <;> first | rfl | assumption
def Q1 (Z : State) (p0 : Int32) (w_JSON : Addr) (w_CBOR : Addr) (h0 : Heap) (n0 : Nat) (v : Option Value) (h : Heap) (L : List Loc) : Prop := v = some (f1 p0 w_JSON w_CBOR) ∧ Fr n0 L ∧ h = h0
set_option maxRecDepth 65536 in
set_option maxHeartbeats 40000000 in
theorem rm1 (l : Launch) (Z : State) (a0 : Array Value) (hw : ∀ d ∈ tables_1, d.before a0 Z = true) (ws : List Jvm.Cond) (p0 : Int32) (w_JSON : Addr) (w_CBOR : Addr) (h0 : Heap) (n0 : Nat) (Z0 : n0 ≤ h0.size) (S_JSON : Sta Z h0 "com/example/sealwright/sealwright/bottle/Serialization" "JSON" "Lcom/example/sealwright/sealwright/bottle/Serialization;" (.ref w_JSON)) (S_CBOR : Sta Z h0 "com/example/sealwright/sealwright/bottle/Serialization" "CBOR" "Lcom/example/sealwright/sealwright/bottle/Serialization;" (.ref w_CBOR)) :
    MetFree l (⟨"com/example/sealwright/sealwright/bottle/SerializationOfPinLaw", "reference", "(I)Lcom/example/sealwright/sealwright/bottle/Serialization;"⟩ : MethodName) (head1 (Jvm.Cond.code (⟨"com/example/sealwright/sealwright/bottle/SerializationOfPinLaw", "reference", "(I)Lcom/example/sealwright/sealwright/bottle/Serialization;"⟩ : MethodName) method_3_code 2 (some (.object "com/example/sealwright/sealwright/bottle/Serialization")) :: ws) ({ frames := 0, cells := 0, slots := 0, locals := 0 } : Room)) (fun a U => a = #[(.int p0)] ∧ Z.Warmed39 U.vm ∧ U.heap = h0) (fun _ _ _ _ _ => True) (fun _ U o U' => ∃ v L, o = .returned v ∧ Q1 Z p0 w_JSON w_CBOR h0 n0 v U'.heap L ∧ FrameEnd U o U' L ({ frames := 0, cells := 0, slots := 0, locals := 0 } : Room).cells ({ frames := 0, cells := 0, slots := 0, locals := 0 } : Room).slots) := by
  refine MetFree.of_bodySF (plainFor_of_name pn_1) hisR ?_
  intro p e s m args below meth c s₁ Bd hml0 hP hK
  obtain ⟨rfl, hZ, hh⟩ := hP
  have hx := Bd.exec
  have hby := Bd.bytes
  have hml : c.maxLocals = 2 := hml0
  have hown : s.vm.findClass "com/example/sealwright/sealwright/bottle/SerializationOfPinLaw" = some m.cls := findClass_of_methodNamed Bd.named
  have hnm := (name_of_methodNamed Bd.named Bd.method).1
  have X0 : Stand p l e ({ frames := 0, cells := 0, slots := 0, locals := 0 } : Room) s m #[(.int p0)] below meth c s₁ [] 0 0 := Stand.of_body Bd
  have e0 : s₁.heap = h0 := by rw [← hh, Bd.state]; rfl
  have N0 := Fr.nil n0
  show OGo p e below s (Q1 Z p0 w_JSON w_CBOR h0 n0) ({ frames := 0, cells := 0, slots := 0, locals := 0 } : Room).cells ({ frames := 0, cells := 0, slots := 0, locals := 0 } : Room).slots _
  refine OGo.st (fun _ k => castTop (ef_1 m p0) k) ?_
  show OGo p e below s _ _ _ (s₁.setTop (mkF m 0 #[.val (.int p0), .unset] []))
  refine OGo.st (fun _ k => XS.iloadN X0.here hx rfl (hb hby d1_0) rfl k) ?_
  show OGo p e below s _ _ _ (s₁.setTop (mkF m 1 #[.val (.int p0), .unset] [(.int p0)]))
  by_cases hc1 : p0 < (0 : Int32)
  · refine OGo.st (fun _ k => XS.ifYes X0.here hx rfl (pc0 := 1) (pc' := 11) rfl (hb hby d1_1) rfl ((if0 _ _).trans (tlt hc1).1) (by decide) (by decide) k) ?_
    show OGo p e below s _ _ _ (s₁.setTop (mkF m 11 #[.val (.int p0), .unset] []))
    refine OGo.st (fun _ k => XS.aconstNull X0.here hx rfl (hb hby d1_11) k) ?_
    show OGo p e below s _ _ _ (s₁.setTop (mkF m 12 #[.val (.int p0), .unset] [.null]))
    exact oretA X0 hx Bd.notSynchronized Bd.returns rfl rfl (hb hby d1_12) e0 ⟨(congrArg (fun z => some (z)) (show (.null : Value) = f1 p0 w_JSON w_CBOR from Eq.symm (by unfold f1; exact if_pos hc1))), N0, rfl⟩ (by decide) (by decide)
  · refine OGo.st (fun _ k => XS.ifNo X0.here hx rfl (hb hby d1_1) rfl ((if0 _ _).trans (flt hc1).1) k) ?_
    show OGo p e below s _ _ _ (s₁.setTop (mkF m 4 #[.val (.int p0), .unset] []))
    refine OGo.st (fun _ k => XS.iloadN X0.here hx rfl (hb hby d1_4) rfl k) ?_
    show OGo p e below s _ _ _ (s₁.setTop (mkF m 5 #[.val (.int p0), .unset] [(.int p0)]))
    refine OGo.st (fun _ k => XS.sipush X0.here hx rfl (hb hby d1_5) k) ?_
    show OGo p e below s _ _ _ (s₁.setTop (mkF m 8 #[.val (.int p0), .unset] [(.int (255 : Int32)), (.int p0)]))
    by_cases hc8 : (255 : Int32) < p0
    · refine OGo.st (fun _ k => XS.icmpNo X0.here hx rfl (hb hby d1_8) rfl (tlt hc8).2.2.2 k) ?_
      show OGo p e below s _ _ _ (s₁.setTop (mkF m 11 #[.val (.int p0), .unset] []))
      refine OGo.st (fun _ k => XS.aconstNull X0.here hx rfl (hb hby d1_11) k) ?_
      show OGo p e below s _ _ _ (s₁.setTop (mkF m 12 #[.val (.int p0), .unset] [.null]))
      exact oretA X0 hx Bd.notSynchronized Bd.returns rfl rfl (hb hby d1_12) e0 ⟨(congrArg (fun z => some (z)) (show (.null : Value) = f1 p0 w_JSON w_CBOR from Eq.symm (by unfold f1; exact (if_neg hc1).trans (if_pos hc8)))), N0, rfl⟩ (by decide) (by decide)
    · refine OGo.st (fun _ k => XS.icmpYes X0.here hx rfl (pc0 := 8) (pc' := 13) rfl (hb hby d1_8) rfl (flt hc8).2.2.2 (by decide) (by decide) k) ?_
      show OGo p e below s _ _ _ (s₁.setTop (mkF m 13 #[.val (.int p0), .unset] []))
      refine OGo.st (fun _ k => XS.iloadN X0.here hx rfl (hb hby d1_13) rfl k) ?_
      show OGo p e below s _ _ _ (s₁.setTop (mkF m 14 #[.val (.int p0), .unset] [(.int p0)]))
      refine OGo.st (fun _ k => XS.bipush X0.here hx rfl (hb hby d1_14) k) ?_
      show OGo p e below s _ _ _ (s₁.setTop (mkF m 16 #[.val (.int p0), .unset] [(.int (123 : Int32)), (.int p0)]))
      by_cases hc16 : p0 = (123 : Int32)
      · refine OGo.st (fun _ k => XS.icmpNo X0.here hx rfl (hb hby d1_16) rfl (teq hc16).2 k) ?_
        show OGo p e below s _ _ _ (s₁.setTop (mkF m 19 #[.val (.int p0), .unset] []))
        obtain ⟨T1, X1, e1, st1⟩ := getS2 X0 hx hZ hown (host := "") (Or.inl (hw _ (List.mem_of_getElem? (i := 11) rfl))) Via.refl e0 S_JSON (g := (mkF m 19 #[.val (.int p0), .unset] [])) rfl (hb hby d1_19)
        refine OGo.st st1 ?_
        show OGo p e below s _ _ _ (T1.setTop (mkF m 22 #[.val (.int p0), .unset] [(.ref w_JSON)]))
        exact oretA X1 hx Bd.notSynchronized Bd.returns rfl rfl (hb hby d1_22) e1 ⟨(congrArg (fun z => some (z)) (show ((.ref w_JSON) : Value) = f1 p0 w_JSON w_CBOR from Eq.symm (by unfold f1; exact (if_neg hc1).trans ((if_neg hc8).trans (if_pos hc16))))), N0, rfl⟩ (by decide) (by decide)
      · refine OGo.st (fun _ k => XS.icmpYes X0.here hx rfl (pc0 := 16) (pc' := 23) rfl (hb hby d1_16) rfl (feq hc16).2 (by decide) (by decide) k) ?_
        show OGo p e below s _ _ _ (s₁.setTop (mkF m 23 #[.val (.int p0), .unset] []))
        refine OGo.st (fun _ k => XS.iloadN X0.here hx rfl (hb hby d1_23) rfl k) ?_
        show OGo p e below s _ _ _ (s₁.setTop (mkF m 24 #[.val (.int p0), .unset] [(.int p0)]))
        refine OGo.st (fun _ k => XS.iconst X0.here hx rfl (hb hby d1_24) k) ?_
        show OGo p e below s _ _ _ (s₁.setTop (mkF m 25 #[.val (.int p0), .unset] [(.int (5 : Int32)), (.int p0)]))
        refine OGo.st (fun _ k => XS.ishr X0.here hx rfl (hb hby d1_25) rfl k) ?_
        show OGo p e below s _ _ _ (s₁.setTop (mkF m 26 #[.val (.int p0), .unset] [(.int (p0 >>> ((5 : Int32) &&& 31)))]))
        refine OGo.st (fun _ k => XS.istoreN X0.here hx rfl (hb hby d1_26) rfl (l' := #[.val (.int p0), .val (.int (p0 >>> ((5 : Int32) &&& 31)))]) rfl k) ?_
        show OGo p e below s _ _ _ (s₁.setTop (mkF m 27 #[.val (.int p0), .val (.int (p0 >>> ((5 : Int32) &&& 31)))] []))
        refine OGo.st (fun _ k => XS.iloadN X0.here hx rfl (hb hby d1_27) rfl k) ?_
        show OGo p e below s _ _ _ (s₁.setTop (mkF m 28 #[.val (.int p0), .val (.int (p0 >>> ((5 : Int32) &&& 31)))] [(.int (p0 >>> ((5 : Int32) &&& 31)))]))
        refine OGo.st (fun _ k => XS.iconst X0.here hx rfl (hb hby d1_28) k) ?_
        show OGo p e below s _ _ _ (s₁.setTop (mkF m 29 #[.val (.int p0), .val (.int (p0 >>> ((5 : Int32) &&& 31)))] [(.int (4 : Int32)), (.int (p0 >>> ((5 : Int32) &&& 31)))]))
        by_cases hc29 : (p0 >>> ((5 : Int32) &&& 31)) = (4 : Int32)
        · refine OGo.st (fun _ k => XS.icmpYes X0.here hx rfl (pc0 := 29) (pc' := 37) rfl (hb hby d1_29) rfl (teq hc29).1 (by decide) (by decide) k) ?_
          show OGo p e below s _ _ _ (s₁.setTop (mkF m 37 #[.val (.int p0), .val (.int (p0 >>> ((5 : Int32) &&& 31)))] []))
          obtain ⟨T2, X2, e2, st2⟩ := getS2 X0 hx hZ hown (host := "") (Or.inl (hw _ (List.mem_of_getElem? (i := 8) rfl))) Via.refl e0 S_CBOR (g := (mkF m 37 #[.val (.int p0), .val (.int (p0 >>> ((5 : Int32) &&& 31)))] [])) rfl (hb hby d1_37)
          refine OGo.st st2 ?_
          show OGo p e below s _ _ _ (T2.setTop (mkF m 40 #[.val (.int p0), .val (.int (p0 >>> ((5 : Int32) &&& 31)))] [(.ref w_CBOR)]))
          exact oretA X2 hx Bd.notSynchronized Bd.returns rfl rfl (hb hby d1_40) e2 ⟨(congrArg (fun z => some (z)) (show ((.ref w_CBOR) : Value) = f1 p0 w_JSON w_CBOR from Eq.symm (by unfold f1; exact (if_neg hc1).trans ((if_neg hc8).trans ((if_neg hc16).trans (if_pos hc29)))))), N0, rfl⟩ (by decide) (by decide)
        · refine OGo.st (fun _ k => XS.icmpNo X0.here hx rfl (hb hby d1_29) rfl (feq hc29).1 k) ?_
          show OGo p e below s _ _ _ (s₁.setTop (mkF m 32 #[.val (.int p0), .val (.int (p0 >>> ((5 : Int32) &&& 31)))] []))
          refine OGo.st (fun _ k => XS.iloadN X0.here hx rfl (hb hby d1_32) rfl k) ?_
          show OGo p e below s _ _ _ (s₁.setTop (mkF m 33 #[.val (.int p0), .val (.int (p0 >>> ((5 : Int32) &&& 31)))] [(.int (p0 >>> ((5 : Int32) &&& 31)))]))
          refine OGo.st (fun _ k => XS.iconst X0.here hx rfl (hb hby d1_33) k) ?_
          show OGo p e below s _ _ _ (s₁.setTop (mkF m 34 #[.val (.int p0), .val (.int (p0 >>> ((5 : Int32) &&& 31)))] [(.int (5 : Int32)), (.int (p0 >>> ((5 : Int32) &&& 31)))]))
          by_cases hc34 : (p0 >>> ((5 : Int32) &&& 31)) = (5 : Int32)
          · refine OGo.st (fun _ k => XS.icmpNo X0.here hx rfl (hb hby d1_34) rfl (teq hc34).2 k) ?_
            show OGo p e below s _ _ _ (s₁.setTop (mkF m 37 #[.val (.int p0), .val (.int (p0 >>> ((5 : Int32) &&& 31)))] []))
            obtain ⟨T3, X3, e3, st3⟩ := getS2 X0 hx hZ hown (host := "") (Or.inl (hw _ (List.mem_of_getElem? (i := 8) rfl))) Via.refl e0 S_CBOR (g := (mkF m 37 #[.val (.int p0), .val (.int (p0 >>> ((5 : Int32) &&& 31)))] [])) rfl (hb hby d1_37)
            refine OGo.st st3 ?_
            show OGo p e below s _ _ _ (T3.setTop (mkF m 40 #[.val (.int p0), .val (.int (p0 >>> ((5 : Int32) &&& 31)))] [(.ref w_CBOR)]))
            exact oretA X3 hx Bd.notSynchronized Bd.returns rfl rfl (hb hby d1_40) e3 ⟨(congrArg (fun z => some (z)) (show ((.ref w_CBOR) : Value) = f1 p0 w_JSON w_CBOR from Eq.symm (by unfold f1; exact (if_neg hc1).trans ((if_neg hc8).trans ((if_neg hc16).trans ((if_neg hc29).trans (if_pos hc34))))))), N0, rfl⟩ (by decide) (by decide)
          · refine OGo.st (fun _ k => XS.icmpYes X0.here hx rfl (pc0 := 34) (pc' := 41) rfl (hb hby d1_34) rfl (feq hc34).2 (by decide) (by decide) k) ?_
            show OGo p e below s _ _ _ (s₁.setTop (mkF m 41 #[.val (.int p0), .val (.int (p0 >>> ((5 : Int32) &&& 31)))] []))
            refine OGo.st (fun _ k => XS.aconstNull X0.here hx rfl (hb hby d1_41) k) ?_
            show OGo p e below s _ _ _ (s₁.setTop (mkF m 42 #[.val (.int p0), .val (.int (p0 >>> ((5 : Int32) &&& 31)))] [.null]))
            exact oretA X0 hx Bd.notSynchronized Bd.returns rfl rfl (hb hby d1_42) e0 ⟨(congrArg (fun z => some (z)) (show (.null : Value) = f1 p0 w_JSON w_CBOR from Eq.symm (by unfold f1; exact (if_neg hc1).trans ((if_neg hc8).trans ((if_neg hc16).trans ((if_neg hc29).trans (if_neg hc34))))))), N0, rfl⟩ (by decide) (by decide)
theorem d2_0 : decode prog_1_method_4_code 0 = .ok (.iload_n 0, 1) := by decide +kernel
theorem d2_1 : decode prog_1_method_4_code 1 = .ok (.bipush 123, 2) := by decide +kernel
theorem d2_3 : decode prog_1_method_4_code 3 = .ok (.if_icmp .ne 10, 3) := by decide +kernel
theorem d2_6 : decode prog_1_method_4_code 6 = .ok (.getstatic 7, 3) := by decide +kernel
theorem d2_9 : decode prog_1_method_4_code 9 = .ok (.astore_n 1, 1) := by decide +kernel
theorem d2_10 : decode prog_1_method_4_code 10 = .ok (.goto 26, 3) := by decide +kernel
theorem d2_13 : decode prog_1_method_4_code 13 = .ok (.iload_n 0, 1) := by decide +kernel
theorem d2_14 : decode prog_1_method_4_code 14 = .ok (.sipush 128, 3) := by decide +kernel
theorem d2_17 : decode prog_1_method_4_code 17 = .ok (.if_icmp .lt 17, 3) := by decide +kernel
theorem d2_20 : decode prog_1_method_4_code 20 = .ok (.iload_n 0, 1) := by decide +kernel
theorem d2_21 : decode prog_1_method_4_code 21 = .ok (.sipush 191, 3) := by decide +kernel
theorem d2_24 : decode prog_1_method_4_code 24 = .ok (.if_icmp .gt 10, 3) := by decide +kernel
theorem d2_27 : decode prog_1_method_4_code 27 = .ok (.getstatic 3, 3) := by decide +kernel
theorem d2_30 : decode prog_1_method_4_code 30 = .ok (.astore_n 1, 1) := by decide +kernel
theorem d2_31 : decode prog_1_method_4_code 31 = .ok (.goto 5, 3) := by decide +kernel
theorem d2_34 : decode prog_1_method_4_code 34 = .ok (.aconst_null, 1) := by decide +kernel
theorem d2_35 : decode prog_1_method_4_code 35 = .ok (.astore_n 1, 1) := by decide +kernel
theorem d2_36 : decode prog_1_method_4_code 36 = .ok (.aload_n 1, 1) := by decide +kernel
theorem d2_37 : decode prog_1_method_4_code 37 = .ok (.areturn, 1) := by decide +kernel
theorem pn_2 : plainName "com/example/sealwright/sealwright/bottle/Serialization" = true := by first | (simp [plainName, overriddenIn]; done) | decide +kernel
theorem ef_2 (m : MethodId) (p0 : Int32) : entryFrame m #[(.int p0)] 2 = mkF m 0 #[.val (.int p0), .unset] [] := by first | (simp [entryFrame, mkF, argsToLocals, Value.category]; done) | rfl
def f2 (p0 : Int32) (w_JSON : Addr) (w_CBOR : Addr) : Value := (if p0 = (123 : Int32) then ((.ref w_JSON) : Value) else (if p0 < (128 : Int32) then (.null : Value) else (if (191 : Int32) < p0 then (.null : Value) else ((.ref w_CBOR) : Value))))
theorem f2_isRef (p0 : Int32) (w_JSON : Addr) (w_CBOR : Addr) : (f2 p0 w_JSON w_CBOR).isRef = true := by unfold f2; (repeat' split) <;> first | rfl | assumption
def Q2 (Z : State) (p0 : Int32) (w_JSON : Addr) (w_CBOR : Addr) (h0 : Heap) (n0 : Nat) (v : Option Value) (h : Heap) (L : List Loc) : Prop := v = some (f2 p0 w_JSON w_CBOR) ∧ Fr n0 L ∧ h = h0
set_option maxRecDepth 65536 in
set_option maxHeartbeats 40000000 in
theorem rm2 (l : Launch) (Z : State) (a0 : Array Value) (hw : ∀ d ∈ tables_1, d.before a0 Z = true) (ws : List Jvm.Cond) (p0 : Int32) (w_JSON : Addr) (w_CBOR : Addr) (h0 : Heap) (n0 : Nat) (Z0 : n0 ≤ h0.size) (S_JSON : Sta Z h0 "com/example/sealwright/sealwright/bottle/Serialization" "JSON" "Lcom/example/sealwright/sealwright/bottle/Serialization;" (.ref w_JSON)) (S_CBOR : Sta Z h0 "com/example/sealwright/sealwright/bottle/Serialization" "CBOR" "Lcom/example/sealwright/sealwright/bottle/Serialization;" (.ref w_CBOR)) :
    MetFree l (⟨"com/example/sealwright/sealwright/bottle/Serialization", "of", "(I)Lcom/example/sealwright/sealwright/bottle/Serialization;"⟩ : MethodName) (head1 (Jvm.Cond.code (⟨"com/example/sealwright/sealwright/bottle/Serialization", "of", "(I)Lcom/example/sealwright/sealwright/bottle/Serialization;"⟩ : MethodName) prog_1_method_4_code 2 (some (.object "com/example/sealwright/sealwright/bottle/Serialization")) :: ws) ({ frames := 0, cells := 0, slots := 0, locals := 0 } : Room)) (fun a U => a = #[(.int p0)] ∧ Z.Warmed39 U.vm ∧ U.heap = h0) (fun _ _ _ _ _ => True) (fun _ U o U' => ∃ v L, o = .returned v ∧ Q2 Z p0 w_JSON w_CBOR h0 n0 v U'.heap L ∧ FrameEnd U o U' L ({ frames := 0, cells := 0, slots := 0, locals := 0 } : Room).cells ({ frames := 0, cells := 0, slots := 0, locals := 0 } : Room).slots) := by
  refine MetFree.of_bodySF (plainFor_of_name pn_2) hisR ?_
  intro p e s m args below meth c s₁ Bd hml0 hP hK
  obtain ⟨rfl, hZ, hh⟩ := hP
  have hx := Bd.exec
  have hby := Bd.bytes
  have hml : c.maxLocals = 2 := hml0
  have hown : s.vm.findClass "com/example/sealwright/sealwright/bottle/Serialization" = some m.cls := findClass_of_methodNamed Bd.named
  have hnm := (name_of_methodNamed Bd.named Bd.method).1
  have X0 : Stand p l e ({ frames := 0, cells := 0, slots := 0, locals := 0 } : Room) s m #[(.int p0)] below meth c s₁ [] 0 0 := Stand.of_body Bd
  have e0 : s₁.heap = h0 := by rw [← hh, Bd.state]; rfl
  have N0 := Fr.nil n0
  show OGo p e below s (Q2 Z p0 w_JSON w_CBOR h0 n0) ({ frames := 0, cells := 0, slots := 0, locals := 0 } : Room).cells ({ frames := 0, cells := 0, slots := 0, locals := 0 } : Room).slots _
  refine OGo.st (fun _ k => castTop (ef_2 m p0) k) ?_
  show OGo p e below s _ _ _ (s₁.setTop (mkF m 0 #[.val (.int p0), .unset] []))
  refine OGo.st (fun _ k => XS.iloadN X0.here hx rfl (hb hby d2_0) rfl k) ?_
  show OGo p e below s _ _ _ (s₁.setTop (mkF m 1 #[.val (.int p0), .unset] [(.int p0)]))
  refine OGo.st (fun _ k => XS.bipush X0.here hx rfl (hb hby d2_1) k) ?_
  show OGo p e below s _ _ _ (s₁.setTop (mkF m 3 #[.val (.int p0), .unset] [(.int (123 : Int32)), (.int p0)]))
  by_cases hc3 : p0 = (123 : Int32)
  · refine OGo.st (fun _ k => XS.icmpNo X0.here hx rfl (hb hby d2_3) rfl (teq hc3).2 k) ?_
    show OGo p e below s _ _ _ (s₁.setTop (mkF m 6 #[.val (.int p0), .unset] []))
    obtain ⟨T1, X1, e1, st1⟩ := getS2 X0 hx hZ hown (host := "") (Or.inl (hw _ (List.mem_of_getElem? (i := 13) rfl))) Via.refl e0 S_JSON (g := (mkF m 6 #[.val (.int p0), .unset] [])) rfl (hb hby d2_6)
    refine OGo.st st1 ?_
    show OGo p e below s _ _ _ (T1.setTop (mkF m 9 #[.val (.int p0), .unset] [(.ref w_JSON)]))
    refine OGo.st (fun _ k => XS.astoreN X1.here hx rfl (hb hby d2_9) rfl rfl (l' := #[.val (.int p0), .val (.ref w_JSON)]) rfl k) ?_
    show OGo p e below s _ _ _ (T1.setTop (mkF m 10 #[.val (.int p0), .val (.ref w_JSON)] []))
    refine OGo.st (fun _ k => XS.goto X1.here hx rfl (pc0 := 10) (pc' := 36) rfl (hb hby d2_10) (by decide) (by decide) k) ?_
    show OGo p e below s _ _ _ (T1.setTop (mkF m 36 #[.val (.int p0), .val (.ref w_JSON)] []))
    refine OGo.st (fun _ k => XS.aloadN X1.here hx rfl (hb hby d2_36) rfl rfl k) ?_
    show OGo p e below s _ _ _ (T1.setTop (mkF m 37 #[.val (.int p0), .val (.ref w_JSON)] [(.ref w_JSON)]))
    exact oretA X1 hx Bd.notSynchronized Bd.returns rfl rfl (hb hby d2_37) e1 ⟨(congrArg (fun z => some (z)) (show ((.ref w_JSON) : Value) = f2 p0 w_JSON w_CBOR from Eq.symm (by unfold f2; exact if_pos hc3))), N0, rfl⟩ (by decide) (by decide)
  · refine OGo.st (fun _ k => XS.icmpYes X0.here hx rfl (pc0 := 3) (pc' := 13) rfl (hb hby d2_3) rfl (feq hc3).2 (by decide) (by decide) k) ?_
    show OGo p e below s _ _ _ (s₁.setTop (mkF m 13 #[.val (.int p0), .unset] []))
    refine OGo.st (fun _ k => XS.iloadN X0.here hx rfl (hb hby d2_13) rfl k) ?_
    show OGo p e below s _ _ _ (s₁.setTop (mkF m 14 #[.val (.int p0), .unset] [(.int p0)]))
    refine OGo.st (fun _ k => XS.sipush X0.here hx rfl (hb hby d2_14) k) ?_
    show OGo p e below s _ _ _ (s₁.setTop (mkF m 17 #[.val (.int p0), .unset] [(.int (128 : Int32)), (.int p0)]))
    by_cases hc17 : p0 < (128 : Int32)
    · refine OGo.st (fun _ k => XS.icmpYes X0.here hx rfl (pc0 := 17) (pc' := 34) rfl (hb hby d2_17) rfl (tlt hc17).1 (by decide) (by decide) k) ?_
      show OGo p e below s _ _ _ (s₁.setTop (mkF m 34 #[.val (.int p0), .unset] []))
      refine OGo.st (fun _ k => XS.aconstNull X0.here hx rfl (hb hby d2_34) k) ?_
      show OGo p e below s _ _ _ (s₁.setTop (mkF m 35 #[.val (.int p0), .unset] [.null]))
      refine OGo.st (fun _ k => XS.astoreN X0.here hx rfl (hb hby d2_35) rfl rfl (l' := #[.val (.int p0), .val .null]) rfl k) ?_
      show OGo p e below s _ _ _ (s₁.setTop (mkF m 36 #[.val (.int p0), .val .null] []))
      refine OGo.st (fun _ k => XS.aloadN X0.here hx rfl (hb hby d2_36) rfl rfl k) ?_
      show OGo p e below s _ _ _ (s₁.setTop (mkF m 37 #[.val (.int p0), .val .null] [.null]))
      exact oretA X0 hx Bd.notSynchronized Bd.returns rfl rfl (hb hby d2_37) e0 ⟨(congrArg (fun z => some (z)) (show (.null : Value) = f2 p0 w_JSON w_CBOR from Eq.symm (by unfold f2; exact (if_neg hc3).trans (if_pos hc17)))), N0, rfl⟩ (by decide) (by decide)
    · refine OGo.st (fun _ k => XS.icmpNo X0.here hx rfl (hb hby d2_17) rfl (flt hc17).1 k) ?_
      show OGo p e below s _ _ _ (s₁.setTop (mkF m 20 #[.val (.int p0), .unset] []))
      refine OGo.st (fun _ k => XS.iloadN X0.here hx rfl (hb hby d2_20) rfl k) ?_
      show OGo p e below s _ _ _ (s₁.setTop (mkF m 21 #[.val (.int p0), .unset] [(.int p0)]))
      refine OGo.st (fun _ k => XS.sipush X0.here hx rfl (hb hby d2_21) k) ?_
      show OGo p e below s _ _ _ (s₁.setTop (mkF m 24 #[.val (.int p0), .unset] [(.int (191 : Int32)), (.int p0)]))
      by_cases hc24 : (191 : Int32) < p0
      · refine OGo.st (fun _ k => XS.icmpYes X0.here hx rfl (pc0 := 24) (pc' := 34) rfl (hb hby d2_24) rfl (tlt hc24).2.2.1 (by decide) (by decide) k) ?_
        show OGo p e below s _ _ _ (s₁.setTop (mkF m 34 #[.val (.int p0), .unset] []))
        refine OGo.st (fun _ k => XS.aconstNull X0.here hx rfl (hb hby d2_34) k) ?_
        show OGo p e below s _ _ _ (s₁.setTop (mkF m 35 #[.val (.int p0), .unset] [.null]))
        refine OGo.st (fun _ k => XS.astoreN X0.here hx rfl (hb hby d2_35) rfl rfl (l' := #[.val (.int p0), .val .null]) rfl k) ?_
        show OGo p e below s _ _ _ (s₁.setTop (mkF m 36 #[.val (.int p0), .val .null] []))
        refine OGo.st (fun _ k => XS.aloadN X0.here hx rfl (hb hby d2_36) rfl rfl k) ?_
        show OGo p e below s _ _ _ (s₁.setTop (mkF m 37 #[.val (.int p0), .val .null] [.null]))
        exact oretA X0 hx Bd.notSynchronized Bd.returns rfl rfl (hb hby d2_37) e0 ⟨(congrArg (fun z => some (z)) (show (.null : Value) = f2 p0 w_JSON w_CBOR from Eq.symm (by unfold f2; exact (if_neg hc3).trans ((if_neg hc17).trans (if_pos hc24))))), N0, rfl⟩ (by decide) (by decide)
      · refine OGo.st (fun _ k => XS.icmpNo X0.here hx rfl (hb hby d2_24) rfl (flt hc24).2.2.1 k) ?_
        show OGo p e below s _ _ _ (s₁.setTop (mkF m 27 #[.val (.int p0), .unset] []))
        obtain ⟨T2, X2, e2, st2⟩ := getS2 X0 hx hZ hown (host := "") (Or.inl (hw _ (List.mem_of_getElem? (i := 10) rfl))) Via.refl e0 S_CBOR (g := (mkF m 27 #[.val (.int p0), .unset] [])) rfl (hb hby d2_27)
        refine OGo.st st2 ?_
        show OGo p e below s _ _ _ (T2.setTop (mkF m 30 #[.val (.int p0), .unset] [(.ref w_CBOR)]))
        refine OGo.st (fun _ k => XS.astoreN X2.here hx rfl (hb hby d2_30) rfl rfl (l' := #[.val (.int p0), .val (.ref w_CBOR)]) rfl k) ?_
        show OGo p e below s _ _ _ (T2.setTop (mkF m 31 #[.val (.int p0), .val (.ref w_CBOR)] []))
        refine OGo.st (fun _ k => XS.goto X2.here hx rfl (pc0 := 31) (pc' := 36) rfl (hb hby d2_31) (by decide) (by decide) k) ?_
        show OGo p e below s _ _ _ (T2.setTop (mkF m 36 #[.val (.int p0), .val (.ref w_CBOR)] []))
        refine OGo.st (fun _ k => XS.aloadN X2.here hx rfl (hb hby d2_36) rfl rfl k) ?_
        show OGo p e below s _ _ _ (T2.setTop (mkF m 37 #[.val (.int p0), .val (.ref w_CBOR)] [(.ref w_CBOR)]))
        exact oretA X2 hx Bd.notSynchronized Bd.returns rfl rfl (hb hby d2_37) e2 ⟨(congrArg (fun z => some (z)) (show ((.ref w_CBOR) : Value) = f2 p0 w_JSON w_CBOR from Eq.symm (by unfold f2; exact (if_neg hc3).trans ((if_neg hc17).trans (if_neg hc24))))), N0, rfl⟩ (by decide) (by decide)
theorem pn_0 : plainName "com/example/sealwright/sealwright/bottle/SerializationOfPinLaw" = true := by first | (simp [plainName, overriddenIn]; done) | decide +kernel
theorem pd_0_0 : parseMethodDescriptor "(I)Lcom/example/sealwright/sealwright/bottle/Serialization;" = some ⟨[.int], some (.object "com/example/sealwright/sealwright/bottle/Serialization")⟩ := by decide +kernel
theorem ef_0 (m : MethodId) (p0 : Int32) (p1 : Int32) : entryFrame m #[(.int p0), (.int p1)] maxLocals = mkF m 0 #[.val (.int p0), .val (.int p1), .unset, .unset] [] := by first | (simp [entryFrame, mkF, argsToLocals, Value.category, maxLocals]; done) | rfl
def f0_17 (p0 : Int32) (p1 : Int32) (w_JSON : Addr) (w_CBOR : Addr) (j17_0 : Int32) : Int32 := (if ((f2 j17_0 w_JSON w_CBOR) : Value) = ((f1 j17_0 w_JSON w_CBOR) : Value) then (1 : Int32) else (0 : Int32))
def f0 (p0 : Int32) (p1 : Int32) (w_JSON : Addr) (w_CBOR : Addr) : Int32 := (if (p1 &&& (1 : Int32)) = (0 : Int32) then (f0_17 p0 p1 w_JSON w_CBOR ((p0 &&& (511 : Int32)) - (1 : Int32))) else (f0_17 p0 p1 w_JSON w_CBOR p0))
def Q0 (Z : State) (p0 : Int32) (p1 : Int32) (w_JSON : Addr) (w_CBOR : Addr) (h0 : Heap) (n0 : Nat) (v : Option Value) (h : Heap) (L : List Loc) : Prop := v = some (.int (f0 p0 p1 w_JSON w_CBOR)) ∧ Fr n0 L
set_option maxRecDepth 65536 in
set_option maxHeartbeats 40000000 in
theorem rm0 (l : Launch) (Z : State) (a0 : Array Value) (hw : ∀ d ∈ tables_1, d.before a0 Z = true) (ws : List Jvm.Cond) (p0 : Int32) (p1 : Int32) (w_JSON : Addr) (w_CBOR : Addr) (h0 : Heap) (n0 : Nat) (Z0 : n0 ≤ h0.size) (S_JSON : Sta Z h0 "com/example/sealwright/sealwright/bottle/Serialization" "JSON" "Lcom/example/sealwright/sealwright/bottle/Serialization;" (.ref w_JSON)) (S_CBOR : Sta Z h0 "com/example/sealwright/sealwright/bottle/Serialization" "CBOR" "Lcom/example/sealwright/sealwright/bottle/Serialization;" (.ref w_CBOR)) :
    MetFree l x (head1 (Jvm.Cond.code x code maxLocals ret :: ws) room_1) (fun a U => a = #[(.int p0), (.int p1)] ∧ Z.Warmed39 U.vm ∧ U.heap = h0) (fun _ _ _ _ _ => True) (fun _ U o U' => ∃ v L, o = .returned v ∧ Q0 Z p0 p1 w_JSON w_CBOR h0 n0 v U'.heap L ∧ FrameEnd U o U' L room_1.cells room_1.slots) := by
  refine MetFree.of_bodySF (plainFor_of_name pn_0) hisR ?_
  intro p e s m args below meth c s₁ Bd hml0 hP hK
  obtain ⟨rfl, hZ, hh⟩ := hP
  have hx := Bd.exec
  have hby := Bd.bytes
  have hml : c.maxLocals = 4 := hml0
  have hown : s.vm.findClass "com/example/sealwright/sealwright/bottle/SerializationOfPinLaw" = some m.cls := findClass_of_methodNamed Bd.named
  have hnm := (name_of_methodNamed Bd.named Bd.method).1
  have X0 : Stand p l e room_1 s m #[(.int p0), (.int p1)] below meth c s₁ [] 0 0 := Stand.of_body Bd
  have e0 : s₁.heap = h0 := by rw [← hh, Bd.state]; rfl
  have N0 := Fr.nil n0
  show OGo p e below s (Q0 Z p0 p1 w_JSON w_CBOR h0 n0) room_1.cells room_1.slots _
  refine OGo.st (fun _ k => castTop (ef_0 m p0 p1) k) ?_
  show OGo p e below s _ _ _ (s₁.setTop (mkF m 0 #[.val (.int p0), .val (.int p1), .unset, .unset] []))
  refine OGo.st (fun _ k => XS.iloadN X0.here hx rfl (hb hby at_0) rfl k) ?_
  show OGo p e below s _ _ _ (s₁.setTop (mkF m 1 #[.val (.int p0), .val (.int p1), .unset, .unset] [(.int p1)]))
  refine OGo.st (fun _ k => XS.iconst X0.here hx rfl (hb hby at_1) k) ?_
  show OGo p e below s _ _ _ (s₁.setTop (mkF m 2 #[.val (.int p0), .val (.int p1), .unset, .unset] [(.int (1 : Int32)), (.int p1)]))
  refine OGo.st (fun _ k => XS.iand X0.here hx rfl (hb hby at_2) rfl k) ?_
  show OGo p e below s _ _ _ (s₁.setTop (mkF m 3 #[.val (.int p0), .val (.int p1), .unset, .unset] [(.int (p1 &&& (1 : Int32)))]))
  have hj17 : ∀ (j17_0 : Int32) (hf17_0 : f0 p0 p1 w_JSON w_CBOR = f0_17 p0 p1 w_JSON w_CBOR j17_0), OGo p e below s (Q0 Z p0 p1 w_JSON w_CBOR h0 n0) room_1.cells room_1.slots (s₁.setTop (mkF m 17 #[.val (.int p0), .val (.int p1), .unset, .unset] [(.int j17_0)])) := by
    intro j17_0 hf17_0
    refine OGo.st (fun _ k => XS.istoreN X0.here hx rfl (hb hby at_17) rfl (l' := #[.val (.int p0), .val (.int p1), .val (.int j17_0), .unset]) rfl k) ?_
    show OGo p e below s _ _ _ (s₁.setTop (mkF m 18 #[.val (.int p0), .val (.int p1), .val (.int j17_0), .unset] []))
    refine OGo.st (fun _ k => XS.iloadN X0.here hx rfl (hb hby at_18) rfl k) ?_
    show OGo p e below s _ _ _ (s₁.setTop (mkF m 19 #[.val (.int p0), .val (.int p1), .val (.int j17_0), .unset] [(.int j17_0)]))
    obtain ⟨_, _, ⟨T2, L2, k2, n2⟩, -, X2, ⟨Lc2, hQ2, l2, y2, z2⟩, st2⟩ := Jvm.LawKit.callS X0 hx (y := (⟨"com/example/sealwright/sealwright/bottle/SerializationOfPinLaw", "reference", "(I)Lcom/example/sealwright/sealwright/bottle/Serialization;"⟩ : MethodName)) hown (mvT hZ (hw _ (List.mem_of_getElem? (i := 0) rfl))) (mvT hZ (hw _ (List.mem_of_getElem? (i := 1) rfl))) (mvT hZ (hw _ (List.mem_of_getElem? (i := 2) rfl))) (mvT hZ (hw _ (List.mem_of_getElem? (i := 3) rfl))) (by decide) (backOf (W := 0) (rm1 l Z a0 hw [] j17_0 w_JSON w_CBOR h0 n0 Z0 S_JSON S_CBOR) hZ (hw _ (List.mem_of_getElem? (i := 3) rfl)) (hw _ (List.mem_of_getElem? (i := 2) rfl)) (by decide) (by decide)) (g := (mkF m 19 #[.val (.int p0), .val (.int p1), .val (.int j17_0), .unset] [(.int j17_0)])) rfl (by rw [hml]; rfl) (argsL := [(.int j17_0)]) (rest := []) (lenOf pd_0_0 rfl) rfl (by show 2 * 0 + _ ≤ _; exact Nat.le_of_eq rfl) (hb hby at_19) (fun _ _ => ⟨rfl, e0, (by decide : 0 + 0 ≤ _), (by decide : 0 + 0 ≤ _)⟩)
    dsimp only [Pt.U, Pt.locs, Pt.cells, Pt.slots] at X2 l2 y2 z2 st2 hQ2
    subst l2 y2 z2
    obtain ⟨rfl, N2q, e2⟩ := hQ2
    have N2 := Fr.app N0 N2q
    refine OGo.st st2 ?_
    show OGo p e below s _ _ _ (T2.setTop (mkF m 22 #[.val (.int p0), .val (.int p1), .val (.int j17_0), .unset] [(f1 j17_0 w_JSON w_CBOR)]))
    refine OGo.st (fun _ k => XS.astoreN X2.here hx rfl (hb hby at_22) rfl (f1_isRef j17_0 w_JSON w_CBOR) (l' := #[.val (.int p0), .val (.int p1), .val (.int j17_0), .val (f1 j17_0 w_JSON w_CBOR)]) (by rcases ref_cases (f1_isRef j17_0 w_JSON w_CBOR) with q | ⟨_, q⟩ <;> rw [q] <;> rfl) k) ?_
    show OGo p e below s _ _ _ (T2.setTop (mkF m 23 #[.val (.int p0), .val (.int p1), .val (.int j17_0), .val (f1 j17_0 w_JSON w_CBOR)] []))
    refine OGo.st (fun _ k => XS.iloadN X2.here hx rfl (hb hby at_23) rfl k) ?_
    show OGo p e below s _ _ _ (T2.setTop (mkF m 24 #[.val (.int p0), .val (.int p1), .val (.int j17_0), .val (f1 j17_0 w_JSON w_CBOR)] [(.int j17_0)]))
    obtain ⟨_, _, ⟨T3, L3, k3, n3⟩, -, X3, ⟨Lc3, hQ3, l3, y3, z3⟩, st3⟩ := Jvm.LawKit.callS X2 hx (y := (⟨"com/example/sealwright/sealwright/bottle/Serialization", "of", "(I)Lcom/example/sealwright/sealwright/bottle/Serialization;"⟩ : MethodName)) hown (mvT hZ (hw _ (List.mem_of_getElem? (i := 4) rfl))) (mvT hZ (hw _ (List.mem_of_getElem? (i := 5) rfl))) (mvT hZ (hw _ (List.mem_of_getElem? (i := 6) rfl))) (mvT hZ (hw _ (List.mem_of_getElem? (i := 7) rfl))) (by decide) (backOf (W := 0) (rm2 l Z a0 hw [] j17_0 w_JSON w_CBOR h0 n0 Z0 S_JSON S_CBOR) hZ (hw _ (List.mem_of_getElem? (i := 7) rfl)) (hw _ (List.mem_of_getElem? (i := 6) rfl)) (by decide) (by decide)) (g := (mkF m 24 #[.val (.int p0), .val (.int p1), .val (.int j17_0), .val (f1 j17_0 w_JSON w_CBOR)] [(.int j17_0)])) rfl (by rw [hml]; rfl) (argsL := [(.int j17_0)]) (rest := []) (lenOf pd_0_0 rfl) rfl (by show 2 * 0 + _ ≤ _; exact Nat.le_of_eq rfl) (hb hby at_24) (fun _ _ => ⟨rfl, e2, (by decide : 0 + 0 ≤ _), (by decide : 0 + 0 ≤ _)⟩)
    dsimp only [Pt.U, Pt.locs, Pt.cells, Pt.slots] at X3 l3 y3 z3 st3 hQ3
    subst l3 y3 z3
    obtain ⟨rfl, N3q, e3⟩ := hQ3
    have N3 := Fr.app N2 N3q
    refine OGo.st st3 ?_
    show OGo p e below s _ _ _ (T3.setTop (mkF m 27 #[.val (.int p0), .val (.int p1), .val (.int j17_0), .val (f1 j17_0 w_JSON w_CBOR)] [(f2 j17_0 w_JSON w_CBOR)]))
    refine OGo.st (fun _ k => XS.aloadN X3.here hx rfl (hb hby at_27) rfl (f1_isRef j17_0 w_JSON w_CBOR) k) ?_
    show OGo p e below s _ _ _ (T3.setTop (mkF m 28 #[.val (.int p0), .val (.int p1), .val (.int j17_0), .val (f1 j17_0 w_JSON w_CBOR)] [(f1 j17_0 w_JSON w_CBOR), (f2 j17_0 w_JSON w_CBOR)]))
    by_cases hc28 : ((f2 j17_0 w_JSON w_CBOR) : Value) = ((f1 j17_0 w_JSON w_CBOR) : Value)
    · refine OGo.st (fun _ k => Jvm.RoadKit.acmp (g := (mkF m 28 #[.val (.int p0), .val (.int p1), .val (.int j17_0), .val (f1 j17_0 w_JSON w_CBOR)] [(f1 j17_0 w_JSON w_CBOR), (f2 j17_0 w_JSON w_CBOR)])) X3 hx rfl (f2_isRef j17_0 w_JSON w_CBOR) (f1_isRef j17_0 w_JSON w_CBOR) (pc0 := 28) (pc' := 31) (same := true) rfl (hb hby at_28) rfl (decide_eq_true hc28) (by decide) (by decide) k) ?_
      show OGo p e below s _ _ _ (T3.setTop (mkF m 31 #[.val (.int p0), .val (.int p1), .val (.int j17_0), .val (f1 j17_0 w_JSON w_CBOR)] []))
      refine OGo.st (fun _ k => XS.iconst X3.here hx rfl (hb hby at_31) k) ?_
      show OGo p e below s _ _ _ (T3.setTop (mkF m 32 #[.val (.int p0), .val (.int p1), .val (.int j17_0), .val (f1 j17_0 w_JSON w_CBOR)] [(.int (1 : Int32))]))
      refine OGo.st (fun _ k => XS.goto X3.here hx rfl (pc0 := 32) (pc' := 36) rfl (hb hby at_32) (by decide) (by decide) k) ?_
      show OGo p e below s _ _ _ (T3.setTop (mkF m 36 #[.val (.int p0), .val (.int p1), .val (.int j17_0), .val (f1 j17_0 w_JSON w_CBOR)] [(.int (1 : Int32))]))
      exact oretN X3 hx Bd.notSynchronized (t := .boolean) Bd.returns (by simp) (hb hby at_36) (z' := (1 : Int32)) (by decide) e3 ⟨(congrArg (fun z => some (Value.int z)) (show (1 : Int32) = f0 p0 p1 w_JSON w_CBOR from Eq.symm (hf17_0.trans (by unfold f0_17; exact if_pos hc28)))), N3⟩ (by decide) (by decide)
    · refine OGo.st (fun _ k => Jvm.RoadKit.acmp (g := (mkF m 28 #[.val (.int p0), .val (.int p1), .val (.int j17_0), .val (f1 j17_0 w_JSON w_CBOR)] [(f1 j17_0 w_JSON w_CBOR), (f2 j17_0 w_JSON w_CBOR)])) X3 hx rfl (f2_isRef j17_0 w_JSON w_CBOR) (f1_isRef j17_0 w_JSON w_CBOR) (pc0 := 28) (pc' := 35) (same := false) rfl (hb hby at_28) rfl (decide_eq_false hc28) (by decide) (by decide) k) ?_
      show OGo p e below s _ _ _ (T3.setTop (mkF m 35 #[.val (.int p0), .val (.int p1), .val (.int j17_0), .val (f1 j17_0 w_JSON w_CBOR)] []))
      refine OGo.st (fun _ k => XS.iconst X3.here hx rfl (hb hby at_35) k) ?_
      show OGo p e below s _ _ _ (T3.setTop (mkF m 36 #[.val (.int p0), .val (.int p1), .val (.int j17_0), .val (f1 j17_0 w_JSON w_CBOR)] [(.int (0 : Int32))]))
      exact oretN X3 hx Bd.notSynchronized (t := .boolean) Bd.returns (by simp) (hb hby at_36) (z' := (0 : Int32)) (by decide) e3 ⟨(congrArg (fun z => some (Value.int z)) (show (0 : Int32) = f0 p0 p1 w_JSON w_CBOR from Eq.symm (hf17_0.trans (by unfold f0_17; exact if_neg hc28)))), N3⟩ (by decide) (by decide)
  by_cases hc3 : (p1 &&& (1 : Int32)) = (0 : Int32)
  · refine OGo.st (fun _ k => XS.ifYes X0.here hx rfl (pc0 := 3) (pc' := 10) rfl (hb hby at_3) rfl ((if0 _ _).trans (teq hc3).1) (by decide) (by decide) k) ?_
    show OGo p e below s _ _ _ (s₁.setTop (mkF m 10 #[.val (.int p0), .val (.int p1), .unset, .unset] []))
    refine OGo.st (fun _ k => XS.iloadN X0.here hx rfl (hb hby at_10) rfl k) ?_
    show OGo p e below s _ _ _ (s₁.setTop (mkF m 11 #[.val (.int p0), .val (.int p1), .unset, .unset] [(.int p0)]))
    refine OGo.st (fun _ k => XS.sipush X0.here hx rfl (hb hby at_11) k) ?_
    show OGo p e below s _ _ _ (s₁.setTop (mkF m 14 #[.val (.int p0), .val (.int p1), .unset, .unset] [(.int (511 : Int32)), (.int p0)]))
    refine OGo.st (fun _ k => XS.iand X0.here hx rfl (hb hby at_14) rfl k) ?_
    show OGo p e below s _ _ _ (s₁.setTop (mkF m 15 #[.val (.int p0), .val (.int p1), .unset, .unset] [(.int (p0 &&& (511 : Int32)))]))
    refine OGo.st (fun _ k => XS.iconst X0.here hx rfl (hb hby at_15) k) ?_
    show OGo p e below s _ _ _ (s₁.setTop (mkF m 16 #[.val (.int p0), .val (.int p1), .unset, .unset] [(.int (1 : Int32)), (.int (p0 &&& (511 : Int32)))]))
    refine OGo.st (fun _ k => XS.isub X0.here hx rfl (hb hby at_16) rfl k) ?_
    show OGo p e below s _ _ _ (s₁.setTop (mkF m 17 #[.val (.int p0), .val (.int p1), .unset, .unset] [(.int ((p0 &&& (511 : Int32)) - (1 : Int32)))]))
    exact hj17 ((p0 &&& (511 : Int32)) - (1 : Int32)) (by unfold f0; exact if_pos hc3)
  · refine OGo.st (fun _ k => XS.ifNo X0.here hx rfl (hb hby at_3) rfl ((if0 _ _).trans (feq hc3).1) k) ?_
    show OGo p e below s _ _ _ (s₁.setTop (mkF m 6 #[.val (.int p0), .val (.int p1), .unset, .unset] []))
    refine OGo.st (fun _ k => XS.iloadN X0.here hx rfl (hb hby at_6) rfl k) ?_
    show OGo p e below s _ _ _ (s₁.setTop (mkF m 7 #[.val (.int p0), .val (.int p1), .unset, .unset] [(.int p0)]))
    refine OGo.st (fun _ k => XS.goto X0.here hx rfl (pc0 := 7) (pc' := 17) rfl (hb hby at_7) (by decide) (by decide) k) ?_
    show OGo p e below s _ _ _ (s₁.setTop (mkF m 17 #[.val (.int p0), .val (.int p1), .unset, .unset] [(.int p0)]))
    exact hj17 p0 (by unfold f0; exact if_neg hc3)
theorem own_eq (p : Int32) (a b : Addr) : f2 p a b = f1 p a b := by
  have e : (p >>> ((5 : Int32) &&& 31)).toInt = p.toInt / 2 ^ 5 := Jvm.Kit.i32_shr _ _ (by decide)
  have k0 : (0 : Int32).toInt = 0 := by decide
  have k255 : (255 : Int32).toInt = 255 := by decide
  have k123 : (123 : Int32).toInt = 123 := by decide
  have k4 : (4 : Int32).toInt = 4 := by decide
  have k5 : (5 : Int32).toInt = 5 := by decide
  have k128 : (128 : Int32).toInt = 128 := by decide
  have k191 : (191 : Int32).toInt = 191 := by decide
  unfold f1 f2
  simp only [Int32.lt_iff_toInt_lt, ← Int32.toInt_inj, e, k0, k255, k123, k4, k5, k128, k191]
  generalize p.toInt = z
  by_cases h1 : z = 123
  · subst h1; simp
  · rw [if_neg h1]
    by_cases h2 : z < 128
    · rw [if_pos h2]
      by_cases h3 : z < 0
      · rw [if_pos h3]
      · rw [if_neg h3, if_neg (by omega), if_neg h1, if_neg (by omega), if_neg (by omega)]
    · rw [if_neg h2, if_neg (by omega : ¬ z < 0)]
      by_cases h3 : 191 < z
      · rw [if_pos h3]
        by_cases h4 : 255 < z
        · rw [if_pos h4]
        · rw [if_neg h4, if_neg h1, if_neg (by omega), if_neg (by omega)]
      · rw [if_neg h3, if_neg (by omega : ¬ 255 < z), if_neg h1]
        by_cases h4 : z / 2 ^ 5 = 4
        · rw [if_pos h4]
        · rw [if_neg h4, if_pos (by omega)]
theorem own_plain (p0 p1 : Int32) (w_JSON w_CBOR : Addr) : f0 p0 p1 w_JSON w_CBOR = 1 := by
  unfold f0 f0_17
  simp [own_eq]
set_option maxRecDepth 65536 in
set_option maxHeartbeats 40000000 in
theorem comes_1 {Post : Tables → Env → Array Value → State → Outcome → State → Prop} (hpost : ∀ tb e args s v u, (limb_1_1.after args s (.returned v) u = true ∧ limb_1_2.after args s (.returned v) u = true ∧ True) → FrameEnd s (.returned v) u (Jvm.fieldLocs frame_1_writes args s ++ Jvm.arrayLocs frame_1_arrays args s ++ Jvm.staticLocs frame_1_statics s) 0 0 → Post tb e args s (.returned v) u) :
    ArmFor flags0 classFile x code maxLocals ret World_1 tables_1 room_1 Calls_1 rest_1 Pre_1 Post := by
  intro l hfl _ _ p e ha hc hk s m args below hf hA hF happ hP
  obtain ⟨hcalls, hrest, hpre⟩ := hP
  obtain ⟨-, -, -, hnamed, -, -, -, hat⟩ := (Spec.applies_iff hf).mp happ
  obtain ⟨hg, hn⟩ := and_e (Cond.before_iff.mp (show (Jvm.Cond.and given_1 narrow_1).before args s = true from hpre))
  obtain ⟨gv1, gv2⟩ := and_e hg
  obtain ⟨gv3, gv4⟩ := and_e gv2
  obtain ⟨w0, w1, rfl⟩ : ∃ w0 w1 : Value, args = #[w0, w1] := by
    have hs : args.size = 2 := by simpa [Cond.value, given_1] using gv1
    obtain ⟨L⟩ := args
    match L, hs with
    | [w0, w1], _ => exact ⟨w0, w1, rfl⟩
  have hw := fun d (hd : d ∈ tables_1) => atoms_spec (ws := Jvm.Cond.code x code maxLocals ret :: tables_1) hat d (List.mem_cons_of_mem _ hd)
  have hfit : Fit s := fun {y c} hc i hi => by
    obtain ⟨ha, rfl⟩ := Array.getElem?_eq_some_iff.mp hc
    have q := List.all_eq_true.mp ((Array.all_eq_true_iff_forall_mem.mp hF) _ (Array.getElem_mem ha)) i (List.mem_range.mpr hi)
    simpa [Array.getElem?_eq_getElem hi] using q
  obtain ⟨i0, ei0⟩ := is_v gv3
  obtain rfl : w0 = (.int i0) := Option.some.inj ei0
  obtain ⟨i1, ei1⟩ := is_v gv4
  obtain rfl : w1 = (.int i1) := Option.some.inj ei1
  obtain ⟨nv1, nv2⟩ := and_e hn
  obtain ⟨w_CBOR, ev_CBOR⟩ := exa_v nv1
  have S_CBOR : Sta s s.heap "com/example/sealwright/sealwright/bottle/Serialization" "CBOR" "Lcom/example/sealwright/sealwright/bottle/Serialization;" (.ref w_CBOR) := Sta.start ev_CBOR (Or.inr ⟨(hw _ (List.mem_of_getElem? (i := 6) rfl)), (hw _ (List.mem_of_getElem? (i := 9) rfl))⟩)
  have E_CBOR : Exa s s.heap w_CBOR "com/example/sealwright/sealwright/bottle/Serialization" := Exa.start ev_CBOR nv1
  obtain ⟨w_JSON, ev_JSON⟩ := exa_v nv2
  have S_JSON : Sta s s.heap "com/example/sealwright/sealwright/bottle/Serialization" "JSON" "Lcom/example/sealwright/sealwright/bottle/Serialization;" (.ref w_JSON) := Sta.start ev_JSON (Or.inr ⟨(hw _ (List.mem_of_getElem? (i := 6) rfl)), (hw _ (List.mem_of_getElem? (i := 12) rfl))⟩)
  have E_JSON : Exa s s.heap w_JSON "com/example/sealwright/sealwright/bottle/Serialization" := Exa.start ev_JSON nv2
  have hpl := own_plain i0 i1 w_JSON w_CBOR
  obtain ⟨n, o, h1, h2, h3, _, L, rfl, ⟨rfl, N⟩, hq⟩ := rm0 l s _ hw tables_1 i0 i1 w_JSON w_CBOR s.heap s.heap.size (Nat.le_refl _) S_JSON S_CBOR p e ha hc hk s m _ below hf ((Spec.applies_iff_loose hf).mp happ).1 ⟨rfl, State.Warmed39.refl s, rfl⟩ trivial
  refine ⟨n, _, h1, h2, h3, hpost _ _ _ _ _ _ ⟨Cond.after_iff.mpr rfl, Cond.after_iff.mpr (eq_i res_at (Term.int_eval (1)) (congrArg Value.int hpl)), trivial⟩ ⟨hq.1, hq.2.1, (hq.2.2.sift fun y hy => Or.inr (N y hy)).mono (by decide) (by decide)⟩⟩
theorem main_1_1 : Claimed_1_1 := comes_1 fun _ _ _ _ _ _ h hF => ⟨h.1, hF⟩
theorem main_1_2 : Claimed_1_2 := comes_1 fun _ _ _ _ _ _ h hF => ⟨h.2.1, hF⟩
end Jvm.Pilot.@@N@@
namespace Jvm.Pilot.@@N@@
open Jvm Jvm.ClassFile Sem Op Lib Jvm.Free Jvm.Stand Jvm.Pilot.@@N@@.Jvm.D
/-! MADE BY PROGRAM (witnessworld.py) out of the Statement's table words and the real class files: 12 classes; the members and pool entries that the words name. The judged class is class 1, her method 1. -/
namespace start1
open Jvm.ClassFile
def u (s : String) : CpInfo := .utf8 (stringToUtf16 s)
/-- a pool by its gaps: so many unusable entries, then the entry; so many at the end -/
def gap : Nat → List CpInfo → List CpInfo
  | 0, r => r
  | n + 1, r => .unusable :: gap n r
def poolList (es : List (Nat × CpInfo)) (last : Nat) : List CpInfo := es.foldr (fun e r => gap e.1 (e.2 :: r)) (gap last [])
def pool (es : List (Nat × CpInfo)) (last : Nat) : Array CpInfo := ⟨poolList es last⟩
def fileOf (pool : Array CpInfo) (this : Nat) (attrs : Array Attribute := #[]) (ms : Array MethodInfo := #[]) (fl : Nat := 33) (sup : Nat := 0) (ifs : Array Nat := #[]) (fds : Array FieldInfo := #[]) : ClassFile where
  minorVersion := 0
  majorVersion := 65
  constantPool := pool
  accessFlags := fl
  thisClass := this
  superClass := sup
  interfaces := ifs
  fields := fds
  methods := ms
  attributes := attrs
def plain (name : String) (sup : Option ClassId) : Class where
  name := name
  kind := .ordinary
  loader := none
  accessFlags := 33
  super := sup
  interfaces := #[]
  cf := none
  fields := #[]
  methods := #[]
  instanceTypes := #[]
  staticTypes := #[]
  resolved := #[]
  callSites := []
  init := .initialized
  statics := none
  mirror := none

def pool0 : Array CpInfo := pool [(5, u "<init>"), (0, u "()V"), (1, .class_ 10), (1, u "java/lang/Object")] 113

def k0m0 : Method := { name := "<init>", desc := "()V", sig := { parameters := [], returnType := none }, accessFlags := 1, code := none }
/-- java/lang/Object -/
def k0 : Class := { plain "java/lang/Object" none with
  accessFlags := 33
  interfaces := #[]
  cf := some (fileOf pool0 8 #[] #[{ accessFlags := 1, nameIndex := 5, descriptorIndex := 6, attributes := #[] }] 33 0 #[] #[])
  fields := #[]
  methods := #[k0m0]
  instanceTypes := #[]
  staticTypes := #[]
  resolved := Array.replicate 124 none
  statics := none }

def pool1 : Array CpInfo := pool [(2, .class_ 4), (1, u "java/lang/Object"), (0, u "<init>"), (0, u "()V"), (0, .methodref 8 9), (0, .class_ 10), (0, .nameAndType 11 12), (0, u "com/example/sealwright/sealwright/bottle/SerializationOfPinLaw"), (0, u "reference"), (0, u "(I)Lcom/example/sealwright/sealwright/bottle/Serialization;"), (0, .methodref 14 15), (0, .class_ 16), (0, .nameAndType 17 12), (0, u "com/example/sealwright/sealwright/bottle/Serialization"), (0, u "of"), (0, .fieldref 14 19), (0, .nameAndType 20 21), (0, u "JSON"), (0, u "Lcom/example/sealwright/sealwright/bottle/Serialization;"), (0, .fieldref 14 23), (0, .nameAndType 24 21), (0, u "CBOR"), (2, u "law"), (0, u "(II)Z")] 3

def k1m0 : Method := { name := "<init>", desc := "()V", sig := { parameters := [], returnType := none }, accessFlags := 1, code := none }
def k1c1 : Code := { maxStack := 2, maxLocals := 4, code := code, exceptionTable := #[], attributes := #[] }
def k1m1 : Method := { name := "law", desc := "(II)Z", sig := { parameters := [.int, .int], returnType := some .boolean }, accessFlags := 9, code := some k1c1 }
def k1c2 : Code := { maxStack := 2, maxLocals := 2, code := method_3_code, exceptionTable := #[], attributes := #[] }
def k1m2 : Method := { name := "reference", desc := "(I)Lcom/example/sealwright/sealwright/bottle/Serialization;", sig := { parameters := [.int], returnType := some (.object "com/example/sealwright/sealwright/bottle/Serialization") }, accessFlags := 10, code := some k1c2 }
/-- com/example/sealwright/sealwright/bottle/SerializationOfPinLaw -/
def k1 : Class := { plain "com/example/sealwright/sealwright/bottle/SerializationOfPinLaw" (some 0) with
  accessFlags := 49
  interfaces := #[]
  cf := some (fileOf pool1 8 #[] #[{ accessFlags := 1, nameIndex := 5, descriptorIndex := 6, attributes := #[] }, { accessFlags := 9, nameIndex := 27, descriptorIndex := 28, attributes := #[] }, { accessFlags := 10, nameIndex := 11, descriptorIndex := 12, attributes := #[] }] 49 2 #[] #[])
  fields := #[]
  methods := #[k1m0, k1m1, k1m2]
  instanceTypes := #[]
  staticTypes := #[]
  resolved := Array.replicate 32 none
  statics := none }

def pool2 : Array CpInfo := pool [(1, .class_ 2), (0, u "java/lang/constant/Constable"), (0, .class_ 4), (0, u "java/lang/Object")] 6

/-- java/lang/constant/Constable -/
def k2 : Class := { plain "java/lang/constant/Constable" (some 0) with
  accessFlags := 1537
  interfaces := #[]
  cf := some (fileOf pool2 1 #[] #[] 1537 3 #[] #[])
  fields := #[]
  methods := #[]
  instanceTypes := #[]
  staticTypes := #[]
  resolved := Array.replicate 11 none
  statics := none }

def pool3 : Array CpInfo := pool [(1, .class_ 2), (0, u "java/lang/Comparable"), (0, .class_ 4), (0, u "java/lang/Object")] 7

/-- java/lang/Comparable -/
def k3 : Class := { plain "java/lang/Comparable" (some 0) with
  accessFlags := 1537
  interfaces := #[]
  cf := some (fileOf pool3 1 #[] #[] 1537 3 #[] #[])
  fields := #[]
  methods := #[]
  instanceTypes := #[]
  staticTypes := #[]
  resolved := Array.replicate 12 none
  statics := none }

def pool4 : Array CpInfo := pool [(1, .class_ 2), (0, u "java/io/Serializable"), (0, .class_ 4), (0, u "java/lang/Object")] 2

/-- java/io/Serializable -/
def k4 : Class := { plain "java/io/Serializable" (some 0) with
  accessFlags := 1537
  interfaces := #[]
  cf := some (fileOf pool4 1 #[] #[] 1537 3 #[] #[])
  fields := #[]
  methods := #[]
  instanceTypes := #[]
  staticTypes := #[]
  resolved := Array.replicate 7 none
  statics := none }

def pool5 : Array CpInfo := pool [(2, .class_ 4), (1, u "java/lang/Enum"), (0, u "name"), (0, u "Ljava/lang/String;"), (2, u "ordinal"), (0, u "I"), (1, .class_ 14), (1, u "java/lang/Object"), (4, u "hash"), (86, .class_ 108), (1, u "java/lang/Enum$EnumDesc"), (2, .class_ 112), (0, u "java/lang/constant/Constable"), (0, .class_ 114), (0, u "java/lang/Comparable"), (0, .class_ 116), (0, u "java/io/Serializable")] 87

/-- java/lang/Enum -/
def k5 : Class := { plain "java/lang/Enum" (some 0) with
  accessFlags := 1057
  interfaces := #[2, 3, 4]
  cf := some (fileOf pool5 2 #[.nestMembers #[106]] #[] 1057 12 #[111, 113, 115] #[{ accessFlags := 18, nameIndex := 5, descriptorIndex := 6, attributes := #[] }, { accessFlags := 18, nameIndex := 9, descriptorIndex := 10, attributes := #[] }, { accessFlags := 2, nameIndex := 19, descriptorIndex := 10, attributes := #[] }])
  fields := #[{ name := "name", type := (.object "java/lang/String"), accessFlags := 18, slot := 0, constantValue := 0 }, { name := "ordinal", type := .int, accessFlags := 18, slot := 1, constantValue := 0 }, { name := "hash", type := .int, accessFlags := 2, slot := 2, constantValue := 0 }]
  methods := #[]
  instanceTypes := #[(.object "java/lang/String"), .int, .int]
  staticTypes := #[]
  resolved := Array.replicate 204 none
  statics := none }

def pool6 : Array CpInfo := pool [(1, .class_ 2), (0, u "com/example/sealwright/sealwright/bottle/Serialization"), (0, .fieldref 1 4), (0, .nameAndType 5 6), (0, u "CBOR"), (0, u "Lcom/example/sealwright/sealwright/bottle/Serialization;"), (0, .fieldref 1 8), (0, .nameAndType 9 6), (0, u "JSON"), (2, u "$VALUES"), (0, u "[Lcom/example/sealwright/sealwright/bottle/Serialization;"), (6, .class_ 22), (1, u "java/lang/Enum"), (8, u "label"), (0, u "Ljava/lang/String;"), (20, u "of"), (0, u "(I)Lcom/example/sealwright/sealwright/bottle/Serialization;")] 7

def k6c0 : Code := { maxStack := 2, maxLocals := 2, code := prog_1_method_4_code, exceptionTable := #[], attributes := #[] }
def k6m0 : Method := { name := "of", desc := "(I)Lcom/example/sealwright/sealwright/bottle/Serialization;", sig := { parameters := [.int], returnType := some (.object "com/example/sealwright/sealwright/bottle/Serialization") }, accessFlags := 9, code := some k6c0 }
/-- com/example/sealwright/sealwright/bottle/Serialization -/
def k6 : Class := { plain "com/example/sealwright/sealwright/bottle/Serialization" (some 5) with
  accessFlags := 16433
  interfaces := #[]
  cf := some (fileOf pool6 1 #[] #[{ accessFlags := 9, nameIndex := 53, descriptorIndex := 54, attributes := #[] }] 16433 20 #[] #[{ accessFlags := 16409, nameIndex := 5, descriptorIndex := 6, attributes := #[] }, { accessFlags := 16409, nameIndex := 9, descriptorIndex := 6, attributes := #[] }, { accessFlags := 18, nameIndex := 31, descriptorIndex := 32, attributes := #[] }, { accessFlags := 4122, nameIndex := 12, descriptorIndex := 13, attributes := #[] }])
  fields := #[{ name := "CBOR", type := (.object "com/example/sealwright/sealwright/bottle/Serialization"), accessFlags := 16409, slot := 0, constantValue := 0 }, { name := "JSON", type := (.object "com/example/sealwright/sealwright/bottle/Serialization"), accessFlags := 16409, slot := 1, constantValue := 0 }, { name := "label", type := (.object "java/lang/String"), accessFlags := 18, slot := 3, constantValue := 0 }, { name := "$VALUES", type := (.array (.object "com/example/sealwright/sealwright/bottle/Serialization")), accessFlags := 4122, slot := 2, constantValue := 0 }]
  methods := #[k6m0]
  instanceTypes := #[(.object "java/lang/String"), .int, .int, (.object "java/lang/String")]
  staticTypes := #[(.object "com/example/sealwright/sealwright/bottle/Serialization"), (.object "com/example/sealwright/sealwright/bottle/Serialization"), (.array (.object "com/example/sealwright/sealwright/bottle/Serialization"))]
  resolved := Array.replicate 62 none
  statics := some 0 }

def pool7 : Array CpInfo := pool [(1, u "java/lang/Cloneable"), (0, .class_ 1), (0, u "java/lang/Object"), (0, .class_ 3)] 3

/-- java/lang/Cloneable -/
def k7 : Class := { plain "java/lang/Cloneable" (some 0) with
  accessFlags := 1537
  interfaces := #[]
  cf := some (fileOf pool7 2 #[] #[] 1537 4 #[] #[])
  fields := #[]
  methods := #[]
  instanceTypes := #[]
  staticTypes := #[]
  resolved := Array.replicate 8 none
  statics := none }

/-- the primitive byte -/
def k8 : Class := { plain "byte" none with kind := .primitive 'B', accessFlags := 0x411 }
/-- [B -/
def k9 : Class := { plain "[B" (some 0) with kind := .array 8 .byte, interfaces := #[7, 4], accessFlags := 1041 }

/-- the primitive int -/
def k10 : Class := { plain "int" none with kind := .primitive 'I', accessFlags := 0x411 }
/-- [I -/
def k11 : Class := { plain "[I" (some 0) with kind := .array 10 .int, interfaces := #[7, 4], accessFlags := 1041 }

def heap : Heap := #[{ cls := 6, slots := #[.ref 1, .ref 2, .null], vm := .statics 6 },
  { cls := 6, slots := #[.null, .int 0, .int 0, .null], vm := .none },
  { cls := 6, slots := #[.null, .int 1, .int 0, .null], vm := .none }]
def classes : Array Class := #[k0, k1, k2, k3, k4, k5, k6, k7, k8, k9, k10, k11]
def interned : List (Array UInt16 × Addr) := []
def slotsUsed : Nat := 11
def theMethod : MethodId := ⟨1, 1⟩
def args0 : Array Value := #[.int 7, .int 7]
def aboutOver (below : List Frame) : State where
  vm := { classes := classes, interned := interned.toArray }
  heap := heap
  slotsUsed := slotsUsed
  threads := #[{ frames := .invoking theMethod args0 :: below }]
def below0 : List Frame := [.native { method := ⟨0, 0⟩, args := #[] }]
def about1 : State := aboutOver below0
def p0 : Program := .bare "" "" ""
def e0 : Env := launch0.env 0 0 0
theorem w_frames : about1.frames = Frame.invoking theMethod args0 :: below0 := rfl
set_option maxRecDepth 65536 in
theorem w_args : argsFit about1.vm theMethod args0 = true := by decide +kernel
set_option maxRecDepth 65536 in
theorem w_heap : heapFits about1 = true := by decide +kernel
set_option maxRecDepth 65536 in
theorem w_runnable : about1.curStatus? = some .runnable := by decide +kernel
set_option maxRecDepth 65536 in
theorem w_alone : about1.alone = true := by decide +kernel
set_option maxRecDepth 65536 in
theorem w_named : about1.methodNamed? x = some theMethod := by decide +kernel
set_option maxRecDepth 65536 in
theorem w_hears : about1.hears theMethod below0 = true := by decide +kernel
set_option maxRecDepth 65536 in
theorem w_ripe : about1.ripe theMethod args0 below0 = true := by decide +kernel
theorem w_running : about1.status = .running := rfl
set_option maxRecDepth 65536 in
theorem w_room : about1.hasRoom e0.platform room_1 = true :=
  launch0.hasRoom_least _ room_1 (by decide +kernel) (by decide +kernel) (by decide +kernel) (by decide +kernel) (by decide +kernel) (by decide +kernel)
theorem allAtoms_all (ts : List Jvm.Cond) (a : Array Jvm.Value) (st : Jvm.State) : (allAtoms ts).before a st = ts.all (fun c => c.before a st) := by
  induction ts with
  | nil => rfl
  | cons c t ih =>
    show (Jvm.Cond.and c (allAtoms t)).before a st = _
    rw [Jvm.Cond.before_and, ih, List.all_cons]
def words1 : List Jvm.Cond := Jvm.Cond.code x code maxLocals ret :: tables_1
/-- a 'code' word, met by the world's own term for the bytes: nothing is compared byte by byte -/
theorem code_word {y : MethodName} {bytes : ByteArray} {mx : Nat} {rt : Option FieldType} {a : Array Value} {s : State} {m : MethodId} {meth : Method} {c : Code} (h1 : s.methodNamed? y = some m) (h2 : s.vm.method? m = some meth) (h3 : meth.code = some c) (h4 : c.code = bytes)
    (h5 : (c.maxLocals == mx && c.exceptionTable.isEmpty && decide (c.maxStack ≤ mostOperands) && decide (meth.sig.returnType = rt) && !meth.locks && decide (parseMethodDescriptor y.desc = some meth.sig)) = true) : (Jvm.Cond.code y bytes mx rt).before a s = true := by
  simp only [Bool.and_eq_true, beq_iff_eq, Bool.not_eq_true', decide_eq_true_eq] at h5
  obtain ⟨⟨⟨⟨⟨g1, g2⟩, g3⟩, g4⟩, g5⟩, g6⟩ := h5
  simp [Cond.before, Cond.holds, Cond.value, h1, h2, h3, h4, g1, g2, g3, g4, g5, g6]
def isCode : Jvm.Cond → Bool
  | .code _ _ _ _ => true
  | _ => false
theorem all_split {L : List Jvm.Cond} {P : Jvm.Cond → Bool} (h1 : L.all (fun c => isCode c || P c) = true) (h2 : ∀ c ∈ L.filter isCode, P c = true) : L.all P = true := by
  refine List.all_eq_true.mpr fun c hc => ?_
  have h := List.all_eq_true.mp h1 c hc
  rcases Bool.eq_false_or_eq_true (isCode c) with hi | hi
  · exact h2 c (List.mem_filter.mpr ⟨hc, hi⟩)
  · simpa [hi] using h
set_option maxRecDepth 65536 in
theorem w_c0 : (Jvm.Cond.code x code maxLocals ret).before args0 about1 = true := code_word (m := ⟨1, 1⟩) (meth := k1m1) (c := k1c1) (by decide +kernel) rfl rfl rfl (by decide +kernel)
set_option maxRecDepth 65536 in
theorem w_c1 : (Jvm.Cond.code ({ cls := "com/example/sealwright/sealwright/bottle/SerializationOfPinLaw", name := "reference", desc := "(I)Lcom/example/sealwright/sealwright/bottle/Serialization;" } : Jvm.MethodName) method_3_code (2 : Nat) (Option.some (Jvm.ClassFile.FieldType.object "com/example/sealwright/sealwright/bottle/Serialization"))).before args0 about1 = true := code_word (m := ⟨1, 2⟩) (meth := k1m2) (c := k1c2) (by decide +kernel) rfl rfl rfl (by decide +kernel)
set_option maxRecDepth 65536 in
theorem w_c2 : (Jvm.Cond.code ({ cls := "com/example/sealwright/sealwright/bottle/Serialization", name := "of", desc := "(I)Lcom/example/sealwright/sealwright/bottle/Serialization;" } : Jvm.MethodName) prog_1_method_4_code (2 : Nat) (Option.some (Jvm.ClassFile.FieldType.object "com/example/sealwright/sealwright/bottle/Serialization"))).before args0 about1 = true := code_word (m := ⟨6, 0⟩) (meth := k6m0) (c := k6c0) (by decide +kernel) rfl rfl rfl (by decide +kernel)
def codes1 : List Jvm.Cond := [Jvm.Cond.code x code maxLocals ret, Jvm.Cond.code ({ cls := "com/example/sealwright/sealwright/bottle/SerializationOfPinLaw", name := "reference", desc := "(I)Lcom/example/sealwright/sealwright/bottle/Serialization;" } : Jvm.MethodName) method_3_code (2 : Nat) (Option.some (Jvm.ClassFile.FieldType.object "com/example/sealwright/sealwright/bottle/Serialization")), Jvm.Cond.code ({ cls := "com/example/sealwright/sealwright/bottle/Serialization", name := "of", desc := "(I)Lcom/example/sealwright/sealwright/bottle/Serialization;" } : Jvm.MethodName) prog_1_method_4_code (2 : Nat) (Option.some (Jvm.ClassFile.FieldType.object "com/example/sealwright/sealwright/bottle/Serialization"))]
set_option maxRecDepth 65536 in
theorem codes_eq : words1.filter isCode = codes1 := rfl
theorem w_codes : ∀ c ∈ words1.filter isCode, c.before args0 about1 = true := by
  rw [codes_eq]
  intro c hc
  simp only [codes1, List.mem_cons, List.not_mem_nil, or_false] at hc
  rcases hc with rfl | rfl | rfl
  · exact w_c0
  · exact w_c1
  · exact w_c2
set_option maxRecDepth 65536 in
theorem w_t1 : words1.all (fun c => isCode c || c.before args0 about1) = true := by decide +kernel
theorem w_tables : (allAtoms (Jvm.Cond.code x code maxLocals ret :: tables_1)).before args0 about1 = true := by
  rw [allAtoms_all]
  show words1.all (fun c => c.before args0 about1) = true
  refine all_split ?_ w_codes
  rw [w_t1]
set_option maxRecDepth 65536 in
theorem w_case : (Jvm.Cond.and given_1 narrow_1).before args0 about1 = true := by decide +kernel
theorem w_applies : (headSpec (Jvm.Cond.code x code maxLocals ret :: tables_1) room_1).applies x e0.platform about1 = true :=
  (Spec.applies_iff w_frames).mpr ⟨w_running, w_runnable, w_alone, w_named, w_hears, w_ripe, w_room, w_tables⟩
theorem atStart : AtStart classFile x code maxLocals ret World_1 tables_1 room_1 Calls_1 rest_1 Pre_1 launch0 p0 e0 about1 theMethod args0 below0 :=
  ⟨lists_1, trivial, launch0.admits_env _ _ _, launch0.least_env, fairChoices_fair.cas, fairChoices_fair.clock, w_frames, w_args, w_heap, w_applies, trivial, trivial, w_case⟩
end start1
theorem witness_1 : WitnessClaimed_1 := ⟨start1.p0, start1.e0, start1.about1, start1.theMethod, start1.args0, start1.below0, start1.atStart⟩
end Jvm.Pilot.@@N@@
