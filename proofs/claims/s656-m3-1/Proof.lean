import JvmDerived
import JvmDerived.Pilot.@@N@@Statement
import JvmDerived.Pilot.@@N@@Code
set_option linter.unusedVariables false
set_option linter.unusedSimpArgs false
@@BLOCK:NumsL.lean.txt@@
namespace Jvm.RoadKit
open Sem ClassFile Op Lib Jvm.Stand Jvm.Free Jvm.LawKit
section Own
variable {p : Program} {l : Launch} {e : Env} {R : Room} {s : State} {m : MethodId} {args : Array Value} {below : List Frame} {meth : Method} {c : Code} {T : State} {locs : List Loc} {cells slots : Nat}
/-- from t the run ends in a return of which Q holds -/
def OGo (p : Program) (e : Env) (below : List Frame) (s : State) (Q : Option Value → Heap → List Loc → Prop) (C N : Nat) (t : State) : Prop :=
  ∃ s₂ o, Steps p.tables e below t s₂ ∧ s₂.status = .running ∧ Ended s₂ below o ∧ ∃ v L, o = .returned v ∧ Q v s₂.heap L ∧ FrameEnd s o s₂ L C N
theorem OGo.st {Q : Option Value → Heap → List Loc → Prop} {C N : Nat} {t t' : State} (k : ∀ target, Steps p.tables e below t' target → Steps p.tables e below t target) (h : OGo p e below s Q C N t') : OGo p e below s Q C N t := by
  obtain ⟨s₂, o, a, r⟩ := h; exact ⟨s₂, o, k _ a, r⟩
theorem oretW {Q : Option Value → Heap → List Loc → Prop} {C N : Nat} (X : Stand p l e R s m args below meth c T locs cells slots) (hx : p.tables.exec = Jvm.exec) (hlk : meth.locks = false) {pc : Nat} {Ls : Array Slot} {w : Value} {t : FieldType} {i : Instr} {rest : List Value} (hret : meth.sig.returnType = some t) (hn : narrow t w = w)
    (hi : (i = .ireturn ∧ (t = .int ∨ t = .boolean ∨ t = .byte ∨ t = .char ∨ t = .short) ∧ ∃ z, w = .int z) ∨ (i = .lreturn ∧ t = .long ∧ ∃ z, w = .long z) ∨ (i = .dreturn ∧ t = .double ∧ ∃ z, w = .double z) ∨ (i = .freturn ∧ t = .float ∧ ∃ z, w = .float z) ∨ (i = .areturn ∧ t.isReference = true ∧ w.isRef = true))
    (hd : decode c.code pc = .ok (i, 1)) {h : Heap} (hh : T.heap = h) (hq : Q (some w) h locs) (hC : cells ≤ C) (hN : slots ≤ N) : OGo p e below s Q C N (T.setTop (mkF m pc Ls (w :: rest))) := by
  obtain ⟨fs, hr, hrun, hended, hW, hsame⟩ := X.leave (v := some w) (fun h => by rw [hret] at h; cases h) hlk
  exact ⟨_, _, retOut X hx hret hn hi hd hr, hrun, hended, _, _, rfl, hh ▸ hq, ⟨_, rfl⟩, hW, hsame.mono hC hN⟩
theorem oretI {Q : Option Value → Heap → List Loc → Prop} {C N : Nat} (X : Stand p l e R s m args below meth c T locs cells slots) (hx : p.tables.exec = Jvm.exec) (hlk : meth.locks = false) {pc : Nat} {Ls : Array Slot} {z : Int32} {rest : List Value} (hret : meth.sig.returnType = some .int)
    (hd : decode c.code pc = .ok (.ireturn, 1)) {h : Heap} (hh : T.heap = h) (hq : Q (some (.int z)) h locs) (hC : cells ≤ C) (hN : slots ≤ N) : OGo p e below s Q C N (T.setTop (mkF m pc Ls (.int z :: rest))) :=
  oretW X hx hlk hret rfl (Or.inl ⟨rfl, Or.inl rfl, _, rfl⟩) hd hh hq hC hN
theorem oretJ {Q : Option Value → Heap → List Loc → Prop} {C N : Nat} (X : Stand p l e R s m args below meth c T locs cells slots) (hx : p.tables.exec = Jvm.exec) (hlk : meth.locks = false) {pc : Nat} {Ls : Array Slot} {z : Int64} {rest : List Value} (hret : meth.sig.returnType = some .long)
    (hd : decode c.code pc = .ok (.lreturn, 1)) {h : Heap} (hh : T.heap = h) (hq : Q (some (.long z)) h locs) (hC : cells ≤ C) (hN : slots ≤ N) : OGo p e below s Q C N (T.setTop (mkF m pc Ls (.long z :: rest))) :=
  oretW X hx hlk hret rfl (Or.inr (Or.inl ⟨rfl, rfl, _, rfl⟩)) hd hh hq hC hN
theorem onarR {t : FieldType} {w : Value} (ht : t.isReference = true) (hw : w.isRef = true) : narrow t w = w := by
  cases t <;> first | (cases ht; done) | (cases w <;> first | rfl | (cases hw; done))
theorem ofitR {t : FieldType} {w : Value} (ht : t.isReference = true) (hw : w.isRef = true) : fits t w = true := by
  cases t <;> first | (cases ht; done) | (cases w <;> first | rfl | (cases hw; done))
theorem oretA {Q : Option Value → Heap → List Loc → Prop} {C N : Nat} (X : Stand p l e R s m args below meth c T locs cells slots) (hx : p.tables.exec = Jvm.exec) (hlk : meth.locks = false) {pc : Nat} {Ls : Array Slot} {w : Value} {t : FieldType} {rest : List Value} (hret : meth.sig.returnType = some t) (ht : t.isReference = true) (hw : w.isRef = true)
    (hd : decode c.code pc = .ok (.areturn, 1)) {h : Heap} (hh : T.heap = h) (hq : Q (some w) h locs) (hC : cells ≤ C) (hN : slots ≤ N) : OGo p e below s Q C N (T.setTop (mkF m pc Ls (w :: rest))) :=
  oretW X hx hlk hret (onarR ht hw) (Or.inr (Or.inr (Or.inr (Or.inr ⟨rfl, ht, hw⟩)))) hd hh hq hC hN
theorem oretN {Q : Option Value → Heap → List Loc → Prop} {C N : Nat} (X : Stand p l e R s m args below meth c T locs cells slots) (hx : p.tables.exec = Jvm.exec) (hlk : meth.locks = false) {pc : Nat} {Ls : Array Slot} {z z' : Int32} {t : FieldType} {rest : List Value} (hret : meth.sig.returnType = some t) (ht : t = .boolean ∨ t = .byte ∨ t = .char ∨ t = .short)
    (hd : decode c.code pc = .ok (.ireturn, 1)) (hz : nar t z = z') {h : Heap} (hh : T.heap = h) (hq : Q (some (.int z')) h locs) (hC : cells ≤ C) (hN : slots ≤ N) : OGo p e below s Q C N (T.setTop (mkF m pc Ls (.int z :: rest))) := by
  subst hz
  obtain ⟨fs, hr, hrun, hended, hW, hsame⟩ := X.leave (v := some (.int (nar t z))) (fun h => by rw [hret] at h; cases h) hlk
  exact ⟨_, _, retN X hx hret ht hd hr, hrun, hended, _, _, rfl, hh ▸ hq, ⟨_, rfl⟩, hW, hsame.mono hC hN⟩
theorem oret0 {Q : Option Value → Heap → List Loc → Prop} {C N : Nat} (X : Stand p l e R s m args below meth c T locs cells slots) (hx : p.tables.exec = Jvm.exec) (hlk : meth.locks = false) {pc : Nat} {Ls : Array Slot} (hret : meth.sig.returnType = none)
    (hd : decode c.code pc = .ok (.return_, 1)) {h : Heap} (hh : T.heap = h) (hq : Q none h locs) (hC : cells ≤ C) (hN : slots ≤ N) : OGo p e below s Q C N (T.setTop (mkF m pc Ls [])) := by
  obtain ⟨fs, hr, hrun, hended, hW, hsame⟩ := X.leave (v := none) (fun _ => rfl) hlk
  exact ⟨_, _, X.returnOut hx hret hd hr, hrun, hended, _, _, rfl, hh ▸ hq, ⟨_, rfl⟩, hW, hsame.mono hC hN⟩
theorem olrem {tb : Tables} [Ours tb] {target : State} {g : JFrame} (h : At T m c below) (hx : tb.exec = Jvm.exec) (hg : g.method = m) {x y : Int64} {rest : List Value} (hd : decode c.code g.pc = .ok (.lrem, 1)) (hs : g.stack = .long y :: .long x :: rest) (hy : y ≠ 0)
    (hr : Steps tb e below (T.setTop { g with pc := g.pc + 1, stack := .long (x % y) :: rest }) target) : Steps tb e below (T.setTop g) target :=
  XS.lrem h hx hg hd hs hy (by rw [lrem_mod]; exact hr)
theorem olc_lt (x y : Int64) : lcmpW x y < 0 ↔ x < y := by rw [lcW]; exact lc_lt x y
theorem olc_gt (x y : Int64) : 0 < lcmpW x y ↔ y < x := by rw [lcW]; exact lc_gt x y
theorem olc_eq (x y : Int64) : lcmpW x y = 0 ↔ x = y := by rw [lcW]; exact lc_eq x y
theorem onilP {v : Int} : ∀ q ∈ ([] : List (Int × Int)), q.1 ≠ v := fun _ q => nomatch q
theorem oconsP {v a b : Int} {l : List (Int × Int)} (h : a ≠ v) (t : ∀ q ∈ l, q.1 ≠ v) : ∀ q ∈ (a, b) :: l, q.1 ≠ v := fun q hq => (List.mem_cons.mp hq).elim (fun u => by rw [u]; exact h) (t q)
theorem oint_ne {z k : Int32} {K : Int} (h : ¬ z = k) (hk : k.toInt = K) : K ≠ z.toInt := fun q => h (Int32.toInt_inj.mp (by rw [hk, q]))
theorem ofld_eq {Z : State} {t : Term} {C n d : String} {a : Addr} {k : Int32} (h : (Cond.eq (Term.field t C n d) (Term.int k)).value args Z none Z [] = some true) (ev : t.eval args Z none [] Z = some (.ref a)) : Fld Z Z.heap a C n d (.int k) := by
  apply Fld.start
  have q := fld_at (args := args) (first := Z) (o := none) (idx := []) (s := Z) (C := C) (n := n) (dd := d) ev
  simp only [Cond.value, q, Term.int_eval] at h
  cases hv : Z.fieldOf? a C n d with
  | none => simp [hv] at h
  | some v => cases v <;> simp [hv] at h <;> simp [h]
section Imp
variable {E a b : Int32}
theorem oLL (h : E < a) (k : a.toInt ≤ b.toInt) : E < b := by rw [Int32.lt_iff_toInt_lt] at *; omega
theorem oLnG (h : E < a) (k : a.toInt ≤ b.toInt + 1) : ¬ b < E := by rw [Int32.lt_iff_toInt_lt] at *; omega
theorem oLnE (h : E < a) (k : a.toInt ≤ b.toInt) : ¬ E = b := fun q => by subst q; rw [Int32.lt_iff_toInt_lt] at h; omega
theorem oGG (h : a < E) (k : b.toInt ≤ a.toInt) : b < E := by rw [Int32.lt_iff_toInt_lt] at *; omega
theorem oGnL (h : a < E) (k : b.toInt ≤ a.toInt + 1) : ¬ E < b := by rw [Int32.lt_iff_toInt_lt] at *; omega
theorem oGnE (h : a < E) (k : b.toInt ≤ a.toInt) : ¬ E = b := fun q => by subst q; rw [Int32.lt_iff_toInt_lt] at h; omega
theorem onLnL (h : ¬ E < a) (k : b.toInt ≤ a.toInt) : ¬ E < b := by rw [Int32.lt_iff_toInt_lt] at *; omega
theorem onLG (h : ¬ E < a) (k : b.toInt < a.toInt) : b < E := by rw [Int32.lt_iff_toInt_lt] at *; omega
theorem onLnE (h : ¬ E < a) (k : b.toInt < a.toInt) : ¬ E = b := fun q => by subst q; rw [Int32.lt_iff_toInt_lt] at h; omega
theorem onGnG (h : ¬ a < E) (k : a.toInt ≤ b.toInt) : ¬ b < E := by rw [Int32.lt_iff_toInt_lt] at *; omega
theorem onGL (h : ¬ a < E) (k : a.toInt < b.toInt) : E < b := by rw [Int32.lt_iff_toInt_lt] at *; omega
theorem onGnE (h : ¬ a < E) (k : a.toInt < b.toInt) : ¬ E = b := fun q => by subst q; rw [Int32.lt_iff_toInt_lt] at h; omega
end Imp
end Own
end Jvm.RoadKit
namespace Jvm.Pilot.@@N@@
open Jvm Jvm.ClassFile Sem Op Lib Jvm.Free Jvm.Stand Jvm.LawKit Jvm.RoadKit Bundle Jvm.Pilot.@@N@@.Jvm.D

theorem d1_0 : decode prog_110_method_2_code 0 = .ok (.aload_n 0, 1) := by decide +kernel
theorem d1_1 : decode prog_110_method_2_code 1 = .ok (.arraylength, 1) := by decide +kernel
theorem d1_2 : decode prog_110_method_2_code 2 = .ok (.ifCond .le 15, 3) := by decide +kernel
theorem d1_17 : decode prog_110_method_2_code 17 = .ok (.iconst 0, 1) := by decide +kernel
theorem d1_18 : decode prog_110_method_2_code 18 = .ok (.ireturn, 1) := by decide +kernel
theorem pn_1 : plainName "com/example/assaywire/assaywire/protocol/Mllp" = true := by first | (simp [plainName, overriddenIn]; done) | decide +kernel
theorem ef_1L0 (m : MethodId) (o0 : Addr) : entryFrame m #[(.ref o0)] 1 = mkF m 0 #[.val (.ref o0)] [] := by first | (simp [entryFrame, mkF, argsToLocals, Value.category]; done) | rfl
def f1L0 : Int32 := (0 : Int32)
def Q1L0 (Z : State) (o0 : Addr) (k_o0 : ClassId) (h0 : Heap) (n0 : Nat) (v : Option Value) (h : Heap) (L : List Loc) : Prop := v = some (.int (f1L0)) ∧ Fr n0 L ∧ h = h0
set_option maxRecDepth 65536 in
set_option maxHeartbeats 40000000 in
theorem rm1L0 (l : Launch) (Z : State) (a0 : Array Value) (hw : ∀ d ∈ tables_1, d.before a0 Z = true) (ws : List Jvm.Cond) (o0 : Addr) (k_o0 : ClassId) (h0 : Heap) (n0 : Nat) (Z0 : n0 ≤ h0.size) (V_o0 : Arv Z h0 o0 k_o0 .byte (0 : Int32) [] (.int (0 : Int32))) :
    MetFree l (⟨"com/example/assaywire/assaywire/protocol/Mllp", "startsBlock", "([B)Z"⟩ : MethodName) (head1 (Jvm.Cond.code (⟨"com/example/assaywire/assaywire/protocol/Mllp", "startsBlock", "([B)Z"⟩ : MethodName) prog_110_method_2_code 1 (some .boolean) :: ws) ({ frames := 0, cells := 0, slots := 0, locals := 0 } : Room)) (fun a U => a = #[(.ref o0)] ∧ Z.Warmed39 U.vm ∧ U.heap = h0) (fun _ _ _ _ _ => True) (fun _ U o U' => ∃ v L, o = .returned v ∧ Q1L0 Z o0 k_o0 h0 n0 v U'.heap L ∧ FrameEnd U o U' L ({ frames := 0, cells := 0, slots := 0, locals := 0 } : Room).cells ({ frames := 0, cells := 0, slots := 0, locals := 0 } : Room).slots) := by
  refine MetFree.of_bodySF (plainFor_of_name pn_1) hisR ?_
  intro p e s m args below meth c s₁ Bd hml0 hP hK
  obtain ⟨rfl, hZ, hh⟩ := hP
  have hx := Bd.exec
  have hby := Bd.bytes
  have hml : c.maxLocals = 1 := hml0
  have hown : s.vm.findClass "com/example/assaywire/assaywire/protocol/Mllp" = some m.cls := findClass_of_methodNamed Bd.named
  have hnm := (name_of_methodNamed Bd.named Bd.method).1
  have X0 : Stand p l e ({ frames := 0, cells := 0, slots := 0, locals := 0 } : Room) s m #[(.ref o0)] below meth c s₁ [] 0 0 := Stand.of_body Bd
  have e0 : s₁.heap = h0 := by rw [← hh, Bd.state]; rfl
  have N0 := Fr.nil n0
  show OGo p e below s (Q1L0 Z o0 k_o0 h0 n0) ({ frames := 0, cells := 0, slots := 0, locals := 0 } : Room).cells ({ frames := 0, cells := 0, slots := 0, locals := 0 } : Room).slots _
  refine OGo.st (fun _ k => castTop (ef_1L0 m o0) k) ?_
  show OGo p e below s _ _ _ (s₁.setTop (mkF m 0 #[.val (.ref o0)] []))
  refine OGo.st (fun _ k => XS.aloadN X0.here hx rfl (hb hby d1_0) rfl rfl k) ?_
  show OGo p e below s _ _ _ (s₁.setTop (mkF m 1 #[.val (.ref o0)] [(.ref o0)]))
  obtain ⟨cl1, Ar1, -, Sz1, Nn1, -, -⟩ := id V_o0
  refine OGo.st (fun _ k => X0.arraylength hx (by rw [e0]; exact Ar1.1) (State.isArrayOf_alike hZ.alike Ar1.2.1) (g := (mkF m 1 #[.val (.ref o0)] [(.ref o0)])) rfl rfl (hb hby d1_1) _ k) ?_
  rw [len_of Sz1 Nn1]
  show OGo p e below s _ _ _ (s₁.setTop (mkF m 2 #[.val (.ref o0)] [(.int (0 : Int32))]))
  refine OGo.st (fun _ k => XS.ifYes X0.here hx rfl (pc0 := 2) (pc' := 17) rfl (hb hby d1_2) rfl ((if0 _ _).trans (flt (by decide : ¬ ((0 : Int32) < (0 : Int32)))).2.2.2) (by decide) (by decide) k) ?_
  show OGo p e below s _ _ _ (s₁.setTop (mkF m 17 #[.val (.ref o0)] []))
  refine OGo.st (fun _ k => XS.iconst X0.here hx rfl (hb hby d1_17) k) ?_
  show OGo p e below s _ _ _ (s₁.setTop (mkF m 18 #[.val (.ref o0)] [(.int (0 : Int32))]))
  exact oretN X0 hx Bd.notSynchronized (t := .boolean) Bd.returns (by simp) (hb hby d1_18) (z' := (0 : Int32)) (by decide) e0 ⟨(congrArg (fun z => some (Value.int z)) (show (0 : Int32) = f1L0 from Eq.symm (by unfold f1L0; exact rfl))), N0, rfl⟩ (by decide) (by decide)
theorem d1_5 : decode prog_110_method_2_code 5 = .ok (.aload_n 0, 1) := by decide +kernel
theorem d1_6 : decode prog_110_method_2_code 6 = .ok (.iconst 0, 1) := by decide +kernel
theorem d1_7 : decode prog_110_method_2_code 7 = .ok (.baload, 1) := by decide +kernel
theorem d1_8 : decode prog_110_method_2_code 8 = .ok (.bipush 11, 2) := by decide +kernel
theorem d1_10 : decode prog_110_method_2_code 10 = .ok (.if_icmp .ne 7, 3) := by decide +kernel
theorem d1_13 : decode prog_110_method_2_code 13 = .ok (.iconst 1, 1) := by decide +kernel
theorem d1_14 : decode prog_110_method_2_code 14 = .ok (.goto 4, 3) := by decide +kernel
theorem ef_1L1 (m : MethodId) (o0 : Addr) : entryFrame m #[(.ref o0)] 1 = mkF m 0 #[.val (.ref o0)] [] := by first | (simp [entryFrame, mkF, argsToLocals, Value.category]; done) | rfl
def f1L1 (x0 : Int32) : Int32 := (if x0 = (11 : Int32) then (1 : Int32) else (0 : Int32))
def Q1L1 (Z : State) (o0 : Addr) (k_o0 : ClassId) (x0 : Int32) (h0 : Heap) (n0 : Nat) (v : Option Value) (h : Heap) (L : List Loc) : Prop := v = some (.int (f1L1 x0)) ∧ Fr n0 L ∧ h = h0
set_option maxRecDepth 65536 in
set_option maxHeartbeats 40000000 in
theorem rm1L1 (l : Launch) (Z : State) (a0 : Array Value) (hw : ∀ d ∈ tables_1, d.before a0 Z = true) (ws : List Jvm.Cond) (o0 : Addr) (k_o0 : ClassId) (x0 : Int32) (h0 : Heap) (n0 : Nat) (Z0 : n0 ≤ h0.size) (V_o0 : Arv Z h0 o0 k_o0 .byte (1 : Int32) [(.int x0)] (.int (0 : Int32))) :
    MetFree l (⟨"com/example/assaywire/assaywire/protocol/Mllp", "startsBlock", "([B)Z"⟩ : MethodName) (head1 (Jvm.Cond.code (⟨"com/example/assaywire/assaywire/protocol/Mllp", "startsBlock", "([B)Z"⟩ : MethodName) prog_110_method_2_code 1 (some .boolean) :: ws) ({ frames := 0, cells := 0, slots := 0, locals := 0 } : Room)) (fun a U => a = #[(.ref o0)] ∧ Z.Warmed39 U.vm ∧ U.heap = h0) (fun _ _ _ _ _ => True) (fun _ U o U' => ∃ v L, o = .returned v ∧ Q1L1 Z o0 k_o0 x0 h0 n0 v U'.heap L ∧ FrameEnd U o U' L ({ frames := 0, cells := 0, slots := 0, locals := 0 } : Room).cells ({ frames := 0, cells := 0, slots := 0, locals := 0 } : Room).slots) := by
  refine MetFree.of_bodySF (plainFor_of_name pn_1) hisR ?_
  intro p e s m args below meth c s₁ Bd hml0 hP hK
  obtain ⟨rfl, hZ, hh⟩ := hP
  have hx := Bd.exec
  have hby := Bd.bytes
  have hml : c.maxLocals = 1 := hml0
  have hown : s.vm.findClass "com/example/assaywire/assaywire/protocol/Mllp" = some m.cls := findClass_of_methodNamed Bd.named
  have hnm := (name_of_methodNamed Bd.named Bd.method).1
  have X0 : Stand p l e ({ frames := 0, cells := 0, slots := 0, locals := 0 } : Room) s m #[(.ref o0)] below meth c s₁ [] 0 0 := Stand.of_body Bd
  have e0 : s₁.heap = h0 := by rw [← hh, Bd.state]; rfl
  have N0 := Fr.nil n0
  show OGo p e below s (Q1L1 Z o0 k_o0 x0 h0 n0) ({ frames := 0, cells := 0, slots := 0, locals := 0 } : Room).cells ({ frames := 0, cells := 0, slots := 0, locals := 0 } : Room).slots _
  refine OGo.st (fun _ k => castTop (ef_1L1 m o0) k) ?_
  show OGo p e below s _ _ _ (s₁.setTop (mkF m 0 #[.val (.ref o0)] []))
  refine OGo.st (fun _ k => XS.aloadN X0.here hx rfl (hb hby d1_0) rfl rfl k) ?_
  show OGo p e below s _ _ _ (s₁.setTop (mkF m 1 #[.val (.ref o0)] [(.ref o0)]))
  obtain ⟨cl1, Ar1, -, Sz1, Nn1, -, -⟩ := id V_o0
  refine OGo.st (fun _ k => X0.arraylength hx (by rw [e0]; exact Ar1.1) (State.isArrayOf_alike hZ.alike Ar1.2.1) (g := (mkF m 1 #[.val (.ref o0)] [(.ref o0)])) rfl rfl (hb hby d1_1) _ k) ?_
  rw [len_of Sz1 Nn1]
  show OGo p e below s _ _ _ (s₁.setTop (mkF m 2 #[.val (.ref o0)] [(.int (1 : Int32))]))
  refine OGo.st (fun _ k => XS.ifNo X0.here hx rfl (hb hby d1_2) rfl ((if0 _ _).trans (tlt (by decide : (0 : Int32) < (1 : Int32))).2.2.2) k) ?_
  show OGo p e below s _ _ _ (s₁.setTop (mkF m 5 #[.val (.ref o0)] []))
  refine OGo.st (fun _ k => XS.aloadN X0.here hx rfl (hb hby d1_5) rfl rfl k) ?_
  show OGo p e below s _ _ _ (s₁.setTop (mkF m 6 #[.val (.ref o0)] [(.ref o0)]))
  refine OGo.st (fun _ k => XS.iconst X0.here hx rfl (hb hby d1_6) k) ?_
  show OGo p e below s _ _ _ (s₁.setTop (mkF m 7 #[.val (.ref o0)] [(.int (0 : Int32)), (.ref o0)]))
  obtain ⟨cl2, Ar2, q2, Sz2, Nn2, Hs2, Gs2⟩ := id V_o0
  have hin2 : ¬ ((0 : Int32) < 0 ∨ cl2.slots.size ≤ ((0 : Int32)).toNatClampNeg) := inb_of Sz2 ⟨by decide, by decide⟩
  have hat2 : cl2.slots[((0 : Int32)).toNatClampNeg]? = some (.int x0) := Hs2.at hin2 rfl
  refine OGo.st (fun _ k => X0.baloadBytes hx (j := (0 : Int32)) (v := (.int x0)) (by rw [e0]; exact Ar2.1) (State.isArrayOf_alike hZ.alike Ar2.2.1) Ar2.2.2 hin2 hat2 (g := (mkF m 7 #[.val (.ref o0)] [(.int (0 : Int32)), (.ref o0)])) rfl rfl (hb hby d1_7) _ k) ?_
  show OGo p e below s _ _ _ (s₁.setTop (mkF m 8 #[.val (.ref o0)] [(.int x0)]))
  refine OGo.st (fun _ k => XS.bipush X0.here hx rfl (hb hby d1_8) k) ?_
  show OGo p e below s _ _ _ (s₁.setTop (mkF m 10 #[.val (.ref o0)] [(.int (11 : Int32)), (.int x0)]))
  by_cases hc10 : x0 = (11 : Int32)
  · refine OGo.st (fun _ k => XS.icmpNo X0.here hx rfl (hb hby d1_10) rfl (teq hc10).2 k) ?_
    show OGo p e below s _ _ _ (s₁.setTop (mkF m 13 #[.val (.ref o0)] []))
    refine OGo.st (fun _ k => XS.iconst X0.here hx rfl (hb hby d1_13) k) ?_
    show OGo p e below s _ _ _ (s₁.setTop (mkF m 14 #[.val (.ref o0)] [(.int (1 : Int32))]))
    refine OGo.st (fun _ k => XS.goto X0.here hx rfl (pc0 := 14) (pc' := 18) rfl (hb hby d1_14) (by decide) (by decide) k) ?_
    show OGo p e below s _ _ _ (s₁.setTop (mkF m 18 #[.val (.ref o0)] [(.int (1 : Int32))]))
    exact oretN X0 hx Bd.notSynchronized (t := .boolean) Bd.returns (by simp) (hb hby d1_18) (z' := (1 : Int32)) (by decide) e0 ⟨(congrArg (fun z => some (Value.int z)) (show (1 : Int32) = f1L1 x0 from Eq.symm (by unfold f1L1; exact if_pos hc10))), N0, rfl⟩ (by decide) (by decide)
  · refine OGo.st (fun _ k => XS.icmpYes X0.here hx rfl (pc0 := 10) (pc' := 17) rfl (hb hby d1_10) rfl (feq hc10).2 (by decide) (by decide) k) ?_
    show OGo p e below s _ _ _ (s₁.setTop (mkF m 17 #[.val (.ref o0)] []))
    refine OGo.st (fun _ k => XS.iconst X0.here hx rfl (hb hby d1_17) k) ?_
    show OGo p e below s _ _ _ (s₁.setTop (mkF m 18 #[.val (.ref o0)] [(.int (0 : Int32))]))
    exact oretN X0 hx Bd.notSynchronized (t := .boolean) Bd.returns (by simp) (hb hby d1_18) (z' := (0 : Int32)) (by decide) e0 ⟨(congrArg (fun z => some (Value.int z)) (show (0 : Int32) = f1L1 x0 from Eq.symm (by unfold f1L1; exact if_neg hc10))), N0, rfl⟩ (by decide) (by decide)
theorem ef_1L2 (m : MethodId) (o0 : Addr) : entryFrame m #[(.ref o0)] 1 = mkF m 0 #[.val (.ref o0)] [] := by first | (simp [entryFrame, mkF, argsToLocals, Value.category]; done) | rfl
def f1L2 (x0 : Int32) : Int32 := (if x0 = (11 : Int32) then (1 : Int32) else (0 : Int32))
def Q1L2 (Z : State) (o0 : Addr) (k_o0 : ClassId) (x0 : Int32) (x1 : Int32) (h0 : Heap) (n0 : Nat) (v : Option Value) (h : Heap) (L : List Loc) : Prop := v = some (.int (f1L2 x0)) ∧ Fr n0 L ∧ h = h0
set_option maxRecDepth 65536 in
set_option maxHeartbeats 40000000 in
theorem rm1L2 (l : Launch) (Z : State) (a0 : Array Value) (hw : ∀ d ∈ tables_1, d.before a0 Z = true) (ws : List Jvm.Cond) (o0 : Addr) (k_o0 : ClassId) (x0 : Int32) (x1 : Int32) (h0 : Heap) (n0 : Nat) (Z0 : n0 ≤ h0.size) (V_o0 : Arv Z h0 o0 k_o0 .byte (2 : Int32) [(.int x0), (.int x1)] (.int (0 : Int32))) :
    MetFree l (⟨"com/example/assaywire/assaywire/protocol/Mllp", "startsBlock", "([B)Z"⟩ : MethodName) (head1 (Jvm.Cond.code (⟨"com/example/assaywire/assaywire/protocol/Mllp", "startsBlock", "([B)Z"⟩ : MethodName) prog_110_method_2_code 1 (some .boolean) :: ws) ({ frames := 0, cells := 0, slots := 0, locals := 0 } : Room)) (fun a U => a = #[(.ref o0)] ∧ Z.Warmed39 U.vm ∧ U.heap = h0) (fun _ _ _ _ _ => True) (fun _ U o U' => ∃ v L, o = .returned v ∧ Q1L2 Z o0 k_o0 x0 x1 h0 n0 v U'.heap L ∧ FrameEnd U o U' L ({ frames := 0, cells := 0, slots := 0, locals := 0 } : Room).cells ({ frames := 0, cells := 0, slots := 0, locals := 0 } : Room).slots) := by
  refine MetFree.of_bodySF (plainFor_of_name pn_1) hisR ?_
  intro p e s m args below meth c s₁ Bd hml0 hP hK
  obtain ⟨rfl, hZ, hh⟩ := hP
  have hx := Bd.exec
  have hby := Bd.bytes
  have hml : c.maxLocals = 1 := hml0
  have hown : s.vm.findClass "com/example/assaywire/assaywire/protocol/Mllp" = some m.cls := findClass_of_methodNamed Bd.named
  have hnm := (name_of_methodNamed Bd.named Bd.method).1
  have X0 : Stand p l e ({ frames := 0, cells := 0, slots := 0, locals := 0 } : Room) s m #[(.ref o0)] below meth c s₁ [] 0 0 := Stand.of_body Bd
  have e0 : s₁.heap = h0 := by rw [← hh, Bd.state]; rfl
  have N0 := Fr.nil n0
  show OGo p e below s (Q1L2 Z o0 k_o0 x0 x1 h0 n0) ({ frames := 0, cells := 0, slots := 0, locals := 0 } : Room).cells ({ frames := 0, cells := 0, slots := 0, locals := 0 } : Room).slots _
  refine OGo.st (fun _ k => castTop (ef_1L2 m o0) k) ?_
  show OGo p e below s _ _ _ (s₁.setTop (mkF m 0 #[.val (.ref o0)] []))
  refine OGo.st (fun _ k => XS.aloadN X0.here hx rfl (hb hby d1_0) rfl rfl k) ?_
  show OGo p e below s _ _ _ (s₁.setTop (mkF m 1 #[.val (.ref o0)] [(.ref o0)]))
  obtain ⟨cl1, Ar1, -, Sz1, Nn1, -, -⟩ := id V_o0
  refine OGo.st (fun _ k => X0.arraylength hx (by rw [e0]; exact Ar1.1) (State.isArrayOf_alike hZ.alike Ar1.2.1) (g := (mkF m 1 #[.val (.ref o0)] [(.ref o0)])) rfl rfl (hb hby d1_1) _ k) ?_
  rw [len_of Sz1 Nn1]
  show OGo p e below s _ _ _ (s₁.setTop (mkF m 2 #[.val (.ref o0)] [(.int (2 : Int32))]))
  refine OGo.st (fun _ k => XS.ifNo X0.here hx rfl (hb hby d1_2) rfl ((if0 _ _).trans (tlt (by decide : (0 : Int32) < (2 : Int32))).2.2.2) k) ?_
  show OGo p e below s _ _ _ (s₁.setTop (mkF m 5 #[.val (.ref o0)] []))
  refine OGo.st (fun _ k => XS.aloadN X0.here hx rfl (hb hby d1_5) rfl rfl k) ?_
  show OGo p e below s _ _ _ (s₁.setTop (mkF m 6 #[.val (.ref o0)] [(.ref o0)]))
  refine OGo.st (fun _ k => XS.iconst X0.here hx rfl (hb hby d1_6) k) ?_
  show OGo p e below s _ _ _ (s₁.setTop (mkF m 7 #[.val (.ref o0)] [(.int (0 : Int32)), (.ref o0)]))
  obtain ⟨cl2, Ar2, q2, Sz2, Nn2, Hs2, Gs2⟩ := id V_o0
  have hin2 : ¬ ((0 : Int32) < 0 ∨ cl2.slots.size ≤ ((0 : Int32)).toNatClampNeg) := inb_of Sz2 ⟨by decide, by decide⟩
  have hat2 : cl2.slots[((0 : Int32)).toNatClampNeg]? = some (.int x0) := Hs2.at hin2 rfl
  refine OGo.st (fun _ k => X0.baloadBytes hx (j := (0 : Int32)) (v := (.int x0)) (by rw [e0]; exact Ar2.1) (State.isArrayOf_alike hZ.alike Ar2.2.1) Ar2.2.2 hin2 hat2 (g := (mkF m 7 #[.val (.ref o0)] [(.int (0 : Int32)), (.ref o0)])) rfl rfl (hb hby d1_7) _ k) ?_
  show OGo p e below s _ _ _ (s₁.setTop (mkF m 8 #[.val (.ref o0)] [(.int x0)]))
  refine OGo.st (fun _ k => XS.bipush X0.here hx rfl (hb hby d1_8) k) ?_
  show OGo p e below s _ _ _ (s₁.setTop (mkF m 10 #[.val (.ref o0)] [(.int (11 : Int32)), (.int x0)]))
  by_cases hc10 : x0 = (11 : Int32)
  · refine OGo.st (fun _ k => XS.icmpNo X0.here hx rfl (hb hby d1_10) rfl (teq hc10).2 k) ?_
    show OGo p e below s _ _ _ (s₁.setTop (mkF m 13 #[.val (.ref o0)] []))
    refine OGo.st (fun _ k => XS.iconst X0.here hx rfl (hb hby d1_13) k) ?_
    show OGo p e below s _ _ _ (s₁.setTop (mkF m 14 #[.val (.ref o0)] [(.int (1 : Int32))]))
    refine OGo.st (fun _ k => XS.goto X0.here hx rfl (pc0 := 14) (pc' := 18) rfl (hb hby d1_14) (by decide) (by decide) k) ?_
    show OGo p e below s _ _ _ (s₁.setTop (mkF m 18 #[.val (.ref o0)] [(.int (1 : Int32))]))
    exact oretN X0 hx Bd.notSynchronized (t := .boolean) Bd.returns (by simp) (hb hby d1_18) (z' := (1 : Int32)) (by decide) e0 ⟨(congrArg (fun z => some (Value.int z)) (show (1 : Int32) = f1L2 x0 from Eq.symm (by unfold f1L2; exact if_pos hc10))), N0, rfl⟩ (by decide) (by decide)
  · refine OGo.st (fun _ k => XS.icmpYes X0.here hx rfl (pc0 := 10) (pc' := 17) rfl (hb hby d1_10) rfl (feq hc10).2 (by decide) (by decide) k) ?_
    show OGo p e below s _ _ _ (s₁.setTop (mkF m 17 #[.val (.ref o0)] []))
    refine OGo.st (fun _ k => XS.iconst X0.here hx rfl (hb hby d1_17) k) ?_
    show OGo p e below s _ _ _ (s₁.setTop (mkF m 18 #[.val (.ref o0)] [(.int (0 : Int32))]))
    exact oretN X0 hx Bd.notSynchronized (t := .boolean) Bd.returns (by simp) (hb hby d1_18) (z' := (0 : Int32)) (by decide) e0 ⟨(congrArg (fun z => some (Value.int z)) (show (0 : Int32) = f1L2 x0 from Eq.symm (by unfold f1L2; exact if_neg hc10))), N0, rfl⟩ (by decide) (by decide)
theorem ef_1L3 (m : MethodId) (o0 : Addr) : entryFrame m #[(.ref o0)] 1 = mkF m 0 #[.val (.ref o0)] [] := by first | (simp [entryFrame, mkF, argsToLocals, Value.category]; done) | rfl
def f1L3 (x0 : Int32) : Int32 := (if x0 = (11 : Int32) then (1 : Int32) else (0 : Int32))
def Q1L3 (Z : State) (o0 : Addr) (k_o0 : ClassId) (x0 : Int32) (x1 : Int32) (x2 : Int32) (h0 : Heap) (n0 : Nat) (v : Option Value) (h : Heap) (L : List Loc) : Prop := v = some (.int (f1L3 x0)) ∧ Fr n0 L ∧ h = h0
set_option maxRecDepth 65536 in
set_option maxHeartbeats 40000000 in
theorem rm1L3 (l : Launch) (Z : State) (a0 : Array Value) (hw : ∀ d ∈ tables_1, d.before a0 Z = true) (ws : List Jvm.Cond) (o0 : Addr) (k_o0 : ClassId) (x0 : Int32) (x1 : Int32) (x2 : Int32) (h0 : Heap) (n0 : Nat) (Z0 : n0 ≤ h0.size) (V_o0 : Arv Z h0 o0 k_o0 .byte (3 : Int32) [(.int x0), (.int x1), (.int x2)] (.int (0 : Int32))) :
    MetFree l (⟨"com/example/assaywire/assaywire/protocol/Mllp", "startsBlock", "([B)Z"⟩ : MethodName) (head1 (Jvm.Cond.code (⟨"com/example/assaywire/assaywire/protocol/Mllp", "startsBlock", "([B)Z"⟩ : MethodName) prog_110_method_2_code 1 (some .boolean) :: ws) ({ frames := 0, cells := 0, slots := 0, locals := 0 } : Room)) (fun a U => a = #[(.ref o0)] ∧ Z.Warmed39 U.vm ∧ U.heap = h0) (fun _ _ _ _ _ => True) (fun _ U o U' => ∃ v L, o = .returned v ∧ Q1L3 Z o0 k_o0 x0 x1 x2 h0 n0 v U'.heap L ∧ FrameEnd U o U' L ({ frames := 0, cells := 0, slots := 0, locals := 0 } : Room).cells ({ frames := 0, cells := 0, slots := 0, locals := 0 } : Room).slots) := by
  refine MetFree.of_bodySF (plainFor_of_name pn_1) hisR ?_
  intro p e s m args below meth c s₁ Bd hml0 hP hK
  obtain ⟨rfl, hZ, hh⟩ := hP
  have hx := Bd.exec
  have hby := Bd.bytes
  have hml : c.maxLocals = 1 := hml0
  have hown : s.vm.findClass "com/example/assaywire/assaywire/protocol/Mllp" = some m.cls := findClass_of_methodNamed Bd.named
  have hnm := (name_of_methodNamed Bd.named Bd.method).1
  have X0 : Stand p l e ({ frames := 0, cells := 0, slots := 0, locals := 0 } : Room) s m #[(.ref o0)] below meth c s₁ [] 0 0 := Stand.of_body Bd
  have e0 : s₁.heap = h0 := by rw [← hh, Bd.state]; rfl
  have N0 := Fr.nil n0
  show OGo p e below s (Q1L3 Z o0 k_o0 x0 x1 x2 h0 n0) ({ frames := 0, cells := 0, slots := 0, locals := 0 } : Room).cells ({ frames := 0, cells := 0, slots := 0, locals := 0 } : Room).slots _
  refine OGo.st (fun _ k => castTop (ef_1L3 m o0) k) ?_
  show OGo p e below s _ _ _ (s₁.setTop (mkF m 0 #[.val (.ref o0)] []))
  refine OGo.st (fun _ k => XS.aloadN X0.here hx rfl (hb hby d1_0) rfl rfl k) ?_
  show OGo p e below s _ _ _ (s₁.setTop (mkF m 1 #[.val (.ref o0)] [(.ref o0)]))
  obtain ⟨cl1, Ar1, -, Sz1, Nn1, -, -⟩ := id V_o0
  refine OGo.st (fun _ k => X0.arraylength hx (by rw [e0]; exact Ar1.1) (State.isArrayOf_alike hZ.alike Ar1.2.1) (g := (mkF m 1 #[.val (.ref o0)] [(.ref o0)])) rfl rfl (hb hby d1_1) _ k) ?_
  rw [len_of Sz1 Nn1]
  show OGo p e below s _ _ _ (s₁.setTop (mkF m 2 #[.val (.ref o0)] [(.int (3 : Int32))]))
  refine OGo.st (fun _ k => XS.ifNo X0.here hx rfl (hb hby d1_2) rfl ((if0 _ _).trans (tlt (by decide : (0 : Int32) < (3 : Int32))).2.2.2) k) ?_
  show OGo p e below s _ _ _ (s₁.setTop (mkF m 5 #[.val (.ref o0)] []))
  refine OGo.st (fun _ k => XS.aloadN X0.here hx rfl (hb hby d1_5) rfl rfl k) ?_
  show OGo p e below s _ _ _ (s₁.setTop (mkF m 6 #[.val (.ref o0)] [(.ref o0)]))
  refine OGo.st (fun _ k => XS.iconst X0.here hx rfl (hb hby d1_6) k) ?_
  show OGo p e below s _ _ _ (s₁.setTop (mkF m 7 #[.val (.ref o0)] [(.int (0 : Int32)), (.ref o0)]))
  obtain ⟨cl2, Ar2, q2, Sz2, Nn2, Hs2, Gs2⟩ := id V_o0
  have hin2 : ¬ ((0 : Int32) < 0 ∨ cl2.slots.size ≤ ((0 : Int32)).toNatClampNeg) := inb_of Sz2 ⟨by decide, by decide⟩
  have hat2 : cl2.slots[((0 : Int32)).toNatClampNeg]? = some (.int x0) := Hs2.at hin2 rfl
  refine OGo.st (fun _ k => X0.baloadBytes hx (j := (0 : Int32)) (v := (.int x0)) (by rw [e0]; exact Ar2.1) (State.isArrayOf_alike hZ.alike Ar2.2.1) Ar2.2.2 hin2 hat2 (g := (mkF m 7 #[.val (.ref o0)] [(.int (0 : Int32)), (.ref o0)])) rfl rfl (hb hby d1_7) _ k) ?_
  show OGo p e below s _ _ _ (s₁.setTop (mkF m 8 #[.val (.ref o0)] [(.int x0)]))
  refine OGo.st (fun _ k => XS.bipush X0.here hx rfl (hb hby d1_8) k) ?_
  show OGo p e below s _ _ _ (s₁.setTop (mkF m 10 #[.val (.ref o0)] [(.int (11 : Int32)), (.int x0)]))
  by_cases hc10 : x0 = (11 : Int32)
  · refine OGo.st (fun _ k => XS.icmpNo X0.here hx rfl (hb hby d1_10) rfl (teq hc10).2 k) ?_
    show OGo p e below s _ _ _ (s₁.setTop (mkF m 13 #[.val (.ref o0)] []))
    refine OGo.st (fun _ k => XS.iconst X0.here hx rfl (hb hby d1_13) k) ?_
    show OGo p e below s _ _ _ (s₁.setTop (mkF m 14 #[.val (.ref o0)] [(.int (1 : Int32))]))
    refine OGo.st (fun _ k => XS.goto X0.here hx rfl (pc0 := 14) (pc' := 18) rfl (hb hby d1_14) (by decide) (by decide) k) ?_
    show OGo p e below s _ _ _ (s₁.setTop (mkF m 18 #[.val (.ref o0)] [(.int (1 : Int32))]))
    exact oretN X0 hx Bd.notSynchronized (t := .boolean) Bd.returns (by simp) (hb hby d1_18) (z' := (1 : Int32)) (by decide) e0 ⟨(congrArg (fun z => some (Value.int z)) (show (1 : Int32) = f1L3 x0 from Eq.symm (by unfold f1L3; exact if_pos hc10))), N0, rfl⟩ (by decide) (by decide)
  · refine OGo.st (fun _ k => XS.icmpYes X0.here hx rfl (pc0 := 10) (pc' := 17) rfl (hb hby d1_10) rfl (feq hc10).2 (by decide) (by decide) k) ?_
    show OGo p e below s _ _ _ (s₁.setTop (mkF m 17 #[.val (.ref o0)] []))
    refine OGo.st (fun _ k => XS.iconst X0.here hx rfl (hb hby d1_17) k) ?_
    show OGo p e below s _ _ _ (s₁.setTop (mkF m 18 #[.val (.ref o0)] [(.int (0 : Int32))]))
    exact oretN X0 hx Bd.notSynchronized (t := .boolean) Bd.returns (by simp) (hb hby d1_18) (z' := (0 : Int32)) (by decide) e0 ⟨(congrArg (fun z => some (Value.int z)) (show (0 : Int32) = f1L3 x0 from Eq.symm (by unfold f1L3; exact if_neg hc10))), N0, rfl⟩ (by decide) (by decide)
theorem ef_1L4 (m : MethodId) (o0 : Addr) : entryFrame m #[(.ref o0)] 1 = mkF m 0 #[.val (.ref o0)] [] := by first | (simp [entryFrame, mkF, argsToLocals, Value.category]; done) | rfl
def f1L4 (x0 : Int32) : Int32 := (if x0 = (11 : Int32) then (1 : Int32) else (0 : Int32))
def Q1L4 (Z : State) (o0 : Addr) (k_o0 : ClassId) (x0 : Int32) (x1 : Int32) (x2 : Int32) (x3 : Int32) (h0 : Heap) (n0 : Nat) (v : Option Value) (h : Heap) (L : List Loc) : Prop := v = some (.int (f1L4 x0)) ∧ Fr n0 L ∧ h = h0
set_option maxRecDepth 65536 in
set_option maxHeartbeats 40000000 in
theorem rm1L4 (l : Launch) (Z : State) (a0 : Array Value) (hw : ∀ d ∈ tables_1, d.before a0 Z = true) (ws : List Jvm.Cond) (o0 : Addr) (k_o0 : ClassId) (x0 : Int32) (x1 : Int32) (x2 : Int32) (x3 : Int32) (h0 : Heap) (n0 : Nat) (Z0 : n0 ≤ h0.size) (V_o0 : Arv Z h0 o0 k_o0 .byte (4 : Int32) [(.int x0), (.int x1), (.int x2), (.int x3)] (.int (0 : Int32))) :
    MetFree l (⟨"com/example/assaywire/assaywire/protocol/Mllp", "startsBlock", "([B)Z"⟩ : MethodName) (head1 (Jvm.Cond.code (⟨"com/example/assaywire/assaywire/protocol/Mllp", "startsBlock", "([B)Z"⟩ : MethodName) prog_110_method_2_code 1 (some .boolean) :: ws) ({ frames := 0, cells := 0, slots := 0, locals := 0 } : Room)) (fun a U => a = #[(.ref o0)] ∧ Z.Warmed39 U.vm ∧ U.heap = h0) (fun _ _ _ _ _ => True) (fun _ U o U' => ∃ v L, o = .returned v ∧ Q1L4 Z o0 k_o0 x0 x1 x2 x3 h0 n0 v U'.heap L ∧ FrameEnd U o U' L ({ frames := 0, cells := 0, slots := 0, locals := 0 } : Room).cells ({ frames := 0, cells := 0, slots := 0, locals := 0 } : Room).slots) := by
  refine MetFree.of_bodySF (plainFor_of_name pn_1) hisR ?_
  intro p e s m args below meth c s₁ Bd hml0 hP hK
  obtain ⟨rfl, hZ, hh⟩ := hP
  have hx := Bd.exec
  have hby := Bd.bytes
  have hml : c.maxLocals = 1 := hml0
  have hown : s.vm.findClass "com/example/assaywire/assaywire/protocol/Mllp" = some m.cls := findClass_of_methodNamed Bd.named
  have hnm := (name_of_methodNamed Bd.named Bd.method).1
  have X0 : Stand p l e ({ frames := 0, cells := 0, slots := 0, locals := 0 } : Room) s m #[(.ref o0)] below meth c s₁ [] 0 0 := Stand.of_body Bd
  have e0 : s₁.heap = h0 := by rw [← hh, Bd.state]; rfl
  have N0 := Fr.nil n0
  show OGo p e below s (Q1L4 Z o0 k_o0 x0 x1 x2 x3 h0 n0) ({ frames := 0, cells := 0, slots := 0, locals := 0 } : Room).cells ({ frames := 0, cells := 0, slots := 0, locals := 0 } : Room).slots _
  refine OGo.st (fun _ k => castTop (ef_1L4 m o0) k) ?_
  show OGo p e below s _ _ _ (s₁.setTop (mkF m 0 #[.val (.ref o0)] []))
  refine OGo.st (fun _ k => XS.aloadN X0.here hx rfl (hb hby d1_0) rfl rfl k) ?_
  show OGo p e below s _ _ _ (s₁.setTop (mkF m 1 #[.val (.ref o0)] [(.ref o0)]))
  obtain ⟨cl1, Ar1, -, Sz1, Nn1, -, -⟩ := id V_o0
  refine OGo.st (fun _ k => X0.arraylength hx (by rw [e0]; exact Ar1.1) (State.isArrayOf_alike hZ.alike Ar1.2.1) (g := (mkF m 1 #[.val (.ref o0)] [(.ref o0)])) rfl rfl (hb hby d1_1) _ k) ?_
  rw [len_of Sz1 Nn1]
  show OGo p e below s _ _ _ (s₁.setTop (mkF m 2 #[.val (.ref o0)] [(.int (4 : Int32))]))
  refine OGo.st (fun _ k => XS.ifNo X0.here hx rfl (hb hby d1_2) rfl ((if0 _ _).trans (tlt (by decide : (0 : Int32) < (4 : Int32))).2.2.2) k) ?_
  show OGo p e below s _ _ _ (s₁.setTop (mkF m 5 #[.val (.ref o0)] []))
  refine OGo.st (fun _ k => XS.aloadN X0.here hx rfl (hb hby d1_5) rfl rfl k) ?_
  show OGo p e below s _ _ _ (s₁.setTop (mkF m 6 #[.val (.ref o0)] [(.ref o0)]))
  refine OGo.st (fun _ k => XS.iconst X0.here hx rfl (hb hby d1_6) k) ?_
  show OGo p e below s _ _ _ (s₁.setTop (mkF m 7 #[.val (.ref o0)] [(.int (0 : Int32)), (.ref o0)]))
  obtain ⟨cl2, Ar2, q2, Sz2, Nn2, Hs2, Gs2⟩ := id V_o0
  have hin2 : ¬ ((0 : Int32) < 0 ∨ cl2.slots.size ≤ ((0 : Int32)).toNatClampNeg) := inb_of Sz2 ⟨by decide, by decide⟩
  have hat2 : cl2.slots[((0 : Int32)).toNatClampNeg]? = some (.int x0) := Hs2.at hin2 rfl
  refine OGo.st (fun _ k => X0.baloadBytes hx (j := (0 : Int32)) (v := (.int x0)) (by rw [e0]; exact Ar2.1) (State.isArrayOf_alike hZ.alike Ar2.2.1) Ar2.2.2 hin2 hat2 (g := (mkF m 7 #[.val (.ref o0)] [(.int (0 : Int32)), (.ref o0)])) rfl rfl (hb hby d1_7) _ k) ?_
  show OGo p e below s _ _ _ (s₁.setTop (mkF m 8 #[.val (.ref o0)] [(.int x0)]))
  refine OGo.st (fun _ k => XS.bipush X0.here hx rfl (hb hby d1_8) k) ?_
  show OGo p e below s _ _ _ (s₁.setTop (mkF m 10 #[.val (.ref o0)] [(.int (11 : Int32)), (.int x0)]))
  by_cases hc10 : x0 = (11 : Int32)
  · refine OGo.st (fun _ k => XS.icmpNo X0.here hx rfl (hb hby d1_10) rfl (teq hc10).2 k) ?_
    show OGo p e below s _ _ _ (s₁.setTop (mkF m 13 #[.val (.ref o0)] []))
    refine OGo.st (fun _ k => XS.iconst X0.here hx rfl (hb hby d1_13) k) ?_
    show OGo p e below s _ _ _ (s₁.setTop (mkF m 14 #[.val (.ref o0)] [(.int (1 : Int32))]))
    refine OGo.st (fun _ k => XS.goto X0.here hx rfl (pc0 := 14) (pc' := 18) rfl (hb hby d1_14) (by decide) (by decide) k) ?_
    show OGo p e below s _ _ _ (s₁.setTop (mkF m 18 #[.val (.ref o0)] [(.int (1 : Int32))]))
    exact oretN X0 hx Bd.notSynchronized (t := .boolean) Bd.returns (by simp) (hb hby d1_18) (z' := (1 : Int32)) (by decide) e0 ⟨(congrArg (fun z => some (Value.int z)) (show (1 : Int32) = f1L4 x0 from Eq.symm (by unfold f1L4; exact if_pos hc10))), N0, rfl⟩ (by decide) (by decide)
  · refine OGo.st (fun _ k => XS.icmpYes X0.here hx rfl (pc0 := 10) (pc' := 17) rfl (hb hby d1_10) rfl (feq hc10).2 (by decide) (by decide) k) ?_
    show OGo p e below s _ _ _ (s₁.setTop (mkF m 17 #[.val (.ref o0)] []))
    refine OGo.st (fun _ k => XS.iconst X0.here hx rfl (hb hby d1_17) k) ?_
    show OGo p e below s _ _ _ (s₁.setTop (mkF m 18 #[.val (.ref o0)] [(.int (0 : Int32))]))
    exact oretN X0 hx Bd.notSynchronized (t := .boolean) Bd.returns (by simp) (hb hby d1_18) (z' := (0 : Int32)) (by decide) e0 ⟨(congrArg (fun z => some (Value.int z)) (show (0 : Int32) = f1L4 x0 from Eq.symm (by unfold f1L4; exact if_neg hc10))), N0, rfl⟩ (by decide) (by decide)
theorem ef_1L5 (m : MethodId) (o0 : Addr) : entryFrame m #[(.ref o0)] 1 = mkF m 0 #[.val (.ref o0)] [] := by first | (simp [entryFrame, mkF, argsToLocals, Value.category]; done) | rfl
def f1L5 (x0 : Int32) : Int32 := (if x0 = (11 : Int32) then (1 : Int32) else (0 : Int32))
def Q1L5 (Z : State) (o0 : Addr) (k_o0 : ClassId) (x0 : Int32) (x1 : Int32) (x2 : Int32) (x3 : Int32) (x4 : Int32) (h0 : Heap) (n0 : Nat) (v : Option Value) (h : Heap) (L : List Loc) : Prop := v = some (.int (f1L5 x0)) ∧ Fr n0 L ∧ h = h0
set_option maxRecDepth 65536 in
set_option maxHeartbeats 40000000 in
theorem rm1L5 (l : Launch) (Z : State) (a0 : Array Value) (hw : ∀ d ∈ tables_1, d.before a0 Z = true) (ws : List Jvm.Cond) (o0 : Addr) (k_o0 : ClassId) (x0 : Int32) (x1 : Int32) (x2 : Int32) (x3 : Int32) (x4 : Int32) (h0 : Heap) (n0 : Nat) (Z0 : n0 ≤ h0.size) (V_o0 : Arv Z h0 o0 k_o0 .byte (5 : Int32) [(.int x0), (.int x1), (.int x2), (.int x3), (.int x4)] (.int (0 : Int32))) :
    MetFree l (⟨"com/example/assaywire/assaywire/protocol/Mllp", "startsBlock", "([B)Z"⟩ : MethodName) (head1 (Jvm.Cond.code (⟨"com/example/assaywire/assaywire/protocol/Mllp", "startsBlock", "([B)Z"⟩ : MethodName) prog_110_method_2_code 1 (some .boolean) :: ws) ({ frames := 0, cells := 0, slots := 0, locals := 0 } : Room)) (fun a U => a = #[(.ref o0)] ∧ Z.Warmed39 U.vm ∧ U.heap = h0) (fun _ _ _ _ _ => True) (fun _ U o U' => ∃ v L, o = .returned v ∧ Q1L5 Z o0 k_o0 x0 x1 x2 x3 x4 h0 n0 v U'.heap L ∧ FrameEnd U o U' L ({ frames := 0, cells := 0, slots := 0, locals := 0 } : Room).cells ({ frames := 0, cells := 0, slots := 0, locals := 0 } : Room).slots) := by
  refine MetFree.of_bodySF (plainFor_of_name pn_1) hisR ?_
  intro p e s m args below meth c s₁ Bd hml0 hP hK
  obtain ⟨rfl, hZ, hh⟩ := hP
  have hx := Bd.exec
  have hby := Bd.bytes
  have hml : c.maxLocals = 1 := hml0
  have hown : s.vm.findClass "com/example/assaywire/assaywire/protocol/Mllp" = some m.cls := findClass_of_methodNamed Bd.named
  have hnm := (name_of_methodNamed Bd.named Bd.method).1
  have X0 : Stand p l e ({ frames := 0, cells := 0, slots := 0, locals := 0 } : Room) s m #[(.ref o0)] below meth c s₁ [] 0 0 := Stand.of_body Bd
  have e0 : s₁.heap = h0 := by rw [← hh, Bd.state]; rfl
  have N0 := Fr.nil n0
  show OGo p e below s (Q1L5 Z o0 k_o0 x0 x1 x2 x3 x4 h0 n0) ({ frames := 0, cells := 0, slots := 0, locals := 0 } : Room).cells ({ frames := 0, cells := 0, slots := 0, locals := 0 } : Room).slots _
  refine OGo.st (fun _ k => castTop (ef_1L5 m o0) k) ?_
  show OGo p e below s _ _ _ (s₁.setTop (mkF m 0 #[.val (.ref o0)] []))
  refine OGo.st (fun _ k => XS.aloadN X0.here hx rfl (hb hby d1_0) rfl rfl k) ?_
  show OGo p e below s _ _ _ (s₁.setTop (mkF m 1 #[.val (.ref o0)] [(.ref o0)]))
  obtain ⟨cl1, Ar1, -, Sz1, Nn1, -, -⟩ := id V_o0
  refine OGo.st (fun _ k => X0.arraylength hx (by rw [e0]; exact Ar1.1) (State.isArrayOf_alike hZ.alike Ar1.2.1) (g := (mkF m 1 #[.val (.ref o0)] [(.ref o0)])) rfl rfl (hb hby d1_1) _ k) ?_
  rw [len_of Sz1 Nn1]
  show OGo p e below s _ _ _ (s₁.setTop (mkF m 2 #[.val (.ref o0)] [(.int (5 : Int32))]))
  refine OGo.st (fun _ k => XS.ifNo X0.here hx rfl (hb hby d1_2) rfl ((if0 _ _).trans (tlt (by decide : (0 : Int32) < (5 : Int32))).2.2.2) k) ?_
  show OGo p e below s _ _ _ (s₁.setTop (mkF m 5 #[.val (.ref o0)] []))
  refine OGo.st (fun _ k => XS.aloadN X0.here hx rfl (hb hby d1_5) rfl rfl k) ?_
  show OGo p e below s _ _ _ (s₁.setTop (mkF m 6 #[.val (.ref o0)] [(.ref o0)]))
  refine OGo.st (fun _ k => XS.iconst X0.here hx rfl (hb hby d1_6) k) ?_
  show OGo p e below s _ _ _ (s₁.setTop (mkF m 7 #[.val (.ref o0)] [(.int (0 : Int32)), (.ref o0)]))
  obtain ⟨cl2, Ar2, q2, Sz2, Nn2, Hs2, Gs2⟩ := id V_o0
  have hin2 : ¬ ((0 : Int32) < 0 ∨ cl2.slots.size ≤ ((0 : Int32)).toNatClampNeg) := inb_of Sz2 ⟨by decide, by decide⟩
  have hat2 : cl2.slots[((0 : Int32)).toNatClampNeg]? = some (.int x0) := Hs2.at hin2 rfl
  refine OGo.st (fun _ k => X0.baloadBytes hx (j := (0 : Int32)) (v := (.int x0)) (by rw [e0]; exact Ar2.1) (State.isArrayOf_alike hZ.alike Ar2.2.1) Ar2.2.2 hin2 hat2 (g := (mkF m 7 #[.val (.ref o0)] [(.int (0 : Int32)), (.ref o0)])) rfl rfl (hb hby d1_7) _ k) ?_
  show OGo p e below s _ _ _ (s₁.setTop (mkF m 8 #[.val (.ref o0)] [(.int x0)]))
  refine OGo.st (fun _ k => XS.bipush X0.here hx rfl (hb hby d1_8) k) ?_
  show OGo p e below s _ _ _ (s₁.setTop (mkF m 10 #[.val (.ref o0)] [(.int (11 : Int32)), (.int x0)]))
  by_cases hc10 : x0 = (11 : Int32)
  · refine OGo.st (fun _ k => XS.icmpNo X0.here hx rfl (hb hby d1_10) rfl (teq hc10).2 k) ?_
    show OGo p e below s _ _ _ (s₁.setTop (mkF m 13 #[.val (.ref o0)] []))
    refine OGo.st (fun _ k => XS.iconst X0.here hx rfl (hb hby d1_13) k) ?_
    show OGo p e below s _ _ _ (s₁.setTop (mkF m 14 #[.val (.ref o0)] [(.int (1 : Int32))]))
    refine OGo.st (fun _ k => XS.goto X0.here hx rfl (pc0 := 14) (pc' := 18) rfl (hb hby d1_14) (by decide) (by decide) k) ?_
    show OGo p e below s _ _ _ (s₁.setTop (mkF m 18 #[.val (.ref o0)] [(.int (1 : Int32))]))
    exact oretN X0 hx Bd.notSynchronized (t := .boolean) Bd.returns (by simp) (hb hby d1_18) (z' := (1 : Int32)) (by decide) e0 ⟨(congrArg (fun z => some (Value.int z)) (show (1 : Int32) = f1L5 x0 from Eq.symm (by unfold f1L5; exact if_pos hc10))), N0, rfl⟩ (by decide) (by decide)
  · refine OGo.st (fun _ k => XS.icmpYes X0.here hx rfl (pc0 := 10) (pc' := 17) rfl (hb hby d1_10) rfl (feq hc10).2 (by decide) (by decide) k) ?_
    show OGo p e below s _ _ _ (s₁.setTop (mkF m 17 #[.val (.ref o0)] []))
    refine OGo.st (fun _ k => XS.iconst X0.here hx rfl (hb hby d1_17) k) ?_
    show OGo p e below s _ _ _ (s₁.setTop (mkF m 18 #[.val (.ref o0)] [(.int (0 : Int32))]))
    exact oretN X0 hx Bd.notSynchronized (t := .boolean) Bd.returns (by simp) (hb hby d1_18) (z' := (0 : Int32)) (by decide) e0 ⟨(congrArg (fun z => some (Value.int z)) (show (0 : Int32) = f1L5 x0 from Eq.symm (by unfold f1L5; exact if_neg hc10))), N0, rfl⟩ (by decide) (by decide)
theorem ef_1L6 (m : MethodId) (o0 : Addr) : entryFrame m #[(.ref o0)] 1 = mkF m 0 #[.val (.ref o0)] [] := by first | (simp [entryFrame, mkF, argsToLocals, Value.category]; done) | rfl
def f1L6 (x0 : Int32) : Int32 := (if x0 = (11 : Int32) then (1 : Int32) else (0 : Int32))
def Q1L6 (Z : State) (o0 : Addr) (k_o0 : ClassId) (x0 : Int32) (x1 : Int32) (x2 : Int32) (x3 : Int32) (x4 : Int32) (x5 : Int32) (h0 : Heap) (n0 : Nat) (v : Option Value) (h : Heap) (L : List Loc) : Prop := v = some (.int (f1L6 x0)) ∧ Fr n0 L ∧ h = h0
set_option maxRecDepth 65536 in
set_option maxHeartbeats 40000000 in
theorem rm1L6 (l : Launch) (Z : State) (a0 : Array Value) (hw : ∀ d ∈ tables_1, d.before a0 Z = true) (ws : List Jvm.Cond) (o0 : Addr) (k_o0 : ClassId) (x0 : Int32) (x1 : Int32) (x2 : Int32) (x3 : Int32) (x4 : Int32) (x5 : Int32) (h0 : Heap) (n0 : Nat) (Z0 : n0 ≤ h0.size) (V_o0 : Arv Z h0 o0 k_o0 .byte (6 : Int32) [(.int x0), (.int x1), (.int x2), (.int x3), (.int x4), (.int x5)] (.int (0 : Int32))) :
    MetFree l (⟨"com/example/assaywire/assaywire/protocol/Mllp", "startsBlock", "([B)Z"⟩ : MethodName) (head1 (Jvm.Cond.code (⟨"com/example/assaywire/assaywire/protocol/Mllp", "startsBlock", "([B)Z"⟩ : MethodName) prog_110_method_2_code 1 (some .boolean) :: ws) ({ frames := 0, cells := 0, slots := 0, locals := 0 } : Room)) (fun a U => a = #[(.ref o0)] ∧ Z.Warmed39 U.vm ∧ U.heap = h0) (fun _ _ _ _ _ => True) (fun _ U o U' => ∃ v L, o = .returned v ∧ Q1L6 Z o0 k_o0 x0 x1 x2 x3 x4 x5 h0 n0 v U'.heap L ∧ FrameEnd U o U' L ({ frames := 0, cells := 0, slots := 0, locals := 0 } : Room).cells ({ frames := 0, cells := 0, slots := 0, locals := 0 } : Room).slots) := by
  refine MetFree.of_bodySF (plainFor_of_name pn_1) hisR ?_
  intro p e s m args below meth c s₁ Bd hml0 hP hK
  obtain ⟨rfl, hZ, hh⟩ := hP
  have hx := Bd.exec
  have hby := Bd.bytes
  have hml : c.maxLocals = 1 := hml0
  have hown : s.vm.findClass "com/example/assaywire/assaywire/protocol/Mllp" = some m.cls := findClass_of_methodNamed Bd.named
  have hnm := (name_of_methodNamed Bd.named Bd.method).1
  have X0 : Stand p l e ({ frames := 0, cells := 0, slots := 0, locals := 0 } : Room) s m #[(.ref o0)] below meth c s₁ [] 0 0 := Stand.of_body Bd
  have e0 : s₁.heap = h0 := by rw [← hh, Bd.state]; rfl
  have N0 := Fr.nil n0
  show OGo p e below s (Q1L6 Z o0 k_o0 x0 x1 x2 x3 x4 x5 h0 n0) ({ frames := 0, cells := 0, slots := 0, locals := 0 } : Room).cells ({ frames := 0, cells := 0, slots := 0, locals := 0 } : Room).slots _
  refine OGo.st (fun _ k => castTop (ef_1L6 m o0) k) ?_
  show OGo p e below s _ _ _ (s₁.setTop (mkF m 0 #[.val (.ref o0)] []))
  refine OGo.st (fun _ k => XS.aloadN X0.here hx rfl (hb hby d1_0) rfl rfl k) ?_
  show OGo p e below s _ _ _ (s₁.setTop (mkF m 1 #[.val (.ref o0)] [(.ref o0)]))
  obtain ⟨cl1, Ar1, -, Sz1, Nn1, -, -⟩ := id V_o0
  refine OGo.st (fun _ k => X0.arraylength hx (by rw [e0]; exact Ar1.1) (State.isArrayOf_alike hZ.alike Ar1.2.1) (g := (mkF m 1 #[.val (.ref o0)] [(.ref o0)])) rfl rfl (hb hby d1_1) _ k) ?_
  rw [len_of Sz1 Nn1]
  show OGo p e below s _ _ _ (s₁.setTop (mkF m 2 #[.val (.ref o0)] [(.int (6 : Int32))]))
  refine OGo.st (fun _ k => XS.ifNo X0.here hx rfl (hb hby d1_2) rfl ((if0 _ _).trans (tlt (by decide : (0 : Int32) < (6 : Int32))).2.2.2) k) ?_
  show OGo p e below s _ _ _ (s₁.setTop (mkF m 5 #[.val (.ref o0)] []))
  refine OGo.st (fun _ k => XS.aloadN X0.here hx rfl (hb hby d1_5) rfl rfl k) ?_
  show OGo p e below s _ _ _ (s₁.setTop (mkF m 6 #[.val (.ref o0)] [(.ref o0)]))
  refine OGo.st (fun _ k => XS.iconst X0.here hx rfl (hb hby d1_6) k) ?_
  show OGo p e below s _ _ _ (s₁.setTop (mkF m 7 #[.val (.ref o0)] [(.int (0 : Int32)), (.ref o0)]))
  obtain ⟨cl2, Ar2, q2, Sz2, Nn2, Hs2, Gs2⟩ := id V_o0
  have hin2 : ¬ ((0 : Int32) < 0 ∨ cl2.slots.size ≤ ((0 : Int32)).toNatClampNeg) := inb_of Sz2 ⟨by decide, by decide⟩
  have hat2 : cl2.slots[((0 : Int32)).toNatClampNeg]? = some (.int x0) := Hs2.at hin2 rfl
  refine OGo.st (fun _ k => X0.baloadBytes hx (j := (0 : Int32)) (v := (.int x0)) (by rw [e0]; exact Ar2.1) (State.isArrayOf_alike hZ.alike Ar2.2.1) Ar2.2.2 hin2 hat2 (g := (mkF m 7 #[.val (.ref o0)] [(.int (0 : Int32)), (.ref o0)])) rfl rfl (hb hby d1_7) _ k) ?_
  show OGo p e below s _ _ _ (s₁.setTop (mkF m 8 #[.val (.ref o0)] [(.int x0)]))
  refine OGo.st (fun _ k => XS.bipush X0.here hx rfl (hb hby d1_8) k) ?_
  show OGo p e below s _ _ _ (s₁.setTop (mkF m 10 #[.val (.ref o0)] [(.int (11 : Int32)), (.int x0)]))
  by_cases hc10 : x0 = (11 : Int32)
  · refine OGo.st (fun _ k => XS.icmpNo X0.here hx rfl (hb hby d1_10) rfl (teq hc10).2 k) ?_
    show OGo p e below s _ _ _ (s₁.setTop (mkF m 13 #[.val (.ref o0)] []))
    refine OGo.st (fun _ k => XS.iconst X0.here hx rfl (hb hby d1_13) k) ?_
    show OGo p e below s _ _ _ (s₁.setTop (mkF m 14 #[.val (.ref o0)] [(.int (1 : Int32))]))
    refine OGo.st (fun _ k => XS.goto X0.here hx rfl (pc0 := 14) (pc' := 18) rfl (hb hby d1_14) (by decide) (by decide) k) ?_
    show OGo p e below s _ _ _ (s₁.setTop (mkF m 18 #[.val (.ref o0)] [(.int (1 : Int32))]))
    exact oretN X0 hx Bd.notSynchronized (t := .boolean) Bd.returns (by simp) (hb hby d1_18) (z' := (1 : Int32)) (by decide) e0 ⟨(congrArg (fun z => some (Value.int z)) (show (1 : Int32) = f1L6 x0 from Eq.symm (by unfold f1L6; exact if_pos hc10))), N0, rfl⟩ (by decide) (by decide)
  · refine OGo.st (fun _ k => XS.icmpYes X0.here hx rfl (pc0 := 10) (pc' := 17) rfl (hb hby d1_10) rfl (feq hc10).2 (by decide) (by decide) k) ?_
    show OGo p e below s _ _ _ (s₁.setTop (mkF m 17 #[.val (.ref o0)] []))
    refine OGo.st (fun _ k => XS.iconst X0.here hx rfl (hb hby d1_17) k) ?_
    show OGo p e below s _ _ _ (s₁.setTop (mkF m 18 #[.val (.ref o0)] [(.int (0 : Int32))]))
    exact oretN X0 hx Bd.notSynchronized (t := .boolean) Bd.returns (by simp) (hb hby d1_18) (z' := (0 : Int32)) (by decide) e0 ⟨(congrArg (fun z => some (Value.int z)) (show (0 : Int32) = f1L6 x0 from Eq.symm (by unfold f1L6; exact if_neg hc10))), N0, rfl⟩ (by decide) (by decide)
theorem d2_0 : decode prog_110_method_4_code 0 = .ok (.aload_n 0, 1) := by decide +kernel
theorem d2_1 : decode prog_110_method_4_code 1 = .ok (.arraylength, 1) := by decide +kernel
theorem d2_2 : decode prog_110_method_4_code 2 = .ok (.iconst 3, 1) := by decide +kernel
theorem d2_3 : decode prog_110_method_4_code 3 = .ok (.iadd, 1) := by decide +kernel
theorem d2_4 : decode prog_110_method_4_code 4 = .ok (.newarray .byte, 2) := by decide +kernel
theorem d2_6 : decode prog_110_method_4_code 6 = .ok (.astore_n 1, 1) := by decide +kernel
theorem d2_7 : decode prog_110_method_4_code 7 = .ok (.aload_n 1, 1) := by decide +kernel
theorem d2_8 : decode prog_110_method_4_code 8 = .ok (.iconst 0, 1) := by decide +kernel
theorem d2_9 : decode prog_110_method_4_code 9 = .ok (.bipush 11, 2) := by decide +kernel
theorem d2_11 : decode prog_110_method_4_code 11 = .ok (.bastore, 1) := by decide +kernel
theorem d2_12 : decode prog_110_method_4_code 12 = .ok (.aload_n 0, 1) := by decide +kernel
theorem d2_13 : decode prog_110_method_4_code 13 = .ok (.iconst 0, 1) := by decide +kernel
theorem d2_14 : decode prog_110_method_4_code 14 = .ok (.aload_n 1, 1) := by decide +kernel
theorem d2_15 : decode prog_110_method_4_code 15 = .ok (.iconst 1, 1) := by decide +kernel
theorem d2_16 : decode prog_110_method_4_code 16 = .ok (.aload_n 0, 1) := by decide +kernel
theorem d2_17 : decode prog_110_method_4_code 17 = .ok (.arraylength, 1) := by decide +kernel
theorem d2_18 : decode prog_110_method_4_code 18 = .ok (.invokestatic 38, 3) := by decide +kernel
theorem d2_21 : decode prog_110_method_4_code 21 = .ok (.aload_n 1, 1) := by decide +kernel
theorem d2_22 : decode prog_110_method_4_code 22 = .ok (.aload_n 1, 1) := by decide +kernel
theorem d2_23 : decode prog_110_method_4_code 23 = .ok (.arraylength, 1) := by decide +kernel
theorem d2_24 : decode prog_110_method_4_code 24 = .ok (.iconst 2, 1) := by decide +kernel
theorem d2_25 : decode prog_110_method_4_code 25 = .ok (.isub, 1) := by decide +kernel
theorem d2_26 : decode prog_110_method_4_code 26 = .ok (.bipush 28, 2) := by decide +kernel
theorem d2_28 : decode prog_110_method_4_code 28 = .ok (.bastore, 1) := by decide +kernel
theorem d2_29 : decode prog_110_method_4_code 29 = .ok (.aload_n 1, 1) := by decide +kernel
theorem d2_30 : decode prog_110_method_4_code 30 = .ok (.aload_n 1, 1) := by decide +kernel
theorem d2_31 : decode prog_110_method_4_code 31 = .ok (.arraylength, 1) := by decide +kernel
theorem d2_32 : decode prog_110_method_4_code 32 = .ok (.iconst 1, 1) := by decide +kernel
theorem d2_33 : decode prog_110_method_4_code 33 = .ok (.isub, 1) := by decide +kernel
theorem d2_34 : decode prog_110_method_4_code 34 = .ok (.bipush 13, 2) := by decide +kernel
theorem d2_36 : decode prog_110_method_4_code 36 = .ok (.bastore, 1) := by decide +kernel
theorem d2_37 : decode prog_110_method_4_code 37 = .ok (.aload_n 1, 1) := by decide +kernel
theorem d2_38 : decode prog_110_method_4_code 38 = .ok (.areturn, 1) := by decide +kernel
theorem pn_2 : plainName "com/example/assaywire/assaywire/protocol/Mllp" = true := by first | (simp [plainName, overriddenIn]; done) | decide +kernel
theorem ef_2L0 (m : MethodId) (o0 : Addr) : entryFrame m #[(.ref o0)] 2 = mkF m 0 #[.val (.ref o0), .unset] [] := by first | (simp [entryFrame, mkF, argsToLocals, Value.category]; done) | rfl
def Q2L0 (Z : State) (o0 : Addr) (k_o0 : ClassId) (h0 : Heap) (n0 : Nat) (v : Option Value) (h : Heap) (L : List Loc) : Prop := ∃ (b : Addr) (k : ClassId), v = some (.ref b) ∧ Fr n0 L ∧ Keep h0 h [] ∧ h0.size ≤ b ∧ n0 ≤ b ∧ Arv Z h b k .byte (3 : Int32) [(.int (11 : Int32)), (.int (28 : Int32)), (.int (13 : Int32))] (.int (0 : Int32))
set_option maxRecDepth 65536 in
set_option maxHeartbeats 40000000 in
theorem rm2L0 (l : Launch) (Z : State) (a0 : Array Value) (hw : ∀ d ∈ tables_1, d.before a0 Z = true) (ws : List Jvm.Cond) (o0 : Addr) (k_o0 : ClassId) (h0 : Heap) (n0 : Nat) (Z0 : n0 ≤ h0.size) (V_o0 : Arv Z h0 o0 k_o0 .byte (0 : Int32) [] (.int (0 : Int32))) :
    MetFree l (⟨"com/example/assaywire/assaywire/protocol/Mllp", "wrap", "([B)[B"⟩ : MethodName) (head1 (Jvm.Cond.code (⟨"com/example/assaywire/assaywire/protocol/Mllp", "wrap", "([B)[B"⟩ : MethodName) prog_110_method_4_code 2 (some (.array .byte)) :: ws) ({ frames := 1, cells := 1, slots := 3, locals := 18 } : Room)) (fun a U => a = #[(.ref o0)] ∧ Z.Warmed39 U.vm ∧ U.heap = h0) (fun _ _ _ _ _ => True) (fun _ U o U' => ∃ v L, o = .returned v ∧ Q2L0 Z o0 k_o0 h0 n0 v U'.heap L ∧ FrameEnd U o U' L ({ frames := 1, cells := 1, slots := 3, locals := 18 } : Room).cells ({ frames := 1, cells := 1, slots := 3, locals := 18 } : Room).slots) := by
  refine MetFree.of_bodySF (plainFor_of_name pn_2) hisR ?_
  intro p e s m args below meth c s₁ Bd hml0 hP hK
  obtain ⟨rfl, hZ, hh⟩ := hP
  have hx := Bd.exec
  have hby := Bd.bytes
  have hml : c.maxLocals = 2 := hml0
  have hown : s.vm.findClass "com/example/assaywire/assaywire/protocol/Mllp" = some m.cls := findClass_of_methodNamed Bd.named
  have hnm := (name_of_methodNamed Bd.named Bd.method).1
  have X0 : Stand p l e ({ frames := 1, cells := 1, slots := 3, locals := 18 } : Room) s m #[(.ref o0)] below meth c s₁ [] 0 0 := Stand.of_body Bd
  have e0 : s₁.heap = h0 := by rw [← hh, Bd.state]; rfl
  have N0 := Fr.nil n0
  show OGo p e below s (Q2L0 Z o0 k_o0 h0 n0) ({ frames := 1, cells := 1, slots := 3, locals := 18 } : Room).cells ({ frames := 1, cells := 1, slots := 3, locals := 18 } : Room).slots _
  refine OGo.st (fun _ k => castTop (ef_2L0 m o0) k) ?_
  show OGo p e below s _ _ _ (s₁.setTop (mkF m 0 #[.val (.ref o0), .unset] []))
  refine OGo.st (fun _ k => XS.aloadN X0.here hx rfl (hb hby d2_0) rfl rfl k) ?_
  show OGo p e below s _ _ _ (s₁.setTop (mkF m 1 #[.val (.ref o0), .unset] [(.ref o0)]))
  obtain ⟨cl1, Ar1, -, Sz1, Nn1, -, -⟩ := id V_o0
  refine OGo.st (fun _ k => X0.arraylength hx (by rw [e0]; exact Ar1.1) (State.isArrayOf_alike hZ.alike Ar1.2.1) (g := (mkF m 1 #[.val (.ref o0), .unset] [(.ref o0)])) rfl rfl (hb hby d2_1) _ k) ?_
  rw [len_of Sz1 Nn1]
  show OGo p e below s _ _ _ (s₁.setTop (mkF m 2 #[.val (.ref o0), .unset] [(.int (0 : Int32))]))
  refine OGo.st (fun _ k => XS.iconst X0.here hx rfl (hb hby d2_2) k) ?_
  show OGo p e below s _ _ _ (s₁.setTop (mkF m 3 #[.val (.ref o0), .unset] [(.int (3 : Int32)), (.int (0 : Int32))]))
  refine OGo.st (fun _ k => XS.iadd X0.here hx rfl (hb hby d2_3) rfl k) ?_
  rw [show ((0 : Int32) + (3 : Int32)) = (3 : Int32) from by decide]
  show OGo p e below s _ _ _ (s₁.setTop (mkF m 4 #[.val (.ref o0), .unset] [(.int (3 : Int32))]))
  obtain ⟨T2, h2, k2, X2, e2, E2, A2, st2⟩ := newP X0 hx hZ (hw _ (List.mem_of_getElem? (i := 0) rfl)) e0 (g := (mkF m 4 #[.val (.ref o0), .unset] [(.int (3 : Int32))])) rfl (hb hby d2_4) rfl (by decide) (cap := 3) (by decide) (by decide) (by decide) (by decide)
  obtain ⟨b2, g2⟩ : ∃ z, z = h0.size := ⟨_, rfl⟩
  rw [← g2] at A2 st2
  refine OGo.st st2 ?_
  have V_o0_w2 := V_o0.ext E2
  have ne_o0_b2 : o0 ≠ b2 := Nat.ne_of_lt (Nat.lt_of_lt_of_le V_o0.lt (Nat.le_of_eq g2.symm))
  have g_b2 : n0 ≤ b2 := Nat.le_trans Z0 (Nat.le_of_eq g2.symm)
  have sz_b2 : h0.size ≤ b2 := Nat.le_trans (Keep.refl h0 []).1 (Nat.le_of_eq g2.symm)
  have K2 : Keep h0 h2 [] := (Keep.refl h0 _).ext E2
  have Z2 : n0 ≤ h2.size := Nat.le_trans Z0 E2.1
  have V_b2 : Arv Z h2 b2 k2 .byte (3 : Int32) [(.int (0 : Int32)), (.int (0 : Int32)), (.int (0 : Int32))] (.int (0 : Int32)) := (Arv.new A2 (by decide)).pad (pad_rep [] (.int (0 : Int32)) 3)
  show OGo p e below s _ _ _ (T2.setTop (mkF m 6 #[.val (.ref o0), .unset] [(.ref b2)]))
  refine OGo.st (fun _ k => XS.astoreN X2.here hx rfl (hb hby d2_6) rfl rfl (l' := #[.val (.ref o0), .val (.ref b2)]) rfl k) ?_
  show OGo p e below s _ _ _ (T2.setTop (mkF m 7 #[.val (.ref o0), .val (.ref b2)] []))
  refine OGo.st (fun _ k => XS.aloadN X2.here hx rfl (hb hby d2_7) rfl rfl k) ?_
  show OGo p e below s _ _ _ (T2.setTop (mkF m 8 #[.val (.ref o0), .val (.ref b2)] [(.ref b2)]))
  refine OGo.st (fun _ k => XS.iconst X2.here hx rfl (hb hby d2_8) k) ?_
  show OGo p e below s _ _ _ (T2.setTop (mkF m 9 #[.val (.ref o0), .val (.ref b2)] [(.int (0 : Int32)), (.ref b2)]))
  refine OGo.st (fun _ k => XS.bipush X2.here hx rfl (hb hby d2_9) k) ?_
  show OGo p e below s _ _ _ (T2.setTop (mkF m 11 #[.val (.ref o0), .val (.ref b2)] [(.int (11 : Int32)), (.int (0 : Int32)), (.ref b2)]))
  obtain ⟨cl3, Ar3, q3, Sz3, Nn3, Hs3, Gs3⟩ := id V_b2
  have hin3 : ¬ ((0 : Int32) < 0 ∨ cl3.slots.size ≤ ((0 : Int32)).toNatClampNeg) := inb_of Sz3 ⟨by decide, by decide⟩
  obtain ⟨T3, h3, X3, e3, W3, st3⟩ := stB X2 hx hZ e2 Ar3 (j := (0 : Int32)) hin3 (g := (mkF m 11 #[.val (.ref o0), .val (.ref b2)] [(.int (11 : Int32)), (.int (0 : Int32)), (.ref b2)])) rfl rfl (hb hby d2_11)
  refine OGo.st st3 ?_
  have V_o0_w3 := V_o0_w2.other W3 ne_o0_b2
  have K3 : Keep h0 h3 [] := (K2).wr W3 (Or.inr sz_b2)
  have N3 := Fr.snoc X3 N0 g_b2
  have Z3 : n0 ≤ h3.size := Nat.le_trans Z2 (Keep.of_wr W3).1
  have V3 : Arv Z h3 b2 k2 .byte (3 : Int32) [(.int (11 : Int32)), (.int (0 : Int32)), (.int (0 : Int32))] (.int (0 : Int32)) := Arv.set Ar3 q3 Sz3 Nn3 Hs3 Gs3 (by decide) W3 0 rfl (Nat.le_of_ble_eq_true rfl)
  show OGo p e below s _ _ _ (T3.setTop (mkF m 12 #[.val (.ref o0), .val (.ref b2)] []))
  refine OGo.st (fun _ k => XS.aloadN X3.here hx rfl (hb hby d2_12) rfl rfl k) ?_
  show OGo p e below s _ _ _ (T3.setTop (mkF m 13 #[.val (.ref o0), .val (.ref b2)] [(.ref o0)]))
  refine OGo.st (fun _ k => XS.iconst X3.here hx rfl (hb hby d2_13) k) ?_
  show OGo p e below s _ _ _ (T3.setTop (mkF m 14 #[.val (.ref o0), .val (.ref b2)] [(.int (0 : Int32)), (.ref o0)]))
  refine OGo.st (fun _ k => XS.aloadN X3.here hx rfl (hb hby d2_14) rfl rfl k) ?_
  show OGo p e below s _ _ _ (T3.setTop (mkF m 15 #[.val (.ref o0), .val (.ref b2)] [(.ref b2), (.int (0 : Int32)), (.ref o0)]))
  refine OGo.st (fun _ k => XS.iconst X3.here hx rfl (hb hby d2_15) k) ?_
  show OGo p e below s _ _ _ (T3.setTop (mkF m 16 #[.val (.ref o0), .val (.ref b2)] [(.int (1 : Int32)), (.ref b2), (.int (0 : Int32)), (.ref o0)]))
  refine OGo.st (fun _ k => XS.aloadN X3.here hx rfl (hb hby d2_16) rfl rfl k) ?_
  show OGo p e below s _ _ _ (T3.setTop (mkF m 17 #[.val (.ref o0), .val (.ref b2)] [(.ref o0), (.int (1 : Int32)), (.ref b2), (.int (0 : Int32)), (.ref o0)]))
  obtain ⟨cl4, Ar4, -, Sz4, Nn4, -, -⟩ := id V_o0_w3
  refine OGo.st (fun _ k => X3.arraylength hx (by rw [e3]; exact Ar4.1) (State.isArrayOf_alike hZ.alike Ar4.2.1) (g := (mkF m 17 #[.val (.ref o0), .val (.ref b2)] [(.ref o0), (.int (1 : Int32)), (.ref b2), (.int (0 : Int32)), (.ref o0)])) rfl rfl (hb hby d2_17) _ k) ?_
  rw [len_of Sz4 Nn4]
  show OGo p e below s _ _ _ (T3.setTop (mkF m 18 #[.val (.ref o0), .val (.ref b2)] [(.int (0 : Int32)), (.int (1 : Int32)), (.ref b2), (.int (0 : Int32)), (.ref o0)]))
  obtain ⟨T5, h5, L5, X5, e5, N5, Kc5, Vq5, st5⟩ := cpA X3 hx hZ hown (hw _ (List.mem_of_getElem? (i := 8) rfl)) (hw _ (List.mem_of_getElem? (i := 11) rfl)) (hw _ (List.mem_of_getElem? (i := 9) rfl)) (hw _ (List.mem_of_getElem? (i := 10) rfl)) e3 V_o0_w3 V3 (us := []) (sp := (0 : Int32)) (dp := (1 : Int32)) (nn := (0 : Int32)) (Or.inl ⟨rfl, rfl⟩) (by decide) (by decide) (by decide) (by decide) (by decide) rfl (by decide) N3 g_b2 (g := (mkF m 18 #[.val (.ref o0), .val (.ref b2)] [(.int (0 : Int32)), (.int (1 : Int32)), (.ref b2), (.int (0 : Int32)), (.ref o0)])) rfl (by rw [hml]; rfl) rfl (hb hby d2_18) (by decide) (W := 0) (by show 2 * 0 + _ ≤ _; exact Nat.le_of_eq rfl) (by decide)
  have V_o0_w5 := V_o0_w3.keep Kc5 (ninS ne_o0_b2 nin0)
  have K5 : Keep h0 h5 [] := (K3).trans Kc5 (allS (Or.inr sz_b2) all0)
  have Z5 : n0 ≤ h5.size := Nat.le_trans Z3 Kc5.1
  have V5 : Arv Z h5 b2 k2 .byte (3 : Int32) [(.int (11 : Int32)), (.int (0 : Int32)), (.int (0 : Int32))] (.int (0 : Int32)) := Vq5
  refine OGo.st st5 ?_
  show OGo p e below s _ _ _ (T5.setTop (mkF m 21 #[.val (.ref o0), .val (.ref b2)] []))
  refine OGo.st (fun _ k => XS.aloadN X5.here hx rfl (hb hby d2_21) rfl rfl k) ?_
  show OGo p e below s _ _ _ (T5.setTop (mkF m 22 #[.val (.ref o0), .val (.ref b2)] [(.ref b2)]))
  refine OGo.st (fun _ k => XS.aloadN X5.here hx rfl (hb hby d2_22) rfl rfl k) ?_
  show OGo p e below s _ _ _ (T5.setTop (mkF m 23 #[.val (.ref o0), .val (.ref b2)] [(.ref b2), (.ref b2)]))
  obtain ⟨cl6, Ar6, -, Sz6, Nn6, -, -⟩ := id V5
  refine OGo.st (fun _ k => X5.arraylength hx (by rw [e5]; exact Ar6.1) (State.isArrayOf_alike hZ.alike Ar6.2.1) (g := (mkF m 23 #[.val (.ref o0), .val (.ref b2)] [(.ref b2), (.ref b2)])) rfl rfl (hb hby d2_23) _ k) ?_
  rw [len_of Sz6 Nn6]
  show OGo p e below s _ _ _ (T5.setTop (mkF m 24 #[.val (.ref o0), .val (.ref b2)] [(.int (3 : Int32)), (.ref b2)]))
  refine OGo.st (fun _ k => XS.iconst X5.here hx rfl (hb hby d2_24) k) ?_
  show OGo p e below s _ _ _ (T5.setTop (mkF m 25 #[.val (.ref o0), .val (.ref b2)] [(.int (2 : Int32)), (.int (3 : Int32)), (.ref b2)]))
  refine OGo.st (fun _ k => XS.isub X5.here hx rfl (hb hby d2_25) rfl k) ?_
  rw [show ((3 : Int32) - (2 : Int32)) = (1 : Int32) from by decide]
  show OGo p e below s _ _ _ (T5.setTop (mkF m 26 #[.val (.ref o0), .val (.ref b2)] [(.int (1 : Int32)), (.ref b2)]))
  refine OGo.st (fun _ k => XS.bipush X5.here hx rfl (hb hby d2_26) k) ?_
  show OGo p e below s _ _ _ (T5.setTop (mkF m 28 #[.val (.ref o0), .val (.ref b2)] [(.int (28 : Int32)), (.int (1 : Int32)), (.ref b2)]))
  obtain ⟨cl7, Ar7, q7, Sz7, Nn7, Hs7, Gs7⟩ := id V5
  have hin7 : ¬ ((1 : Int32) < 0 ∨ cl7.slots.size ≤ ((1 : Int32)).toNatClampNeg) := inb_of Sz7 ⟨by decide, by decide⟩
  obtain ⟨T7, h7, X7, e7, W7, st7⟩ := stB X5 hx hZ e5 Ar7 (j := (1 : Int32)) hin7 (g := (mkF m 28 #[.val (.ref o0), .val (.ref b2)] [(.int (28 : Int32)), (.int (1 : Int32)), (.ref b2)])) rfl rfl (hb hby d2_28)
  refine OGo.st st7 ?_
  have V_o0_w7 := V_o0_w5.other W7 ne_o0_b2
  have K7 : Keep h0 h7 [] := (K5).wr W7 (Or.inr sz_b2)
  have N7 := Fr.snoc X7 N5 g_b2
  have Z7 : n0 ≤ h7.size := Nat.le_trans Z5 (Keep.of_wr W7).1
  have V7 : Arv Z h7 b2 k2 .byte (3 : Int32) [(.int (11 : Int32)), (.int (28 : Int32)), (.int (0 : Int32))] (.int (0 : Int32)) := Arv.set Ar7 q7 Sz7 Nn7 Hs7 Gs7 (by decide) W7 1 rfl (Nat.le_of_ble_eq_true rfl)
  show OGo p e below s _ _ _ (T7.setTop (mkF m 29 #[.val (.ref o0), .val (.ref b2)] []))
  refine OGo.st (fun _ k => XS.aloadN X7.here hx rfl (hb hby d2_29) rfl rfl k) ?_
  show OGo p e below s _ _ _ (T7.setTop (mkF m 30 #[.val (.ref o0), .val (.ref b2)] [(.ref b2)]))
  refine OGo.st (fun _ k => XS.aloadN X7.here hx rfl (hb hby d2_30) rfl rfl k) ?_
  show OGo p e below s _ _ _ (T7.setTop (mkF m 31 #[.val (.ref o0), .val (.ref b2)] [(.ref b2), (.ref b2)]))
  obtain ⟨cl8, Ar8, -, Sz8, Nn8, -, -⟩ := id V7
  refine OGo.st (fun _ k => X7.arraylength hx (by rw [e7]; exact Ar8.1) (State.isArrayOf_alike hZ.alike Ar8.2.1) (g := (mkF m 31 #[.val (.ref o0), .val (.ref b2)] [(.ref b2), (.ref b2)])) rfl rfl (hb hby d2_31) _ k) ?_
  rw [len_of Sz8 Nn8]
  show OGo p e below s _ _ _ (T7.setTop (mkF m 32 #[.val (.ref o0), .val (.ref b2)] [(.int (3 : Int32)), (.ref b2)]))
  refine OGo.st (fun _ k => XS.iconst X7.here hx rfl (hb hby d2_32) k) ?_
  show OGo p e below s _ _ _ (T7.setTop (mkF m 33 #[.val (.ref o0), .val (.ref b2)] [(.int (1 : Int32)), (.int (3 : Int32)), (.ref b2)]))
  refine OGo.st (fun _ k => XS.isub X7.here hx rfl (hb hby d2_33) rfl k) ?_
  rw [show ((3 : Int32) - (1 : Int32)) = (2 : Int32) from by decide]
  show OGo p e below s _ _ _ (T7.setTop (mkF m 34 #[.val (.ref o0), .val (.ref b2)] [(.int (2 : Int32)), (.ref b2)]))
  refine OGo.st (fun _ k => XS.bipush X7.here hx rfl (hb hby d2_34) k) ?_
  show OGo p e below s _ _ _ (T7.setTop (mkF m 36 #[.val (.ref o0), .val (.ref b2)] [(.int (13 : Int32)), (.int (2 : Int32)), (.ref b2)]))
  obtain ⟨cl9, Ar9, q9, Sz9, Nn9, Hs9, Gs9⟩ := id V7
  have hin9 : ¬ ((2 : Int32) < 0 ∨ cl9.slots.size ≤ ((2 : Int32)).toNatClampNeg) := inb_of Sz9 ⟨by decide, by decide⟩
  obtain ⟨T9, h9, X9, e9, W9, st9⟩ := stB X7 hx hZ e7 Ar9 (j := (2 : Int32)) hin9 (g := (mkF m 36 #[.val (.ref o0), .val (.ref b2)] [(.int (13 : Int32)), (.int (2 : Int32)), (.ref b2)])) rfl rfl (hb hby d2_36)
  refine OGo.st st9 ?_
  have V_o0_w9 := V_o0_w7.other W9 ne_o0_b2
  have K9 : Keep h0 h9 [] := (K7).wr W9 (Or.inr sz_b2)
  have N9 := Fr.snoc X9 N7 g_b2
  have Z9 : n0 ≤ h9.size := Nat.le_trans Z7 (Keep.of_wr W9).1
  have V9 : Arv Z h9 b2 k2 .byte (3 : Int32) [(.int (11 : Int32)), (.int (28 : Int32)), (.int (13 : Int32))] (.int (0 : Int32)) := Arv.set Ar9 q9 Sz9 Nn9 Hs9 Gs9 (by decide) W9 2 rfl (Nat.le_of_ble_eq_true rfl)
  show OGo p e below s _ _ _ (T9.setTop (mkF m 37 #[.val (.ref o0), .val (.ref b2)] []))
  refine OGo.st (fun _ k => XS.aloadN X9.here hx rfl (hb hby d2_37) rfl rfl k) ?_
  show OGo p e below s _ _ _ (T9.setTop (mkF m 38 #[.val (.ref o0), .val (.ref b2)] [(.ref b2)]))
  exact oretA X9 hx Bd.notSynchronized Bd.returns rfl rfl (hb hby d2_38) e9 ⟨b2, k2, rfl, N9, K9, sz_b2, g_b2, V9⟩ (by decide) (by decide)
theorem ef_2L1 (m : MethodId) (o0 : Addr) : entryFrame m #[(.ref o0)] 2 = mkF m 0 #[.val (.ref o0), .unset] [] := by first | (simp [entryFrame, mkF, argsToLocals, Value.category]; done) | rfl
def Q2L1 (Z : State) (o0 : Addr) (k_o0 : ClassId) (x0 : Int32) (h0 : Heap) (n0 : Nat) (v : Option Value) (h : Heap) (L : List Loc) : Prop := ∃ (b : Addr) (k : ClassId), v = some (.ref b) ∧ Fr n0 L ∧ Keep h0 h [] ∧ h0.size ≤ b ∧ n0 ≤ b ∧ Arv Z h b k .byte (4 : Int32) [(.int (11 : Int32)), (.int x0), (.int (28 : Int32)), (.int (13 : Int32))] (.int (0 : Int32))
set_option maxRecDepth 65536 in
set_option maxHeartbeats 40000000 in
theorem rm2L1 (l : Launch) (Z : State) (a0 : Array Value) (hw : ∀ d ∈ tables_1, d.before a0 Z = true) (ws : List Jvm.Cond) (o0 : Addr) (k_o0 : ClassId) (x0 : Int32) (h0 : Heap) (n0 : Nat) (Z0 : n0 ≤ h0.size) (V_o0 : Arv Z h0 o0 k_o0 .byte (1 : Int32) [(.int x0)] (.int (0 : Int32))) :
    MetFree l (⟨"com/example/assaywire/assaywire/protocol/Mllp", "wrap", "([B)[B"⟩ : MethodName) (head1 (Jvm.Cond.code (⟨"com/example/assaywire/assaywire/protocol/Mllp", "wrap", "([B)[B"⟩ : MethodName) prog_110_method_4_code 2 (some (.array .byte)) :: ws) ({ frames := 1, cells := 1, slots := 4, locals := 18 } : Room)) (fun a U => a = #[(.ref o0)] ∧ Z.Warmed39 U.vm ∧ U.heap = h0) (fun _ _ _ _ _ => True) (fun _ U o U' => ∃ v L, o = .returned v ∧ Q2L1 Z o0 k_o0 x0 h0 n0 v U'.heap L ∧ FrameEnd U o U' L ({ frames := 1, cells := 1, slots := 4, locals := 18 } : Room).cells ({ frames := 1, cells := 1, slots := 4, locals := 18 } : Room).slots) := by
  refine MetFree.of_bodySF (plainFor_of_name pn_2) hisR ?_
  intro p e s m args below meth c s₁ Bd hml0 hP hK
  obtain ⟨rfl, hZ, hh⟩ := hP
  have hx := Bd.exec
  have hby := Bd.bytes
  have hml : c.maxLocals = 2 := hml0
  have hown : s.vm.findClass "com/example/assaywire/assaywire/protocol/Mllp" = some m.cls := findClass_of_methodNamed Bd.named
  have hnm := (name_of_methodNamed Bd.named Bd.method).1
  have X0 : Stand p l e ({ frames := 1, cells := 1, slots := 4, locals := 18 } : Room) s m #[(.ref o0)] below meth c s₁ [] 0 0 := Stand.of_body Bd
  have e0 : s₁.heap = h0 := by rw [← hh, Bd.state]; rfl
  have N0 := Fr.nil n0
  show OGo p e below s (Q2L1 Z o0 k_o0 x0 h0 n0) ({ frames := 1, cells := 1, slots := 4, locals := 18 } : Room).cells ({ frames := 1, cells := 1, slots := 4, locals := 18 } : Room).slots _
  refine OGo.st (fun _ k => castTop (ef_2L1 m o0) k) ?_
  show OGo p e below s _ _ _ (s₁.setTop (mkF m 0 #[.val (.ref o0), .unset] []))
  refine OGo.st (fun _ k => XS.aloadN X0.here hx rfl (hb hby d2_0) rfl rfl k) ?_
  show OGo p e below s _ _ _ (s₁.setTop (mkF m 1 #[.val (.ref o0), .unset] [(.ref o0)]))
  obtain ⟨cl1, Ar1, -, Sz1, Nn1, -, -⟩ := id V_o0
  refine OGo.st (fun _ k => X0.arraylength hx (by rw [e0]; exact Ar1.1) (State.isArrayOf_alike hZ.alike Ar1.2.1) (g := (mkF m 1 #[.val (.ref o0), .unset] [(.ref o0)])) rfl rfl (hb hby d2_1) _ k) ?_
  rw [len_of Sz1 Nn1]
  show OGo p e below s _ _ _ (s₁.setTop (mkF m 2 #[.val (.ref o0), .unset] [(.int (1 : Int32))]))
  refine OGo.st (fun _ k => XS.iconst X0.here hx rfl (hb hby d2_2) k) ?_
  show OGo p e below s _ _ _ (s₁.setTop (mkF m 3 #[.val (.ref o0), .unset] [(.int (3 : Int32)), (.int (1 : Int32))]))
  refine OGo.st (fun _ k => XS.iadd X0.here hx rfl (hb hby d2_3) rfl k) ?_
  rw [show ((1 : Int32) + (3 : Int32)) = (4 : Int32) from by decide]
  show OGo p e below s _ _ _ (s₁.setTop (mkF m 4 #[.val (.ref o0), .unset] [(.int (4 : Int32))]))
  obtain ⟨T2, h2, k2, X2, e2, E2, A2, st2⟩ := newP X0 hx hZ (hw _ (List.mem_of_getElem? (i := 0) rfl)) e0 (g := (mkF m 4 #[.val (.ref o0), .unset] [(.int (4 : Int32))])) rfl (hb hby d2_4) rfl (by decide) (cap := 4) (by decide) (by decide) (by decide) (by decide)
  obtain ⟨b2, g2⟩ : ∃ z, z = h0.size := ⟨_, rfl⟩
  rw [← g2] at A2 st2
  refine OGo.st st2 ?_
  have V_o0_w2 := V_o0.ext E2
  have ne_o0_b2 : o0 ≠ b2 := Nat.ne_of_lt (Nat.lt_of_lt_of_le V_o0.lt (Nat.le_of_eq g2.symm))
  have g_b2 : n0 ≤ b2 := Nat.le_trans Z0 (Nat.le_of_eq g2.symm)
  have sz_b2 : h0.size ≤ b2 := Nat.le_trans (Keep.refl h0 []).1 (Nat.le_of_eq g2.symm)
  have K2 : Keep h0 h2 [] := (Keep.refl h0 _).ext E2
  have Z2 : n0 ≤ h2.size := Nat.le_trans Z0 E2.1
  have V_b2 : Arv Z h2 b2 k2 .byte (4 : Int32) [(.int (0 : Int32)), (.int (0 : Int32)), (.int (0 : Int32)), (.int (0 : Int32))] (.int (0 : Int32)) := (Arv.new A2 (by decide)).pad (pad_rep [] (.int (0 : Int32)) 4)
  show OGo p e below s _ _ _ (T2.setTop (mkF m 6 #[.val (.ref o0), .unset] [(.ref b2)]))
  refine OGo.st (fun _ k => XS.astoreN X2.here hx rfl (hb hby d2_6) rfl rfl (l' := #[.val (.ref o0), .val (.ref b2)]) rfl k) ?_
  show OGo p e below s _ _ _ (T2.setTop (mkF m 7 #[.val (.ref o0), .val (.ref b2)] []))
  refine OGo.st (fun _ k => XS.aloadN X2.here hx rfl (hb hby d2_7) rfl rfl k) ?_
  show OGo p e below s _ _ _ (T2.setTop (mkF m 8 #[.val (.ref o0), .val (.ref b2)] [(.ref b2)]))
  refine OGo.st (fun _ k => XS.iconst X2.here hx rfl (hb hby d2_8) k) ?_
  show OGo p e below s _ _ _ (T2.setTop (mkF m 9 #[.val (.ref o0), .val (.ref b2)] [(.int (0 : Int32)), (.ref b2)]))
  refine OGo.st (fun _ k => XS.bipush X2.here hx rfl (hb hby d2_9) k) ?_
  show OGo p e below s _ _ _ (T2.setTop (mkF m 11 #[.val (.ref o0), .val (.ref b2)] [(.int (11 : Int32)), (.int (0 : Int32)), (.ref b2)]))
  obtain ⟨cl3, Ar3, q3, Sz3, Nn3, Hs3, Gs3⟩ := id V_b2
  have hin3 : ¬ ((0 : Int32) < 0 ∨ cl3.slots.size ≤ ((0 : Int32)).toNatClampNeg) := inb_of Sz3 ⟨by decide, by decide⟩
  obtain ⟨T3, h3, X3, e3, W3, st3⟩ := stB X2 hx hZ e2 Ar3 (j := (0 : Int32)) hin3 (g := (mkF m 11 #[.val (.ref o0), .val (.ref b2)] [(.int (11 : Int32)), (.int (0 : Int32)), (.ref b2)])) rfl rfl (hb hby d2_11)
  refine OGo.st st3 ?_
  have V_o0_w3 := V_o0_w2.other W3 ne_o0_b2
  have K3 : Keep h0 h3 [] := (K2).wr W3 (Or.inr sz_b2)
  have N3 := Fr.snoc X3 N0 g_b2
  have Z3 : n0 ≤ h3.size := Nat.le_trans Z2 (Keep.of_wr W3).1
  have V3 : Arv Z h3 b2 k2 .byte (4 : Int32) [(.int (11 : Int32)), (.int (0 : Int32)), (.int (0 : Int32)), (.int (0 : Int32))] (.int (0 : Int32)) := Arv.set Ar3 q3 Sz3 Nn3 Hs3 Gs3 (by decide) W3 0 rfl (Nat.le_of_ble_eq_true rfl)
  show OGo p e below s _ _ _ (T3.setTop (mkF m 12 #[.val (.ref o0), .val (.ref b2)] []))
  refine OGo.st (fun _ k => XS.aloadN X3.here hx rfl (hb hby d2_12) rfl rfl k) ?_
  show OGo p e below s _ _ _ (T3.setTop (mkF m 13 #[.val (.ref o0), .val (.ref b2)] [(.ref o0)]))
  refine OGo.st (fun _ k => XS.iconst X3.here hx rfl (hb hby d2_13) k) ?_
  show OGo p e below s _ _ _ (T3.setTop (mkF m 14 #[.val (.ref o0), .val (.ref b2)] [(.int (0 : Int32)), (.ref o0)]))
  refine OGo.st (fun _ k => XS.aloadN X3.here hx rfl (hb hby d2_14) rfl rfl k) ?_
  show OGo p e below s _ _ _ (T3.setTop (mkF m 15 #[.val (.ref o0), .val (.ref b2)] [(.ref b2), (.int (0 : Int32)), (.ref o0)]))
  refine OGo.st (fun _ k => XS.iconst X3.here hx rfl (hb hby d2_15) k) ?_
  show OGo p e below s _ _ _ (T3.setTop (mkF m 16 #[.val (.ref o0), .val (.ref b2)] [(.int (1 : Int32)), (.ref b2), (.int (0 : Int32)), (.ref o0)]))
  refine OGo.st (fun _ k => XS.aloadN X3.here hx rfl (hb hby d2_16) rfl rfl k) ?_
  show OGo p e below s _ _ _ (T3.setTop (mkF m 17 #[.val (.ref o0), .val (.ref b2)] [(.ref o0), (.int (1 : Int32)), (.ref b2), (.int (0 : Int32)), (.ref o0)]))
  obtain ⟨cl4, Ar4, -, Sz4, Nn4, -, -⟩ := id V_o0_w3
  refine OGo.st (fun _ k => X3.arraylength hx (by rw [e3]; exact Ar4.1) (State.isArrayOf_alike hZ.alike Ar4.2.1) (g := (mkF m 17 #[.val (.ref o0), .val (.ref b2)] [(.ref o0), (.int (1 : Int32)), (.ref b2), (.int (0 : Int32)), (.ref o0)])) rfl rfl (hb hby d2_17) _ k) ?_
  rw [len_of Sz4 Nn4]
  show OGo p e below s _ _ _ (T3.setTop (mkF m 18 #[.val (.ref o0), .val (.ref b2)] [(.int (1 : Int32)), (.int (1 : Int32)), (.ref b2), (.int (0 : Int32)), (.ref o0)]))
  obtain ⟨T5, h5, L5, X5, e5, N5, Kc5, Vq5, st5⟩ := cpA X3 hx hZ hown (hw _ (List.mem_of_getElem? (i := 8) rfl)) (hw _ (List.mem_of_getElem? (i := 11) rfl)) (hw _ (List.mem_of_getElem? (i := 9) rfl)) (hw _ (List.mem_of_getElem? (i := 10) rfl)) e3 V_o0_w3 V3 (us := [(.int x0)]) (sp := (0 : Int32)) (dp := (1 : Int32)) (nn := (1 : Int32)) (Or.inl ⟨rfl, rfl⟩) (by decide) (by decide) (by decide) (by decide) (by decide) rfl (by decide) N3 g_b2 (g := (mkF m 18 #[.val (.ref o0), .val (.ref b2)] [(.int (1 : Int32)), (.int (1 : Int32)), (.ref b2), (.int (0 : Int32)), (.ref o0)])) rfl (by rw [hml]; rfl) rfl (hb hby d2_18) (by decide) (W := 0) (by show 2 * 0 + _ ≤ _; exact Nat.le_of_eq rfl) (by decide)
  have V_o0_w5 := V_o0_w3.keep Kc5 (ninS ne_o0_b2 nin0)
  have K5 : Keep h0 h5 [] := (K3).trans Kc5 (allS (Or.inr sz_b2) all0)
  have Z5 : n0 ≤ h5.size := Nat.le_trans Z3 Kc5.1
  have V5 : Arv Z h5 b2 k2 .byte (4 : Int32) [(.int (11 : Int32)), (.int x0), (.int (0 : Int32)), (.int (0 : Int32))] (.int (0 : Int32)) := Vq5
  refine OGo.st st5 ?_
  show OGo p e below s _ _ _ (T5.setTop (mkF m 21 #[.val (.ref o0), .val (.ref b2)] []))
  refine OGo.st (fun _ k => XS.aloadN X5.here hx rfl (hb hby d2_21) rfl rfl k) ?_
  show OGo p e below s _ _ _ (T5.setTop (mkF m 22 #[.val (.ref o0), .val (.ref b2)] [(.ref b2)]))
  refine OGo.st (fun _ k => XS.aloadN X5.here hx rfl (hb hby d2_22) rfl rfl k) ?_
  show OGo p e below s _ _ _ (T5.setTop (mkF m 23 #[.val (.ref o0), .val (.ref b2)] [(.ref b2), (.ref b2)]))
  obtain ⟨cl6, Ar6, -, Sz6, Nn6, -, -⟩ := id V5
  refine OGo.st (fun _ k => X5.arraylength hx (by rw [e5]; exact Ar6.1) (State.isArrayOf_alike hZ.alike Ar6.2.1) (g := (mkF m 23 #[.val (.ref o0), .val (.ref b2)] [(.ref b2), (.ref b2)])) rfl rfl (hb hby d2_23) _ k) ?_
  rw [len_of Sz6 Nn6]
  show OGo p e below s _ _ _ (T5.setTop (mkF m 24 #[.val (.ref o0), .val (.ref b2)] [(.int (4 : Int32)), (.ref b2)]))
  refine OGo.st (fun _ k => XS.iconst X5.here hx rfl (hb hby d2_24) k) ?_
  show OGo p e below s _ _ _ (T5.setTop (mkF m 25 #[.val (.ref o0), .val (.ref b2)] [(.int (2 : Int32)), (.int (4 : Int32)), (.ref b2)]))
  refine OGo.st (fun _ k => XS.isub X5.here hx rfl (hb hby d2_25) rfl k) ?_
  rw [show ((4 : Int32) - (2 : Int32)) = (2 : Int32) from by decide]
  show OGo p e below s _ _ _ (T5.setTop (mkF m 26 #[.val (.ref o0), .val (.ref b2)] [(.int (2 : Int32)), (.ref b2)]))
  refine OGo.st (fun _ k => XS.bipush X5.here hx rfl (hb hby d2_26) k) ?_
  show OGo p e below s _ _ _ (T5.setTop (mkF m 28 #[.val (.ref o0), .val (.ref b2)] [(.int (28 : Int32)), (.int (2 : Int32)), (.ref b2)]))
  obtain ⟨cl7, Ar7, q7, Sz7, Nn7, Hs7, Gs7⟩ := id V5
  have hin7 : ¬ ((2 : Int32) < 0 ∨ cl7.slots.size ≤ ((2 : Int32)).toNatClampNeg) := inb_of Sz7 ⟨by decide, by decide⟩
  obtain ⟨T7, h7, X7, e7, W7, st7⟩ := stB X5 hx hZ e5 Ar7 (j := (2 : Int32)) hin7 (g := (mkF m 28 #[.val (.ref o0), .val (.ref b2)] [(.int (28 : Int32)), (.int (2 : Int32)), (.ref b2)])) rfl rfl (hb hby d2_28)
  refine OGo.st st7 ?_
  have V_o0_w7 := V_o0_w5.other W7 ne_o0_b2
  have K7 : Keep h0 h7 [] := (K5).wr W7 (Or.inr sz_b2)
  have N7 := Fr.snoc X7 N5 g_b2
  have Z7 : n0 ≤ h7.size := Nat.le_trans Z5 (Keep.of_wr W7).1
  have V7 : Arv Z h7 b2 k2 .byte (4 : Int32) [(.int (11 : Int32)), (.int x0), (.int (28 : Int32)), (.int (0 : Int32))] (.int (0 : Int32)) := Arv.set Ar7 q7 Sz7 Nn7 Hs7 Gs7 (by decide) W7 2 rfl (Nat.le_of_ble_eq_true rfl)
  show OGo p e below s _ _ _ (T7.setTop (mkF m 29 #[.val (.ref o0), .val (.ref b2)] []))
  refine OGo.st (fun _ k => XS.aloadN X7.here hx rfl (hb hby d2_29) rfl rfl k) ?_
  show OGo p e below s _ _ _ (T7.setTop (mkF m 30 #[.val (.ref o0), .val (.ref b2)] [(.ref b2)]))
  refine OGo.st (fun _ k => XS.aloadN X7.here hx rfl (hb hby d2_30) rfl rfl k) ?_
  show OGo p e below s _ _ _ (T7.setTop (mkF m 31 #[.val (.ref o0), .val (.ref b2)] [(.ref b2), (.ref b2)]))
  obtain ⟨cl8, Ar8, -, Sz8, Nn8, -, -⟩ := id V7
  refine OGo.st (fun _ k => X7.arraylength hx (by rw [e7]; exact Ar8.1) (State.isArrayOf_alike hZ.alike Ar8.2.1) (g := (mkF m 31 #[.val (.ref o0), .val (.ref b2)] [(.ref b2), (.ref b2)])) rfl rfl (hb hby d2_31) _ k) ?_
  rw [len_of Sz8 Nn8]
  show OGo p e below s _ _ _ (T7.setTop (mkF m 32 #[.val (.ref o0), .val (.ref b2)] [(.int (4 : Int32)), (.ref b2)]))
  refine OGo.st (fun _ k => XS.iconst X7.here hx rfl (hb hby d2_32) k) ?_
  show OGo p e below s _ _ _ (T7.setTop (mkF m 33 #[.val (.ref o0), .val (.ref b2)] [(.int (1 : Int32)), (.int (4 : Int32)), (.ref b2)]))
  refine OGo.st (fun _ k => XS.isub X7.here hx rfl (hb hby d2_33) rfl k) ?_
  rw [show ((4 : Int32) - (1 : Int32)) = (3 : Int32) from by decide]
  show OGo p e below s _ _ _ (T7.setTop (mkF m 34 #[.val (.ref o0), .val (.ref b2)] [(.int (3 : Int32)), (.ref b2)]))
  refine OGo.st (fun _ k => XS.bipush X7.here hx rfl (hb hby d2_34) k) ?_
  show OGo p e below s _ _ _ (T7.setTop (mkF m 36 #[.val (.ref o0), .val (.ref b2)] [(.int (13 : Int32)), (.int (3 : Int32)), (.ref b2)]))
  obtain ⟨cl9, Ar9, q9, Sz9, Nn9, Hs9, Gs9⟩ := id V7
  have hin9 : ¬ ((3 : Int32) < 0 ∨ cl9.slots.size ≤ ((3 : Int32)).toNatClampNeg) := inb_of Sz9 ⟨by decide, by decide⟩
  obtain ⟨T9, h9, X9, e9, W9, st9⟩ := stB X7 hx hZ e7 Ar9 (j := (3 : Int32)) hin9 (g := (mkF m 36 #[.val (.ref o0), .val (.ref b2)] [(.int (13 : Int32)), (.int (3 : Int32)), (.ref b2)])) rfl rfl (hb hby d2_36)
  refine OGo.st st9 ?_
  have V_o0_w9 := V_o0_w7.other W9 ne_o0_b2
  have K9 : Keep h0 h9 [] := (K7).wr W9 (Or.inr sz_b2)
  have N9 := Fr.snoc X9 N7 g_b2
  have Z9 : n0 ≤ h9.size := Nat.le_trans Z7 (Keep.of_wr W9).1
  have V9 : Arv Z h9 b2 k2 .byte (4 : Int32) [(.int (11 : Int32)), (.int x0), (.int (28 : Int32)), (.int (13 : Int32))] (.int (0 : Int32)) := Arv.set Ar9 q9 Sz9 Nn9 Hs9 Gs9 (by decide) W9 3 rfl (Nat.le_of_ble_eq_true rfl)
  show OGo p e below s _ _ _ (T9.setTop (mkF m 37 #[.val (.ref o0), .val (.ref b2)] []))
  refine OGo.st (fun _ k => XS.aloadN X9.here hx rfl (hb hby d2_37) rfl rfl k) ?_
  show OGo p e below s _ _ _ (T9.setTop (mkF m 38 #[.val (.ref o0), .val (.ref b2)] [(.ref b2)]))
  exact oretA X9 hx Bd.notSynchronized Bd.returns rfl rfl (hb hby d2_38) e9 ⟨b2, k2, rfl, N9, K9, sz_b2, g_b2, V9⟩ (by decide) (by decide)
theorem ef_2L2 (m : MethodId) (o0 : Addr) : entryFrame m #[(.ref o0)] 2 = mkF m 0 #[.val (.ref o0), .unset] [] := by first | (simp [entryFrame, mkF, argsToLocals, Value.category]; done) | rfl
def Q2L2 (Z : State) (o0 : Addr) (k_o0 : ClassId) (x0 : Int32) (x1 : Int32) (h0 : Heap) (n0 : Nat) (v : Option Value) (h : Heap) (L : List Loc) : Prop := ∃ (b : Addr) (k : ClassId), v = some (.ref b) ∧ Fr n0 L ∧ Keep h0 h [] ∧ h0.size ≤ b ∧ n0 ≤ b ∧ Arv Z h b k .byte (5 : Int32) [(.int (11 : Int32)), (.int x0), (.int x1), (.int (28 : Int32)), (.int (13 : Int32))] (.int (0 : Int32))
set_option maxRecDepth 65536 in
set_option maxHeartbeats 40000000 in
theorem rm2L2 (l : Launch) (Z : State) (a0 : Array Value) (hw : ∀ d ∈ tables_1, d.before a0 Z = true) (ws : List Jvm.Cond) (o0 : Addr) (k_o0 : ClassId) (x0 : Int32) (x1 : Int32) (h0 : Heap) (n0 : Nat) (Z0 : n0 ≤ h0.size) (V_o0 : Arv Z h0 o0 k_o0 .byte (2 : Int32) [(.int x0), (.int x1)] (.int (0 : Int32))) :
    MetFree l (⟨"com/example/assaywire/assaywire/protocol/Mllp", "wrap", "([B)[B"⟩ : MethodName) (head1 (Jvm.Cond.code (⟨"com/example/assaywire/assaywire/protocol/Mllp", "wrap", "([B)[B"⟩ : MethodName) prog_110_method_4_code 2 (some (.array .byte)) :: ws) ({ frames := 1, cells := 1, slots := 5, locals := 18 } : Room)) (fun a U => a = #[(.ref o0)] ∧ Z.Warmed39 U.vm ∧ U.heap = h0) (fun _ _ _ _ _ => True) (fun _ U o U' => ∃ v L, o = .returned v ∧ Q2L2 Z o0 k_o0 x0 x1 h0 n0 v U'.heap L ∧ FrameEnd U o U' L ({ frames := 1, cells := 1, slots := 5, locals := 18 } : Room).cells ({ frames := 1, cells := 1, slots := 5, locals := 18 } : Room).slots) := by
  refine MetFree.of_bodySF (plainFor_of_name pn_2) hisR ?_
  intro p e s m args below meth c s₁ Bd hml0 hP hK
  obtain ⟨rfl, hZ, hh⟩ := hP
  have hx := Bd.exec
  have hby := Bd.bytes
  have hml : c.maxLocals = 2 := hml0
  have hown : s.vm.findClass "com/example/assaywire/assaywire/protocol/Mllp" = some m.cls := findClass_of_methodNamed Bd.named
  have hnm := (name_of_methodNamed Bd.named Bd.method).1
  have X0 : Stand p l e ({ frames := 1, cells := 1, slots := 5, locals := 18 } : Room) s m #[(.ref o0)] below meth c s₁ [] 0 0 := Stand.of_body Bd
  have e0 : s₁.heap = h0 := by rw [← hh, Bd.state]; rfl
  have N0 := Fr.nil n0
  show OGo p e below s (Q2L2 Z o0 k_o0 x0 x1 h0 n0) ({ frames := 1, cells := 1, slots := 5, locals := 18 } : Room).cells ({ frames := 1, cells := 1, slots := 5, locals := 18 } : Room).slots _
  refine OGo.st (fun _ k => castTop (ef_2L2 m o0) k) ?_
  show OGo p e below s _ _ _ (s₁.setTop (mkF m 0 #[.val (.ref o0), .unset] []))
  refine OGo.st (fun _ k => XS.aloadN X0.here hx rfl (hb hby d2_0) rfl rfl k) ?_
  show OGo p e below s _ _ _ (s₁.setTop (mkF m 1 #[.val (.ref o0), .unset] [(.ref o0)]))
  obtain ⟨cl1, Ar1, -, Sz1, Nn1, -, -⟩ := id V_o0
  refine OGo.st (fun _ k => X0.arraylength hx (by rw [e0]; exact Ar1.1) (State.isArrayOf_alike hZ.alike Ar1.2.1) (g := (mkF m 1 #[.val (.ref o0), .unset] [(.ref o0)])) rfl rfl (hb hby d2_1) _ k) ?_
  rw [len_of Sz1 Nn1]
  show OGo p e below s _ _ _ (s₁.setTop (mkF m 2 #[.val (.ref o0), .unset] [(.int (2 : Int32))]))
  refine OGo.st (fun _ k => XS.iconst X0.here hx rfl (hb hby d2_2) k) ?_
  show OGo p e below s _ _ _ (s₁.setTop (mkF m 3 #[.val (.ref o0), .unset] [(.int (3 : Int32)), (.int (2 : Int32))]))
  refine OGo.st (fun _ k => XS.iadd X0.here hx rfl (hb hby d2_3) rfl k) ?_
  rw [show ((2 : Int32) + (3 : Int32)) = (5 : Int32) from by decide]
  show OGo p e below s _ _ _ (s₁.setTop (mkF m 4 #[.val (.ref o0), .unset] [(.int (5 : Int32))]))
  obtain ⟨T2, h2, k2, X2, e2, E2, A2, st2⟩ := newP X0 hx hZ (hw _ (List.mem_of_getElem? (i := 0) rfl)) e0 (g := (mkF m 4 #[.val (.ref o0), .unset] [(.int (5 : Int32))])) rfl (hb hby d2_4) rfl (by decide) (cap := 5) (by decide) (by decide) (by decide) (by decide)
  obtain ⟨b2, g2⟩ : ∃ z, z = h0.size := ⟨_, rfl⟩
  rw [← g2] at A2 st2
  refine OGo.st st2 ?_
  have V_o0_w2 := V_o0.ext E2
  have ne_o0_b2 : o0 ≠ b2 := Nat.ne_of_lt (Nat.lt_of_lt_of_le V_o0.lt (Nat.le_of_eq g2.symm))
  have g_b2 : n0 ≤ b2 := Nat.le_trans Z0 (Nat.le_of_eq g2.symm)
  have sz_b2 : h0.size ≤ b2 := Nat.le_trans (Keep.refl h0 []).1 (Nat.le_of_eq g2.symm)
  have K2 : Keep h0 h2 [] := (Keep.refl h0 _).ext E2
  have Z2 : n0 ≤ h2.size := Nat.le_trans Z0 E2.1
  have V_b2 : Arv Z h2 b2 k2 .byte (5 : Int32) [(.int (0 : Int32)), (.int (0 : Int32)), (.int (0 : Int32)), (.int (0 : Int32)), (.int (0 : Int32))] (.int (0 : Int32)) := (Arv.new A2 (by decide)).pad (pad_rep [] (.int (0 : Int32)) 5)
  show OGo p e below s _ _ _ (T2.setTop (mkF m 6 #[.val (.ref o0), .unset] [(.ref b2)]))
  refine OGo.st (fun _ k => XS.astoreN X2.here hx rfl (hb hby d2_6) rfl rfl (l' := #[.val (.ref o0), .val (.ref b2)]) rfl k) ?_
  show OGo p e below s _ _ _ (T2.setTop (mkF m 7 #[.val (.ref o0), .val (.ref b2)] []))
  refine OGo.st (fun _ k => XS.aloadN X2.here hx rfl (hb hby d2_7) rfl rfl k) ?_
  show OGo p e below s _ _ _ (T2.setTop (mkF m 8 #[.val (.ref o0), .val (.ref b2)] [(.ref b2)]))
  refine OGo.st (fun _ k => XS.iconst X2.here hx rfl (hb hby d2_8) k) ?_
  show OGo p e below s _ _ _ (T2.setTop (mkF m 9 #[.val (.ref o0), .val (.ref b2)] [(.int (0 : Int32)), (.ref b2)]))
  refine OGo.st (fun _ k => XS.bipush X2.here hx rfl (hb hby d2_9) k) ?_
  show OGo p e below s _ _ _ (T2.setTop (mkF m 11 #[.val (.ref o0), .val (.ref b2)] [(.int (11 : Int32)), (.int (0 : Int32)), (.ref b2)]))
  obtain ⟨cl3, Ar3, q3, Sz3, Nn3, Hs3, Gs3⟩ := id V_b2
  have hin3 : ¬ ((0 : Int32) < 0 ∨ cl3.slots.size ≤ ((0 : Int32)).toNatClampNeg) := inb_of Sz3 ⟨by decide, by decide⟩
  obtain ⟨T3, h3, X3, e3, W3, st3⟩ := stB X2 hx hZ e2 Ar3 (j := (0 : Int32)) hin3 (g := (mkF m 11 #[.val (.ref o0), .val (.ref b2)] [(.int (11 : Int32)), (.int (0 : Int32)), (.ref b2)])) rfl rfl (hb hby d2_11)
  refine OGo.st st3 ?_
  have V_o0_w3 := V_o0_w2.other W3 ne_o0_b2
  have K3 : Keep h0 h3 [] := (K2).wr W3 (Or.inr sz_b2)
  have N3 := Fr.snoc X3 N0 g_b2
  have Z3 : n0 ≤ h3.size := Nat.le_trans Z2 (Keep.of_wr W3).1
  have V3 : Arv Z h3 b2 k2 .byte (5 : Int32) [(.int (11 : Int32)), (.int (0 : Int32)), (.int (0 : Int32)), (.int (0 : Int32)), (.int (0 : Int32))] (.int (0 : Int32)) := Arv.set Ar3 q3 Sz3 Nn3 Hs3 Gs3 (by decide) W3 0 rfl (Nat.le_of_ble_eq_true rfl)
  show OGo p e below s _ _ _ (T3.setTop (mkF m 12 #[.val (.ref o0), .val (.ref b2)] []))
  refine OGo.st (fun _ k => XS.aloadN X3.here hx rfl (hb hby d2_12) rfl rfl k) ?_
  show OGo p e below s _ _ _ (T3.setTop (mkF m 13 #[.val (.ref o0), .val (.ref b2)] [(.ref o0)]))
  refine OGo.st (fun _ k => XS.iconst X3.here hx rfl (hb hby d2_13) k) ?_
  show OGo p e below s _ _ _ (T3.setTop (mkF m 14 #[.val (.ref o0), .val (.ref b2)] [(.int (0 : Int32)), (.ref o0)]))
  refine OGo.st (fun _ k => XS.aloadN X3.here hx rfl (hb hby d2_14) rfl rfl k) ?_
  show OGo p e below s _ _ _ (T3.setTop (mkF m 15 #[.val (.ref o0), .val (.ref b2)] [(.ref b2), (.int (0 : Int32)), (.ref o0)]))
  refine OGo.st (fun _ k => XS.iconst X3.here hx rfl (hb hby d2_15) k) ?_
  show OGo p e below s _ _ _ (T3.setTop (mkF m 16 #[.val (.ref o0), .val (.ref b2)] [(.int (1 : Int32)), (.ref b2), (.int (0 : Int32)), (.ref o0)]))
  refine OGo.st (fun _ k => XS.aloadN X3.here hx rfl (hb hby d2_16) rfl rfl k) ?_
  show OGo p e below s _ _ _ (T3.setTop (mkF m 17 #[.val (.ref o0), .val (.ref b2)] [(.ref o0), (.int (1 : Int32)), (.ref b2), (.int (0 : Int32)), (.ref o0)]))
  obtain ⟨cl4, Ar4, -, Sz4, Nn4, -, -⟩ := id V_o0_w3
  refine OGo.st (fun _ k => X3.arraylength hx (by rw [e3]; exact Ar4.1) (State.isArrayOf_alike hZ.alike Ar4.2.1) (g := (mkF m 17 #[.val (.ref o0), .val (.ref b2)] [(.ref o0), (.int (1 : Int32)), (.ref b2), (.int (0 : Int32)), (.ref o0)])) rfl rfl (hb hby d2_17) _ k) ?_
  rw [len_of Sz4 Nn4]
  show OGo p e below s _ _ _ (T3.setTop (mkF m 18 #[.val (.ref o0), .val (.ref b2)] [(.int (2 : Int32)), (.int (1 : Int32)), (.ref b2), (.int (0 : Int32)), (.ref o0)]))
  obtain ⟨T5, h5, L5, X5, e5, N5, Kc5, Vq5, st5⟩ := cpA X3 hx hZ hown (hw _ (List.mem_of_getElem? (i := 8) rfl)) (hw _ (List.mem_of_getElem? (i := 11) rfl)) (hw _ (List.mem_of_getElem? (i := 9) rfl)) (hw _ (List.mem_of_getElem? (i := 10) rfl)) e3 V_o0_w3 V3 (us := [(.int x0), (.int x1)]) (sp := (0 : Int32)) (dp := (1 : Int32)) (nn := (2 : Int32)) (Or.inl ⟨rfl, rfl⟩) (by decide) (by decide) (by decide) (by decide) (by decide) rfl (by decide) N3 g_b2 (g := (mkF m 18 #[.val (.ref o0), .val (.ref b2)] [(.int (2 : Int32)), (.int (1 : Int32)), (.ref b2), (.int (0 : Int32)), (.ref o0)])) rfl (by rw [hml]; rfl) rfl (hb hby d2_18) (by decide) (W := 0) (by show 2 * 0 + _ ≤ _; exact Nat.le_of_eq rfl) (by decide)
  have V_o0_w5 := V_o0_w3.keep Kc5 (ninS ne_o0_b2 nin0)
  have K5 : Keep h0 h5 [] := (K3).trans Kc5 (allS (Or.inr sz_b2) all0)
  have Z5 : n0 ≤ h5.size := Nat.le_trans Z3 Kc5.1
  have V5 : Arv Z h5 b2 k2 .byte (5 : Int32) [(.int (11 : Int32)), (.int x0), (.int x1), (.int (0 : Int32)), (.int (0 : Int32))] (.int (0 : Int32)) := Vq5
  refine OGo.st st5 ?_
  show OGo p e below s _ _ _ (T5.setTop (mkF m 21 #[.val (.ref o0), .val (.ref b2)] []))
  refine OGo.st (fun _ k => XS.aloadN X5.here hx rfl (hb hby d2_21) rfl rfl k) ?_
  show OGo p e below s _ _ _ (T5.setTop (mkF m 22 #[.val (.ref o0), .val (.ref b2)] [(.ref b2)]))
  refine OGo.st (fun _ k => XS.aloadN X5.here hx rfl (hb hby d2_22) rfl rfl k) ?_
  show OGo p e below s _ _ _ (T5.setTop (mkF m 23 #[.val (.ref o0), .val (.ref b2)] [(.ref b2), (.ref b2)]))
  obtain ⟨cl6, Ar6, -, Sz6, Nn6, -, -⟩ := id V5
  refine OGo.st (fun _ k => X5.arraylength hx (by rw [e5]; exact Ar6.1) (State.isArrayOf_alike hZ.alike Ar6.2.1) (g := (mkF m 23 #[.val (.ref o0), .val (.ref b2)] [(.ref b2), (.ref b2)])) rfl rfl (hb hby d2_23) _ k) ?_
  rw [len_of Sz6 Nn6]
  show OGo p e below s _ _ _ (T5.setTop (mkF m 24 #[.val (.ref o0), .val (.ref b2)] [(.int (5 : Int32)), (.ref b2)]))
  refine OGo.st (fun _ k => XS.iconst X5.here hx rfl (hb hby d2_24) k) ?_
  show OGo p e below s _ _ _ (T5.setTop (mkF m 25 #[.val (.ref o0), .val (.ref b2)] [(.int (2 : Int32)), (.int (5 : Int32)), (.ref b2)]))
  refine OGo.st (fun _ k => XS.isub X5.here hx rfl (hb hby d2_25) rfl k) ?_
  rw [show ((5 : Int32) - (2 : Int32)) = (3 : Int32) from by decide]
  show OGo p e below s _ _ _ (T5.setTop (mkF m 26 #[.val (.ref o0), .val (.ref b2)] [(.int (3 : Int32)), (.ref b2)]))
  refine OGo.st (fun _ k => XS.bipush X5.here hx rfl (hb hby d2_26) k) ?_
  show OGo p e below s _ _ _ (T5.setTop (mkF m 28 #[.val (.ref o0), .val (.ref b2)] [(.int (28 : Int32)), (.int (3 : Int32)), (.ref b2)]))
  obtain ⟨cl7, Ar7, q7, Sz7, Nn7, Hs7, Gs7⟩ := id V5
  have hin7 : ¬ ((3 : Int32) < 0 ∨ cl7.slots.size ≤ ((3 : Int32)).toNatClampNeg) := inb_of Sz7 ⟨by decide, by decide⟩
  obtain ⟨T7, h7, X7, e7, W7, st7⟩ := stB X5 hx hZ e5 Ar7 (j := (3 : Int32)) hin7 (g := (mkF m 28 #[.val (.ref o0), .val (.ref b2)] [(.int (28 : Int32)), (.int (3 : Int32)), (.ref b2)])) rfl rfl (hb hby d2_28)
  refine OGo.st st7 ?_
  have V_o0_w7 := V_o0_w5.other W7 ne_o0_b2
  have K7 : Keep h0 h7 [] := (K5).wr W7 (Or.inr sz_b2)
  have N7 := Fr.snoc X7 N5 g_b2
  have Z7 : n0 ≤ h7.size := Nat.le_trans Z5 (Keep.of_wr W7).1
  have V7 : Arv Z h7 b2 k2 .byte (5 : Int32) [(.int (11 : Int32)), (.int x0), (.int x1), (.int (28 : Int32)), (.int (0 : Int32))] (.int (0 : Int32)) := Arv.set Ar7 q7 Sz7 Nn7 Hs7 Gs7 (by decide) W7 3 rfl (Nat.le_of_ble_eq_true rfl)
  show OGo p e below s _ _ _ (T7.setTop (mkF m 29 #[.val (.ref o0), .val (.ref b2)] []))
  refine OGo.st (fun _ k => XS.aloadN X7.here hx rfl (hb hby d2_29) rfl rfl k) ?_
  show OGo p e below s _ _ _ (T7.setTop (mkF m 30 #[.val (.ref o0), .val (.ref b2)] [(.ref b2)]))
  refine OGo.st (fun _ k => XS.aloadN X7.here hx rfl (hb hby d2_30) rfl rfl k) ?_
  show OGo p e below s _ _ _ (T7.setTop (mkF m 31 #[.val (.ref o0), .val (.ref b2)] [(.ref b2), (.ref b2)]))
  obtain ⟨cl8, Ar8, -, Sz8, Nn8, -, -⟩ := id V7
  refine OGo.st (fun _ k => X7.arraylength hx (by rw [e7]; exact Ar8.1) (State.isArrayOf_alike hZ.alike Ar8.2.1) (g := (mkF m 31 #[.val (.ref o0), .val (.ref b2)] [(.ref b2), (.ref b2)])) rfl rfl (hb hby d2_31) _ k) ?_
  rw [len_of Sz8 Nn8]
  show OGo p e below s _ _ _ (T7.setTop (mkF m 32 #[.val (.ref o0), .val (.ref b2)] [(.int (5 : Int32)), (.ref b2)]))
  refine OGo.st (fun _ k => XS.iconst X7.here hx rfl (hb hby d2_32) k) ?_
  show OGo p e below s _ _ _ (T7.setTop (mkF m 33 #[.val (.ref o0), .val (.ref b2)] [(.int (1 : Int32)), (.int (5 : Int32)), (.ref b2)]))
  refine OGo.st (fun _ k => XS.isub X7.here hx rfl (hb hby d2_33) rfl k) ?_
  rw [show ((5 : Int32) - (1 : Int32)) = (4 : Int32) from by decide]
  show OGo p e below s _ _ _ (T7.setTop (mkF m 34 #[.val (.ref o0), .val (.ref b2)] [(.int (4 : Int32)), (.ref b2)]))
  refine OGo.st (fun _ k => XS.bipush X7.here hx rfl (hb hby d2_34) k) ?_
  show OGo p e below s _ _ _ (T7.setTop (mkF m 36 #[.val (.ref o0), .val (.ref b2)] [(.int (13 : Int32)), (.int (4 : Int32)), (.ref b2)]))
  obtain ⟨cl9, Ar9, q9, Sz9, Nn9, Hs9, Gs9⟩ := id V7
  have hin9 : ¬ ((4 : Int32) < 0 ∨ cl9.slots.size ≤ ((4 : Int32)).toNatClampNeg) := inb_of Sz9 ⟨by decide, by decide⟩
  obtain ⟨T9, h9, X9, e9, W9, st9⟩ := stB X7 hx hZ e7 Ar9 (j := (4 : Int32)) hin9 (g := (mkF m 36 #[.val (.ref o0), .val (.ref b2)] [(.int (13 : Int32)), (.int (4 : Int32)), (.ref b2)])) rfl rfl (hb hby d2_36)
  refine OGo.st st9 ?_
  have V_o0_w9 := V_o0_w7.other W9 ne_o0_b2
  have K9 : Keep h0 h9 [] := (K7).wr W9 (Or.inr sz_b2)
  have N9 := Fr.snoc X9 N7 g_b2
  have Z9 : n0 ≤ h9.size := Nat.le_trans Z7 (Keep.of_wr W9).1
  have V9 : Arv Z h9 b2 k2 .byte (5 : Int32) [(.int (11 : Int32)), (.int x0), (.int x1), (.int (28 : Int32)), (.int (13 : Int32))] (.int (0 : Int32)) := Arv.set Ar9 q9 Sz9 Nn9 Hs9 Gs9 (by decide) W9 4 rfl (Nat.le_of_ble_eq_true rfl)
  show OGo p e below s _ _ _ (T9.setTop (mkF m 37 #[.val (.ref o0), .val (.ref b2)] []))
  refine OGo.st (fun _ k => XS.aloadN X9.here hx rfl (hb hby d2_37) rfl rfl k) ?_
  show OGo p e below s _ _ _ (T9.setTop (mkF m 38 #[.val (.ref o0), .val (.ref b2)] [(.ref b2)]))
  exact oretA X9 hx Bd.notSynchronized Bd.returns rfl rfl (hb hby d2_38) e9 ⟨b2, k2, rfl, N9, K9, sz_b2, g_b2, V9⟩ (by decide) (by decide)
theorem ef_2L3 (m : MethodId) (o0 : Addr) : entryFrame m #[(.ref o0)] 2 = mkF m 0 #[.val (.ref o0), .unset] [] := by first | (simp [entryFrame, mkF, argsToLocals, Value.category]; done) | rfl
def Q2L3 (Z : State) (o0 : Addr) (k_o0 : ClassId) (x0 : Int32) (x1 : Int32) (x2 : Int32) (h0 : Heap) (n0 : Nat) (v : Option Value) (h : Heap) (L : List Loc) : Prop := ∃ (b : Addr) (k : ClassId), v = some (.ref b) ∧ Fr n0 L ∧ Keep h0 h [] ∧ h0.size ≤ b ∧ n0 ≤ b ∧ Arv Z h b k .byte (6 : Int32) [(.int (11 : Int32)), (.int x0), (.int x1), (.int x2), (.int (28 : Int32)), (.int (13 : Int32))] (.int (0 : Int32))
set_option maxRecDepth 65536 in
set_option maxHeartbeats 40000000 in
theorem rm2L3 (l : Launch) (Z : State) (a0 : Array Value) (hw : ∀ d ∈ tables_1, d.before a0 Z = true) (ws : List Jvm.Cond) (o0 : Addr) (k_o0 : ClassId) (x0 : Int32) (x1 : Int32) (x2 : Int32) (h0 : Heap) (n0 : Nat) (Z0 : n0 ≤ h0.size) (V_o0 : Arv Z h0 o0 k_o0 .byte (3 : Int32) [(.int x0), (.int x1), (.int x2)] (.int (0 : Int32))) :
    MetFree l (⟨"com/example/assaywire/assaywire/protocol/Mllp", "wrap", "([B)[B"⟩ : MethodName) (head1 (Jvm.Cond.code (⟨"com/example/assaywire/assaywire/protocol/Mllp", "wrap", "([B)[B"⟩ : MethodName) prog_110_method_4_code 2 (some (.array .byte)) :: ws) ({ frames := 1, cells := 1, slots := 6, locals := 18 } : Room)) (fun a U => a = #[(.ref o0)] ∧ Z.Warmed39 U.vm ∧ U.heap = h0) (fun _ _ _ _ _ => True) (fun _ U o U' => ∃ v L, o = .returned v ∧ Q2L3 Z o0 k_o0 x0 x1 x2 h0 n0 v U'.heap L ∧ FrameEnd U o U' L ({ frames := 1, cells := 1, slots := 6, locals := 18 } : Room).cells ({ frames := 1, cells := 1, slots := 6, locals := 18 } : Room).slots) := by
  refine MetFree.of_bodySF (plainFor_of_name pn_2) hisR ?_
  intro p e s m args below meth c s₁ Bd hml0 hP hK
  obtain ⟨rfl, hZ, hh⟩ := hP
  have hx := Bd.exec
  have hby := Bd.bytes
  have hml : c.maxLocals = 2 := hml0
  have hown : s.vm.findClass "com/example/assaywire/assaywire/protocol/Mllp" = some m.cls := findClass_of_methodNamed Bd.named
  have hnm := (name_of_methodNamed Bd.named Bd.method).1
  have X0 : Stand p l e ({ frames := 1, cells := 1, slots := 6, locals := 18 } : Room) s m #[(.ref o0)] below meth c s₁ [] 0 0 := Stand.of_body Bd
  have e0 : s₁.heap = h0 := by rw [← hh, Bd.state]; rfl
  have N0 := Fr.nil n0
  show OGo p e below s (Q2L3 Z o0 k_o0 x0 x1 x2 h0 n0) ({ frames := 1, cells := 1, slots := 6, locals := 18 } : Room).cells ({ frames := 1, cells := 1, slots := 6, locals := 18 } : Room).slots _
  refine OGo.st (fun _ k => castTop (ef_2L3 m o0) k) ?_
  show OGo p e below s _ _ _ (s₁.setTop (mkF m 0 #[.val (.ref o0), .unset] []))
  refine OGo.st (fun _ k => XS.aloadN X0.here hx rfl (hb hby d2_0) rfl rfl k) ?_
  show OGo p e below s _ _ _ (s₁.setTop (mkF m 1 #[.val (.ref o0), .unset] [(.ref o0)]))
  obtain ⟨cl1, Ar1, -, Sz1, Nn1, -, -⟩ := id V_o0
  refine OGo.st (fun _ k => X0.arraylength hx (by rw [e0]; exact Ar1.1) (State.isArrayOf_alike hZ.alike Ar1.2.1) (g := (mkF m 1 #[.val (.ref o0), .unset] [(.ref o0)])) rfl rfl (hb hby d2_1) _ k) ?_
  rw [len_of Sz1 Nn1]
  show OGo p e below s _ _ _ (s₁.setTop (mkF m 2 #[.val (.ref o0), .unset] [(.int (3 : Int32))]))
  refine OGo.st (fun _ k => XS.iconst X0.here hx rfl (hb hby d2_2) k) ?_
  show OGo p e below s _ _ _ (s₁.setTop (mkF m 3 #[.val (.ref o0), .unset] [(.int (3 : Int32)), (.int (3 : Int32))]))
  refine OGo.st (fun _ k => XS.iadd X0.here hx rfl (hb hby d2_3) rfl k) ?_
  rw [show ((3 : Int32) + (3 : Int32)) = (6 : Int32) from by decide]
  show OGo p e below s _ _ _ (s₁.setTop (mkF m 4 #[.val (.ref o0), .unset] [(.int (6 : Int32))]))
  obtain ⟨T2, h2, k2, X2, e2, E2, A2, st2⟩ := newP X0 hx hZ (hw _ (List.mem_of_getElem? (i := 0) rfl)) e0 (g := (mkF m 4 #[.val (.ref o0), .unset] [(.int (6 : Int32))])) rfl (hb hby d2_4) rfl (by decide) (cap := 6) (by decide) (by decide) (by decide) (by decide)
  obtain ⟨b2, g2⟩ : ∃ z, z = h0.size := ⟨_, rfl⟩
  rw [← g2] at A2 st2
  refine OGo.st st2 ?_
  have V_o0_w2 := V_o0.ext E2
  have ne_o0_b2 : o0 ≠ b2 := Nat.ne_of_lt (Nat.lt_of_lt_of_le V_o0.lt (Nat.le_of_eq g2.symm))
  have g_b2 : n0 ≤ b2 := Nat.le_trans Z0 (Nat.le_of_eq g2.symm)
  have sz_b2 : h0.size ≤ b2 := Nat.le_trans (Keep.refl h0 []).1 (Nat.le_of_eq g2.symm)
  have K2 : Keep h0 h2 [] := (Keep.refl h0 _).ext E2
  have Z2 : n0 ≤ h2.size := Nat.le_trans Z0 E2.1
  have V_b2 : Arv Z h2 b2 k2 .byte (6 : Int32) [(.int (0 : Int32)), (.int (0 : Int32)), (.int (0 : Int32)), (.int (0 : Int32)), (.int (0 : Int32)), (.int (0 : Int32))] (.int (0 : Int32)) := (Arv.new A2 (by decide)).pad (pad_rep [] (.int (0 : Int32)) 6)
  show OGo p e below s _ _ _ (T2.setTop (mkF m 6 #[.val (.ref o0), .unset] [(.ref b2)]))
  refine OGo.st (fun _ k => XS.astoreN X2.here hx rfl (hb hby d2_6) rfl rfl (l' := #[.val (.ref o0), .val (.ref b2)]) rfl k) ?_
  show OGo p e below s _ _ _ (T2.setTop (mkF m 7 #[.val (.ref o0), .val (.ref b2)] []))
  refine OGo.st (fun _ k => XS.aloadN X2.here hx rfl (hb hby d2_7) rfl rfl k) ?_
  show OGo p e below s _ _ _ (T2.setTop (mkF m 8 #[.val (.ref o0), .val (.ref b2)] [(.ref b2)]))
  refine OGo.st (fun _ k => XS.iconst X2.here hx rfl (hb hby d2_8) k) ?_
  show OGo p e below s _ _ _ (T2.setTop (mkF m 9 #[.val (.ref o0), .val (.ref b2)] [(.int (0 : Int32)), (.ref b2)]))
  refine OGo.st (fun _ k => XS.bipush X2.here hx rfl (hb hby d2_9) k) ?_
  show OGo p e below s _ _ _ (T2.setTop (mkF m 11 #[.val (.ref o0), .val (.ref b2)] [(.int (11 : Int32)), (.int (0 : Int32)), (.ref b2)]))
  obtain ⟨cl3, Ar3, q3, Sz3, Nn3, Hs3, Gs3⟩ := id V_b2
  have hin3 : ¬ ((0 : Int32) < 0 ∨ cl3.slots.size ≤ ((0 : Int32)).toNatClampNeg) := inb_of Sz3 ⟨by decide, by decide⟩
  obtain ⟨T3, h3, X3, e3, W3, st3⟩ := stB X2 hx hZ e2 Ar3 (j := (0 : Int32)) hin3 (g := (mkF m 11 #[.val (.ref o0), .val (.ref b2)] [(.int (11 : Int32)), (.int (0 : Int32)), (.ref b2)])) rfl rfl (hb hby d2_11)
  refine OGo.st st3 ?_
  have V_o0_w3 := V_o0_w2.other W3 ne_o0_b2
  have K3 : Keep h0 h3 [] := (K2).wr W3 (Or.inr sz_b2)
  have N3 := Fr.snoc X3 N0 g_b2
  have Z3 : n0 ≤ h3.size := Nat.le_trans Z2 (Keep.of_wr W3).1
  have V3 : Arv Z h3 b2 k2 .byte (6 : Int32) [(.int (11 : Int32)), (.int (0 : Int32)), (.int (0 : Int32)), (.int (0 : Int32)), (.int (0 : Int32)), (.int (0 : Int32))] (.int (0 : Int32)) := Arv.set Ar3 q3 Sz3 Nn3 Hs3 Gs3 (by decide) W3 0 rfl (Nat.le_of_ble_eq_true rfl)
  show OGo p e below s _ _ _ (T3.setTop (mkF m 12 #[.val (.ref o0), .val (.ref b2)] []))
  refine OGo.st (fun _ k => XS.aloadN X3.here hx rfl (hb hby d2_12) rfl rfl k) ?_
  show OGo p e below s _ _ _ (T3.setTop (mkF m 13 #[.val (.ref o0), .val (.ref b2)] [(.ref o0)]))
  refine OGo.st (fun _ k => XS.iconst X3.here hx rfl (hb hby d2_13) k) ?_
  show OGo p e below s _ _ _ (T3.setTop (mkF m 14 #[.val (.ref o0), .val (.ref b2)] [(.int (0 : Int32)), (.ref o0)]))
  refine OGo.st (fun _ k => XS.aloadN X3.here hx rfl (hb hby d2_14) rfl rfl k) ?_
  show OGo p e below s _ _ _ (T3.setTop (mkF m 15 #[.val (.ref o0), .val (.ref b2)] [(.ref b2), (.int (0 : Int32)), (.ref o0)]))
  refine OGo.st (fun _ k => XS.iconst X3.here hx rfl (hb hby d2_15) k) ?_
  show OGo p e below s _ _ _ (T3.setTop (mkF m 16 #[.val (.ref o0), .val (.ref b2)] [(.int (1 : Int32)), (.ref b2), (.int (0 : Int32)), (.ref o0)]))
  refine OGo.st (fun _ k => XS.aloadN X3.here hx rfl (hb hby d2_16) rfl rfl k) ?_
  show OGo p e below s _ _ _ (T3.setTop (mkF m 17 #[.val (.ref o0), .val (.ref b2)] [(.ref o0), (.int (1 : Int32)), (.ref b2), (.int (0 : Int32)), (.ref o0)]))
  obtain ⟨cl4, Ar4, -, Sz4, Nn4, -, -⟩ := id V_o0_w3
  refine OGo.st (fun _ k => X3.arraylength hx (by rw [e3]; exact Ar4.1) (State.isArrayOf_alike hZ.alike Ar4.2.1) (g := (mkF m 17 #[.val (.ref o0), .val (.ref b2)] [(.ref o0), (.int (1 : Int32)), (.ref b2), (.int (0 : Int32)), (.ref o0)])) rfl rfl (hb hby d2_17) _ k) ?_
  rw [len_of Sz4 Nn4]
  show OGo p e below s _ _ _ (T3.setTop (mkF m 18 #[.val (.ref o0), .val (.ref b2)] [(.int (3 : Int32)), (.int (1 : Int32)), (.ref b2), (.int (0 : Int32)), (.ref o0)]))
  obtain ⟨T5, h5, L5, X5, e5, N5, Kc5, Vq5, st5⟩ := cpA X3 hx hZ hown (hw _ (List.mem_of_getElem? (i := 8) rfl)) (hw _ (List.mem_of_getElem? (i := 11) rfl)) (hw _ (List.mem_of_getElem? (i := 9) rfl)) (hw _ (List.mem_of_getElem? (i := 10) rfl)) e3 V_o0_w3 V3 (us := [(.int x0), (.int x1), (.int x2)]) (sp := (0 : Int32)) (dp := (1 : Int32)) (nn := (3 : Int32)) (Or.inl ⟨rfl, rfl⟩) (by decide) (by decide) (by decide) (by decide) (by decide) rfl (by decide) N3 g_b2 (g := (mkF m 18 #[.val (.ref o0), .val (.ref b2)] [(.int (3 : Int32)), (.int (1 : Int32)), (.ref b2), (.int (0 : Int32)), (.ref o0)])) rfl (by rw [hml]; rfl) rfl (hb hby d2_18) (by decide) (W := 0) (by show 2 * 0 + _ ≤ _; exact Nat.le_of_eq rfl) (by decide)
  have V_o0_w5 := V_o0_w3.keep Kc5 (ninS ne_o0_b2 nin0)
  have K5 : Keep h0 h5 [] := (K3).trans Kc5 (allS (Or.inr sz_b2) all0)
  have Z5 : n0 ≤ h5.size := Nat.le_trans Z3 Kc5.1
  have V5 : Arv Z h5 b2 k2 .byte (6 : Int32) [(.int (11 : Int32)), (.int x0), (.int x1), (.int x2), (.int (0 : Int32)), (.int (0 : Int32))] (.int (0 : Int32)) := Vq5
  refine OGo.st st5 ?_
  show OGo p e below s _ _ _ (T5.setTop (mkF m 21 #[.val (.ref o0), .val (.ref b2)] []))
  refine OGo.st (fun _ k => XS.aloadN X5.here hx rfl (hb hby d2_21) rfl rfl k) ?_
  show OGo p e below s _ _ _ (T5.setTop (mkF m 22 #[.val (.ref o0), .val (.ref b2)] [(.ref b2)]))
  refine OGo.st (fun _ k => XS.aloadN X5.here hx rfl (hb hby d2_22) rfl rfl k) ?_
  show OGo p e below s _ _ _ (T5.setTop (mkF m 23 #[.val (.ref o0), .val (.ref b2)] [(.ref b2), (.ref b2)]))
  obtain ⟨cl6, Ar6, -, Sz6, Nn6, -, -⟩ := id V5
  refine OGo.st (fun _ k => X5.arraylength hx (by rw [e5]; exact Ar6.1) (State.isArrayOf_alike hZ.alike Ar6.2.1) (g := (mkF m 23 #[.val (.ref o0), .val (.ref b2)] [(.ref b2), (.ref b2)])) rfl rfl (hb hby d2_23) _ k) ?_
  rw [len_of Sz6 Nn6]
  show OGo p e below s _ _ _ (T5.setTop (mkF m 24 #[.val (.ref o0), .val (.ref b2)] [(.int (6 : Int32)), (.ref b2)]))
  refine OGo.st (fun _ k => XS.iconst X5.here hx rfl (hb hby d2_24) k) ?_
  show OGo p e below s _ _ _ (T5.setTop (mkF m 25 #[.val (.ref o0), .val (.ref b2)] [(.int (2 : Int32)), (.int (6 : Int32)), (.ref b2)]))
  refine OGo.st (fun _ k => XS.isub X5.here hx rfl (hb hby d2_25) rfl k) ?_
  rw [show ((6 : Int32) - (2 : Int32)) = (4 : Int32) from by decide]
  show OGo p e below s _ _ _ (T5.setTop (mkF m 26 #[.val (.ref o0), .val (.ref b2)] [(.int (4 : Int32)), (.ref b2)]))
  refine OGo.st (fun _ k => XS.bipush X5.here hx rfl (hb hby d2_26) k) ?_
  show OGo p e below s _ _ _ (T5.setTop (mkF m 28 #[.val (.ref o0), .val (.ref b2)] [(.int (28 : Int32)), (.int (4 : Int32)), (.ref b2)]))
  obtain ⟨cl7, Ar7, q7, Sz7, Nn7, Hs7, Gs7⟩ := id V5
  have hin7 : ¬ ((4 : Int32) < 0 ∨ cl7.slots.size ≤ ((4 : Int32)).toNatClampNeg) := inb_of Sz7 ⟨by decide, by decide⟩
  obtain ⟨T7, h7, X7, e7, W7, st7⟩ := stB X5 hx hZ e5 Ar7 (j := (4 : Int32)) hin7 (g := (mkF m 28 #[.val (.ref o0), .val (.ref b2)] [(.int (28 : Int32)), (.int (4 : Int32)), (.ref b2)])) rfl rfl (hb hby d2_28)
  refine OGo.st st7 ?_
  have V_o0_w7 := V_o0_w5.other W7 ne_o0_b2
  have K7 : Keep h0 h7 [] := (K5).wr W7 (Or.inr sz_b2)
  have N7 := Fr.snoc X7 N5 g_b2
  have Z7 : n0 ≤ h7.size := Nat.le_trans Z5 (Keep.of_wr W7).1
  have V7 : Arv Z h7 b2 k2 .byte (6 : Int32) [(.int (11 : Int32)), (.int x0), (.int x1), (.int x2), (.int (28 : Int32)), (.int (0 : Int32))] (.int (0 : Int32)) := Arv.set Ar7 q7 Sz7 Nn7 Hs7 Gs7 (by decide) W7 4 rfl (Nat.le_of_ble_eq_true rfl)
  show OGo p e below s _ _ _ (T7.setTop (mkF m 29 #[.val (.ref o0), .val (.ref b2)] []))
  refine OGo.st (fun _ k => XS.aloadN X7.here hx rfl (hb hby d2_29) rfl rfl k) ?_
  show OGo p e below s _ _ _ (T7.setTop (mkF m 30 #[.val (.ref o0), .val (.ref b2)] [(.ref b2)]))
  refine OGo.st (fun _ k => XS.aloadN X7.here hx rfl (hb hby d2_30) rfl rfl k) ?_
  show OGo p e below s _ _ _ (T7.setTop (mkF m 31 #[.val (.ref o0), .val (.ref b2)] [(.ref b2), (.ref b2)]))
  obtain ⟨cl8, Ar8, -, Sz8, Nn8, -, -⟩ := id V7
  refine OGo.st (fun _ k => X7.arraylength hx (by rw [e7]; exact Ar8.1) (State.isArrayOf_alike hZ.alike Ar8.2.1) (g := (mkF m 31 #[.val (.ref o0), .val (.ref b2)] [(.ref b2), (.ref b2)])) rfl rfl (hb hby d2_31) _ k) ?_
  rw [len_of Sz8 Nn8]
  show OGo p e below s _ _ _ (T7.setTop (mkF m 32 #[.val (.ref o0), .val (.ref b2)] [(.int (6 : Int32)), (.ref b2)]))
  refine OGo.st (fun _ k => XS.iconst X7.here hx rfl (hb hby d2_32) k) ?_
  show OGo p e below s _ _ _ (T7.setTop (mkF m 33 #[.val (.ref o0), .val (.ref b2)] [(.int (1 : Int32)), (.int (6 : Int32)), (.ref b2)]))
  refine OGo.st (fun _ k => XS.isub X7.here hx rfl (hb hby d2_33) rfl k) ?_
  rw [show ((6 : Int32) - (1 : Int32)) = (5 : Int32) from by decide]
  show OGo p e below s _ _ _ (T7.setTop (mkF m 34 #[.val (.ref o0), .val (.ref b2)] [(.int (5 : Int32)), (.ref b2)]))
  refine OGo.st (fun _ k => XS.bipush X7.here hx rfl (hb hby d2_34) k) ?_
  show OGo p e below s _ _ _ (T7.setTop (mkF m 36 #[.val (.ref o0), .val (.ref b2)] [(.int (13 : Int32)), (.int (5 : Int32)), (.ref b2)]))
  obtain ⟨cl9, Ar9, q9, Sz9, Nn9, Hs9, Gs9⟩ := id V7
  have hin9 : ¬ ((5 : Int32) < 0 ∨ cl9.slots.size ≤ ((5 : Int32)).toNatClampNeg) := inb_of Sz9 ⟨by decide, by decide⟩
  obtain ⟨T9, h9, X9, e9, W9, st9⟩ := stB X7 hx hZ e7 Ar9 (j := (5 : Int32)) hin9 (g := (mkF m 36 #[.val (.ref o0), .val (.ref b2)] [(.int (13 : Int32)), (.int (5 : Int32)), (.ref b2)])) rfl rfl (hb hby d2_36)
  refine OGo.st st9 ?_
  have V_o0_w9 := V_o0_w7.other W9 ne_o0_b2
  have K9 : Keep h0 h9 [] := (K7).wr W9 (Or.inr sz_b2)
  have N9 := Fr.snoc X9 N7 g_b2
  have Z9 : n0 ≤ h9.size := Nat.le_trans Z7 (Keep.of_wr W9).1
  have V9 : Arv Z h9 b2 k2 .byte (6 : Int32) [(.int (11 : Int32)), (.int x0), (.int x1), (.int x2), (.int (28 : Int32)), (.int (13 : Int32))] (.int (0 : Int32)) := Arv.set Ar9 q9 Sz9 Nn9 Hs9 Gs9 (by decide) W9 5 rfl (Nat.le_of_ble_eq_true rfl)
  show OGo p e below s _ _ _ (T9.setTop (mkF m 37 #[.val (.ref o0), .val (.ref b2)] []))
  refine OGo.st (fun _ k => XS.aloadN X9.here hx rfl (hb hby d2_37) rfl rfl k) ?_
  show OGo p e below s _ _ _ (T9.setTop (mkF m 38 #[.val (.ref o0), .val (.ref b2)] [(.ref b2)]))
  exact oretA X9 hx Bd.notSynchronized Bd.returns rfl rfl (hb hby d2_38) e9 ⟨b2, k2, rfl, N9, K9, sz_b2, g_b2, V9⟩ (by decide) (by decide)
theorem own_last3 (x : Int32) (h0 : ¬ (x &&& (3 : Int32)) = (0 : Int32)) (h1 : ¬ (x &&& (3 : Int32)) = (1 : Int32)) (h2 : ¬ (x &&& (3 : Int32)) = (2 : Int32)) : (x &&& (3 : Int32)) = (3 : Int32) := by
  have e := Jvm.Kit.i32_mask x 3 (k := 2) (by decide) (by decide)
  have k0 : (0 : Int32).toInt = 0 := by decide
  have k1 : (1 : Int32).toInt = 1 := by decide
  have k2 : (2 : Int32).toInt = 2 := by decide
  have k3 : (3 : Int32).toInt = 3 := by decide
  simp only [← Int32.toInt_inj, e, k0, k1, k2, k3] at h0 h1 h2 ⊢
  omega
theorem pn_0 : plainName "com/example/assaywire/assaywire/protocol/MllpStartsBlockPinLaw" = true := by first | (simp [plainName, overriddenIn]; done) | decide +kernel
theorem pd_0_0 : parseMethodDescriptor "([B)Z" = some ⟨[(.array .byte)], some .boolean⟩ := by decide +kernel
theorem pd_0_1 : parseMethodDescriptor "([B)[B" = some ⟨[(.array .byte)], some (.array .byte)⟩ := by decide +kernel
theorem ef_0 (m : MethodId) (p0 : Int32) (p1 : Int32) (p2 : Int32) (p3 : Int32) : entryFrame m #[(.int p0), (.int p1), (.int p2), (.int p3)] maxLocals = mkF m 0 #[.val (.int p0), .val (.int p1), .val (.int p2), .val (.int p3), .unset, .unset, .unset, .unset, .unset] [] := by first | (simp [entryFrame, mkF, argsToLocals, Value.category, maxLocals]; done) | rfl
def f0_66 (p0 : Int32) (p1 : Int32) (p2 : Int32) (p3 : Int32) (j66_0 : Int32) : Int32 := (if (f1L1 (nar .byte (p1.toInt8.toInt32))) = j66_0 then (if (f1L4 (11 : Int32)) = (0 : Int32) then (0 : Int32) else (1 : Int32)) else (0 : Int32))
def f0_66_2 (p0 : Int32) (p1 : Int32) (p2 : Int32) (p3 : Int32) (j66_2_0 : Int32) : Int32 := (if (f1L2 (nar .byte (p1.toInt8.toInt32))) = j66_2_0 then (if (f1L5 (11 : Int32)) = (0 : Int32) then (0 : Int32) else (1 : Int32)) else (0 : Int32))
def f0_66_3 (p0 : Int32) (p1 : Int32) (p2 : Int32) (p3 : Int32) (j66_3_0 : Int32) : Int32 := (if (f1L3 (nar .byte (p1.toInt8.toInt32))) = j66_3_0 then (if (f1L6 (11 : Int32)) = (0 : Int32) then (0 : Int32) else (1 : Int32)) else (0 : Int32))
def f0 (p0 : Int32) (p1 : Int32) (p2 : Int32) (p3 : Int32) : Int32 := (if (p0 &&& (3 : Int32)) = (0 : Int32) then (if (f1L0) = (0 : Int32) then (if (f1L3 (11 : Int32)) = (0 : Int32) then (0 : Int32) else (1 : Int32)) else (0 : Int32)) else (if (p0 &&& (3 : Int32)) = (1 : Int32) then (if (p1 &&& (255 : Int32)) = (11 : Int32) then (f0_66 p0 p1 p2 p3 (1 : Int32)) else (f0_66 p0 p1 p2 p3 (0 : Int32))) else (if (p0 &&& (3 : Int32)) = (2 : Int32) then (if (p1 &&& (255 : Int32)) = (11 : Int32) then (f0_66_2 p0 p1 p2 p3 (1 : Int32)) else (f0_66_2 p0 p1 p2 p3 (0 : Int32))) else (if (p1 &&& (255 : Int32)) = (11 : Int32) then (f0_66_3 p0 p1 p2 p3 (1 : Int32)) else (f0_66_3 p0 p1 p2 p3 (0 : Int32))))))
def Q0 (Z : State) (p0 : Int32) (p1 : Int32) (p2 : Int32) (p3 : Int32) (h0 : Heap) (n0 : Nat) (v : Option Value) (h : Heap) (L : List Loc) : Prop := v = some (.int (f0 p0 p1 p2 p3)) ∧ Fr n0 L
set_option maxRecDepth 65536 in
set_option maxHeartbeats 40000000 in
theorem rm0 (l : Launch) (Z : State) (a0 : Array Value) (hw : ∀ d ∈ tables_1, d.before a0 Z = true) (ws : List Jvm.Cond) (p0 : Int32) (p1 : Int32) (p2 : Int32) (p3 : Int32) (h0 : Heap) (n0 : Nat) (Z0 : n0 ≤ h0.size) :
    MetFree l x (head1 (Jvm.Cond.code x code maxLocals ret :: ws) room_1) (fun a U => a = #[(.int p0), (.int p1), (.int p2), (.int p3)] ∧ Z.Warmed39 U.vm ∧ U.heap = h0) (fun _ _ _ _ _ => True) (fun _ U o U' => ∃ v L, o = .returned v ∧ Q0 Z p0 p1 p2 p3 h0 n0 v U'.heap L ∧ FrameEnd U o U' L room_1.cells room_1.slots) := by
  refine MetFree.of_bodySF (plainFor_of_name pn_0) hisR ?_
  intro p e s m args below meth c s₁ Bd hml0 hP hK
  obtain ⟨rfl, hZ, hh⟩ := hP
  have hx := Bd.exec
  have hby := Bd.bytes
  have hml : c.maxLocals = 9 := hml0
  have hown : s.vm.findClass "com/example/assaywire/assaywire/protocol/MllpStartsBlockPinLaw" = some m.cls := findClass_of_methodNamed Bd.named
  have hnm := (name_of_methodNamed Bd.named Bd.method).1
  have X0 : Stand p l e room_1 s m #[(.int p0), (.int p1), (.int p2), (.int p3)] below meth c s₁ [] 0 0 := Stand.of_body Bd
  have e0 : s₁.heap = h0 := by rw [← hh, Bd.state]; rfl
  have N0 := Fr.nil n0
  show OGo p e below s (Q0 Z p0 p1 p2 p3 h0 n0) room_1.cells room_1.slots _
  refine OGo.st (fun _ k => castTop (ef_0 m p0 p1 p2 p3) k) ?_
  show OGo p e below s _ _ _ (s₁.setTop (mkF m 0 #[.val (.int p0), .val (.int p1), .val (.int p2), .val (.int p3), .unset, .unset, .unset, .unset, .unset] []))
  refine OGo.st (fun _ k => XS.iloadN X0.here hx rfl (hb hby at_0) rfl k) ?_
  show OGo p e below s _ _ _ (s₁.setTop (mkF m 1 #[.val (.int p0), .val (.int p1), .val (.int p2), .val (.int p3), .unset, .unset, .unset, .unset, .unset] [(.int p0)]))
  refine OGo.st (fun _ k => XS.iconst X0.here hx rfl (hb hby at_1) k) ?_
  show OGo p e below s _ _ _ (s₁.setTop (mkF m 2 #[.val (.int p0), .val (.int p1), .val (.int p2), .val (.int p3), .unset, .unset, .unset, .unset, .unset] [(.int (3 : Int32)), (.int p0)]))
  refine OGo.st (fun _ k => XS.iand X0.here hx rfl (hb hby at_2) rfl k) ?_
  show OGo p e below s _ _ _ (s₁.setTop (mkF m 3 #[.val (.int p0), .val (.int p1), .val (.int p2), .val (.int p3), .unset, .unset, .unset, .unset, .unset] [(.int (p0 &&& (3 : Int32)))]))
  refine OGo.st (fun _ k => XS.istore X0.here hx rfl (hb hby at_3) rfl (l' := #[.val (.int p0), .val (.int p1), .val (.int p2), .val (.int p3), .val (.int (p0 &&& (3 : Int32))), .unset, .unset, .unset, .unset]) rfl k) ?_
  show OGo p e below s _ _ _ (s₁.setTop (mkF m 5 #[.val (.int p0), .val (.int p1), .val (.int p2), .val (.int p3), .val (.int (p0 &&& (3 : Int32))), .unset, .unset, .unset, .unset] []))
  by_cases hc5 : (p0 &&& (3 : Int32)) = (0 : Int32)
  · rw [hc5]
    show OGo p e below s _ _ _ (s₁.setTop (mkF m 5 #[.val (.int p0), .val (.int p1), .val (.int p2), .val (.int p3), .val (.int (0 : Int32)), .unset, .unset, .unset, .unset] []))
    refine OGo.st (fun _ k => XS.iload X0.here hx rfl (hb hby at_5) rfl k) ?_
    show OGo p e below s _ _ _ (s₁.setTop (mkF m 7 #[.val (.int p0), .val (.int p1), .val (.int p2), .val (.int p3), .val (.int (0 : Int32)), .unset, .unset, .unset, .unset] [(.int (0 : Int32))]))
    obtain ⟨T1, h1, k1, X1, e1, E1, A1, st1⟩ := newP X0 hx hZ (hw _ (List.mem_of_getElem? (i := 0) rfl)) e0 (g := (mkF m 7 #[.val (.int p0), .val (.int p1), .val (.int p2), .val (.int p3), .val (.int (0 : Int32)), .unset, .unset, .unset, .unset] [(.int (0 : Int32))])) rfl (hb hby at_7) rfl (by decide) (cap := 0) (by decide) (by decide) (by decide) (by decide)
    obtain ⟨b1, g1⟩ : ∃ z, z = h0.size := ⟨_, rfl⟩
    rw [← g1] at A1 st1
    refine OGo.st st1 ?_
    have g_b1 : n0 ≤ b1 := Nat.le_trans Z0 (Nat.le_of_eq g1.symm)
    have sz_b1 : h0.size ≤ b1 := Nat.le_trans (Keep.refl h0 []).1 (Nat.le_of_eq g1.symm)
    have K1 : Keep h0 h1 [] := (Keep.refl h0 _).ext E1
    have Z1 : n0 ≤ h1.size := Nat.le_trans Z0 E1.1
    have V_b1 : Arv Z h1 b1 k1 .byte (0 : Int32) [] (.int (0 : Int32)) := (Arv.new A1 (by decide)).pad (pad_rep [] (.int (0 : Int32)) 0)
    show OGo p e below s _ _ _ (T1.setTop (mkF m 9 #[.val (.int p0), .val (.int p1), .val (.int p2), .val (.int p3), .val (.int (0 : Int32)), .unset, .unset, .unset, .unset] [(.ref b1)]))
    refine OGo.st (fun _ k => XS.astore X1.here hx rfl (hb hby at_9) rfl rfl (l' := #[.val (.int p0), .val (.int p1), .val (.int p2), .val (.int p3), .val (.int (0 : Int32)), .val (.ref b1), .unset, .unset, .unset]) rfl k) ?_
    show OGo p e below s _ _ _ (T1.setTop (mkF m 11 #[.val (.int p0), .val (.int p1), .val (.int p2), .val (.int p3), .val (.int (0 : Int32)), .val (.ref b1), .unset, .unset, .unset] []))
    refine OGo.st (fun _ k => XS.iload X1.here hx rfl (hb hby at_11) rfl k) ?_
    show OGo p e below s _ _ _ (T1.setTop (mkF m 13 #[.val (.int p0), .val (.int p1), .val (.int p2), .val (.int p3), .val (.int (0 : Int32)), .val (.ref b1), .unset, .unset, .unset] [(.int (0 : Int32))]))
    refine OGo.st (fun _ k => XS.ifYes X1.here hx rfl (pc0 := 13) (pc' := 22) rfl (hb hby at_13) rfl ((if0 _ _).trans (flt (by decide : ¬ ((0 : Int32) < (0 : Int32)))).2.2.2) (by decide) (by decide) k) ?_
    show OGo p e below s _ _ _ (T1.setTop (mkF m 22 #[.val (.int p0), .val (.int p1), .val (.int p2), .val (.int p3), .val (.int (0 : Int32)), .val (.ref b1), .unset, .unset, .unset] []))
    refine OGo.st (fun _ k => XS.iload X1.here hx rfl (hb hby at_22) rfl k) ?_
    show OGo p e below s _ _ _ (T1.setTop (mkF m 24 #[.val (.int p0), .val (.int p1), .val (.int p2), .val (.int p3), .val (.int (0 : Int32)), .val (.ref b1), .unset, .unset, .unset] [(.int (0 : Int32))]))
    refine OGo.st (fun _ k => XS.iconst X1.here hx rfl (hb hby at_24) k) ?_
    show OGo p e below s _ _ _ (T1.setTop (mkF m 25 #[.val (.int p0), .val (.int p1), .val (.int p2), .val (.int p3), .val (.int (0 : Int32)), .val (.ref b1), .unset, .unset, .unset] [(.int (1 : Int32)), (.int (0 : Int32))]))
    refine OGo.st (fun _ k => XS.icmpYes X1.here hx rfl (pc0 := 25) (pc' := 34) rfl (hb hby at_25) rfl (flt (by decide : ¬ ((1 : Int32) < (0 : Int32)))).2.2.2 (by decide) (by decide) k) ?_
    show OGo p e below s _ _ _ (T1.setTop (mkF m 34 #[.val (.int p0), .val (.int p1), .val (.int p2), .val (.int p3), .val (.int (0 : Int32)), .val (.ref b1), .unset, .unset, .unset] []))
    refine OGo.st (fun _ k => XS.iload X1.here hx rfl (hb hby at_34) rfl k) ?_
    show OGo p e below s _ _ _ (T1.setTop (mkF m 36 #[.val (.int p0), .val (.int p1), .val (.int p2), .val (.int p3), .val (.int (0 : Int32)), .val (.ref b1), .unset, .unset, .unset] [(.int (0 : Int32))]))
    refine OGo.st (fun _ k => XS.iconst X1.here hx rfl (hb hby at_36) k) ?_
    show OGo p e below s _ _ _ (T1.setTop (mkF m 37 #[.val (.int p0), .val (.int p1), .val (.int p2), .val (.int p3), .val (.int (0 : Int32)), .val (.ref b1), .unset, .unset, .unset] [(.int (2 : Int32)), (.int (0 : Int32))]))
    refine OGo.st (fun _ k => XS.icmpYes X1.here hx rfl (pc0 := 37) (pc' := 46) rfl (hb hby at_37) rfl (flt (by decide : ¬ ((2 : Int32) < (0 : Int32)))).2.2.2 (by decide) (by decide) k) ?_
    show OGo p e below s _ _ _ (T1.setTop (mkF m 46 #[.val (.int p0), .val (.int p1), .val (.int p2), .val (.int p3), .val (.int (0 : Int32)), .val (.ref b1), .unset, .unset, .unset] []))
    refine OGo.st (fun _ k => XS.iload X1.here hx rfl (hb hby at_46) rfl k) ?_
    show OGo p e below s _ _ _ (T1.setTop (mkF m 48 #[.val (.int p0), .val (.int p1), .val (.int p2), .val (.int p3), .val (.int (0 : Int32)), .val (.ref b1), .unset, .unset, .unset] [(.int (0 : Int32))]))
    refine OGo.st (fun _ k => XS.ifYes X1.here hx rfl (pc0 := 48) (pc' := 65) rfl (hb hby at_48) rfl ((if0 _ _).trans (teq (by decide : (0 : Int32) = (0 : Int32))).1) (by decide) (by decide) k) ?_
    show OGo p e below s _ _ _ (T1.setTop (mkF m 65 #[.val (.int p0), .val (.int p1), .val (.int p2), .val (.int p3), .val (.int (0 : Int32)), .val (.ref b1), .unset, .unset, .unset] []))
    refine OGo.st (fun _ k => XS.iconst X1.here hx rfl (hb hby at_65) k) ?_
    show OGo p e below s _ _ _ (T1.setTop (mkF m 66 #[.val (.int p0), .val (.int p1), .val (.int p2), .val (.int p3), .val (.int (0 : Int32)), .val (.ref b1), .unset, .unset, .unset] [(.int (0 : Int32))]))
    refine OGo.st (fun _ k => XS.istore X1.here hx rfl (hb hby at_66) rfl (l' := #[.val (.int p0), .val (.int p1), .val (.int p2), .val (.int p3), .val (.int (0 : Int32)), .val (.ref b1), .val (.int (0 : Int32)), .unset, .unset]) rfl k) ?_
    show OGo p e below s _ _ _ (T1.setTop (mkF m 68 #[.val (.int p0), .val (.int p1), .val (.int p2), .val (.int p3), .val (.int (0 : Int32)), .val (.ref b1), .val (.int (0 : Int32)), .unset, .unset] []))
    refine OGo.st (fun _ k => XS.aload X1.here hx rfl (hb hby at_68) rfl rfl k) ?_
    show OGo p e below s _ _ _ (T1.setTop (mkF m 70 #[.val (.int p0), .val (.int p1), .val (.int p2), .val (.int p3), .val (.int (0 : Int32)), .val (.ref b1), .val (.int (0 : Int32)), .unset, .unset] [(.ref b1)]))
    obtain ⟨_, _, ⟨T2, L2, k2, n2⟩, -, X2, ⟨Lc2, hQ2, l2, y2, z2⟩, st2⟩ := Jvm.LawKit.callS X1 hx (y := (⟨"com/example/assaywire/assaywire/protocol/Mllp", "startsBlock", "([B)Z"⟩ : MethodName)) hown (mvT hZ (hw _ (List.mem_of_getElem? (i := 1) rfl))) (mvT hZ (hw _ (List.mem_of_getElem? (i := 2) rfl))) (mvT hZ (hw _ (List.mem_of_getElem? (i := 3) rfl))) (mvT hZ (hw _ (List.mem_of_getElem? (i := 4) rfl))) (by decide) (backOf (W := 0) (rm1L0 l Z a0 hw [] b1 k1 h1 n0 Z1 V_b1) hZ (hw _ (List.mem_of_getElem? (i := 4) rfl)) (hw _ (List.mem_of_getElem? (i := 3) rfl)) (by decide) (by decide)) (g := (mkF m 70 #[.val (.int p0), .val (.int p1), .val (.int p2), .val (.int p3), .val (.int (0 : Int32)), .val (.ref b1), .val (.int (0 : Int32)), .unset, .unset] [(.ref b1)])) rfl (by rw [hml]; rfl) (argsL := [(.ref b1)]) (rest := []) (lenOf pd_0_0 rfl) rfl (by show 2 * 0 + _ ≤ _; exact Nat.le_of_eq rfl) (hb hby at_70) (fun _ _ => ⟨rfl, e1, (by decide : 1 + 0 ≤ _), (by decide : 0 + 0 ≤ _)⟩)
    dsimp only [Pt.U, Pt.locs, Pt.cells, Pt.slots] at X2 l2 y2 z2 st2 hQ2
    subst l2 y2 z2
    obtain ⟨rfl, N2q, e2⟩ := hQ2
    have N2 := Fr.app N0 N2q
    refine OGo.st st2 ?_
    show OGo p e below s _ _ _ (T2.setTop (mkF m 73 #[.val (.int p0), .val (.int p1), .val (.int p2), .val (.int p3), .val (.int (0 : Int32)), .val (.ref b1), .val (.int (0 : Int32)), .unset, .unset] [(.int (f1L0))]))
    refine OGo.st (fun _ k => XS.istore X2.here hx rfl (hb hby at_73) rfl (l' := #[.val (.int p0), .val (.int p1), .val (.int p2), .val (.int p3), .val (.int (0 : Int32)), .val (.ref b1), .val (.int (0 : Int32)), .val (.int (f1L0)), .unset]) rfl k) ?_
    show OGo p e below s _ _ _ (T2.setTop (mkF m 75 #[.val (.int p0), .val (.int p1), .val (.int p2), .val (.int p3), .val (.int (0 : Int32)), .val (.ref b1), .val (.int (0 : Int32)), .val (.int (f1L0)), .unset] []))
    refine OGo.st (fun _ k => XS.aload X2.here hx rfl (hb hby at_75) rfl rfl k) ?_
    show OGo p e below s _ _ _ (T2.setTop (mkF m 77 #[.val (.int p0), .val (.int p1), .val (.int p2), .val (.int p3), .val (.int (0 : Int32)), .val (.ref b1), .val (.int (0 : Int32)), .val (.int (f1L0)), .unset] [(.ref b1)]))
    obtain ⟨_, _, ⟨T3, L3, k3, n3⟩, -, X3, ⟨Lc3, hQ3, l3, y3, z3⟩, st3⟩ := Jvm.LawKit.callS X2 hx (y := (⟨"com/example/assaywire/assaywire/protocol/Mllp", "wrap", "([B)[B"⟩ : MethodName)) hown (mvT hZ (hw _ (List.mem_of_getElem? (i := 5) rfl))) (mvT hZ (hw _ (List.mem_of_getElem? (i := 6) rfl))) (mvT hZ (hw _ (List.mem_of_getElem? (i := 3) rfl))) (mvT hZ (hw _ (List.mem_of_getElem? (i := 7) rfl))) (by decide) (backOf (W := 0) (rm2L0 l Z a0 hw [] b1 k1 h1 n0 Z1 V_b1) hZ (hw _ (List.mem_of_getElem? (i := 7) rfl)) (hw _ (List.mem_of_getElem? (i := 3) rfl)) (by decide) (by decide)) (g := (mkF m 77 #[.val (.int p0), .val (.int p1), .val (.int p2), .val (.int p3), .val (.int (0 : Int32)), .val (.ref b1), .val (.int (0 : Int32)), .val (.int (f1L0)), .unset] [(.ref b1)])) rfl (by rw [hml]; rfl) (argsL := [(.ref b1)]) (rest := []) (lenOf pd_0_1 rfl) rfl (by show 2 * 0 + _ ≤ _; exact Nat.le_of_eq rfl) (hb hby at_77) (fun _ _ => ⟨rfl, e2, (by decide : 1 + 1 ≤ _), (by decide : 0 + 3 ≤ _)⟩)
    dsimp only [Pt.U, Pt.locs, Pt.cells, Pt.slots] at X3 l3 y3 z3 st3 hQ3
    subst l3 y3 z3
    obtain ⟨b3, kk3, rfl, N3q, Kc3, szq3, g_b3, V3⟩ := hQ3
    have ne_b1_b3 : b1 ≠ b3 := Nat.ne_of_lt (Nat.lt_of_lt_of_le V_b1.lt szq3)
    have sz_b3 : h0.size ≤ b3 := Nat.le_trans (K1).1 szq3
    have V_b1_w3 := V_b1.keep Kc3 nin0
    have K3 : Keep h0 T3.heap [] := (K1).trans Kc3 all0
    have Z3 : n0 ≤ T3.heap.size := Nat.le_trans Z1 Kc3.1
    have V3 : Arv Z T3.heap b3 kk3 .byte (3 : Int32) [(.int (11 : Int32)), (.int (28 : Int32)), (.int (13 : Int32))] (.int (0 : Int32)) := V3
    have N3 := Fr.app N2 N3q
    refine OGo.st st3 ?_
    show OGo p e below s _ _ _ (T3.setTop (mkF m 80 #[.val (.int p0), .val (.int p1), .val (.int p2), .val (.int p3), .val (.int (0 : Int32)), .val (.ref b1), .val (.int (0 : Int32)), .val (.int (f1L0)), .unset] [(.ref b3)]))
    obtain ⟨_, _, ⟨T4, L4, k4, n4⟩, -, X4, ⟨Lc4, hQ4, l4, y4, z4⟩, st4⟩ := Jvm.LawKit.callS X3 hx (y := (⟨"com/example/assaywire/assaywire/protocol/Mllp", "startsBlock", "([B)Z"⟩ : MethodName)) hown (mvT hZ (hw _ (List.mem_of_getElem? (i := 1) rfl))) (mvT hZ (hw _ (List.mem_of_getElem? (i := 2) rfl))) (mvT hZ (hw _ (List.mem_of_getElem? (i := 3) rfl))) (mvT hZ (hw _ (List.mem_of_getElem? (i := 4) rfl))) (by decide) (backOf (W := 0) (rm1L3 l Z a0 hw [] b3 kk3 (11 : Int32) (28 : Int32) (13 : Int32) T3.heap n0 Z3 V3) hZ (hw _ (List.mem_of_getElem? (i := 4) rfl)) (hw _ (List.mem_of_getElem? (i := 3) rfl)) (by decide) (by decide)) (g := (mkF m 80 #[.val (.int p0), .val (.int p1), .val (.int p2), .val (.int p3), .val (.int (0 : Int32)), .val (.ref b1), .val (.int (0 : Int32)), .val (.int (f1L0)), .unset] [(.ref b3)])) rfl (by rw [hml]; rfl) (argsL := [(.ref b3)]) (rest := []) (lenOf pd_0_0 rfl) rfl (by show 2 * 0 + _ ≤ _; exact Nat.le_of_eq rfl) (hb hby at_80) (fun _ _ => ⟨rfl, rfl, (by decide : 2 + 0 ≤ _), (by decide : 3 + 0 ≤ _)⟩)
    dsimp only [Pt.U, Pt.locs, Pt.cells, Pt.slots] at X4 l4 y4 z4 st4 hQ4
    subst l4 y4 z4
    obtain ⟨rfl, N4q, e4⟩ := hQ4
    have N4 := Fr.app N3 N4q
    refine OGo.st st4 ?_
    show OGo p e below s _ _ _ (T4.setTop (mkF m 83 #[.val (.int p0), .val (.int p1), .val (.int p2), .val (.int p3), .val (.int (0 : Int32)), .val (.ref b1), .val (.int (0 : Int32)), .val (.int (f1L0)), .unset] [(.int (f1L3 (11 : Int32)))]))
    refine OGo.st (fun _ k => XS.istore X4.here hx rfl (hb hby at_83) rfl (l' := #[.val (.int p0), .val (.int p1), .val (.int p2), .val (.int p3), .val (.int (0 : Int32)), .val (.ref b1), .val (.int (0 : Int32)), .val (.int (f1L0)), .val (.int (f1L3 (11 : Int32)))]) rfl k) ?_
    show OGo p e below s _ _ _ (T4.setTop (mkF m 85 #[.val (.int p0), .val (.int p1), .val (.int p2), .val (.int p3), .val (.int (0 : Int32)), .val (.ref b1), .val (.int (0 : Int32)), .val (.int (f1L0)), .val (.int (f1L3 (11 : Int32)))] []))
    refine OGo.st (fun _ k => XS.iload X4.here hx rfl (hb hby at_85) rfl k) ?_
    show OGo p e below s _ _ _ (T4.setTop (mkF m 87 #[.val (.int p0), .val (.int p1), .val (.int p2), .val (.int p3), .val (.int (0 : Int32)), .val (.ref b1), .val (.int (0 : Int32)), .val (.int (f1L0)), .val (.int (f1L3 (11 : Int32)))] [(.int (f1L0))]))
    refine OGo.st (fun _ k => XS.iload X4.here hx rfl (hb hby at_87) rfl k) ?_
    show OGo p e below s _ _ _ (T4.setTop (mkF m 89 #[.val (.int p0), .val (.int p1), .val (.int p2), .val (.int p3), .val (.int (0 : Int32)), .val (.ref b1), .val (.int (0 : Int32)), .val (.int (f1L0)), .val (.int (f1L3 (11 : Int32)))] [(.int (0 : Int32)), (.int (f1L0))]))
    by_cases hc89 : (f1L0) = (0 : Int32)
    · refine OGo.st (fun _ k => XS.icmpNo X4.here hx rfl (hb hby at_89) rfl (teq hc89).2 k) ?_
      show OGo p e below s _ _ _ (T4.setTop (mkF m 92 #[.val (.int p0), .val (.int p1), .val (.int p2), .val (.int p3), .val (.int (0 : Int32)), .val (.ref b1), .val (.int (0 : Int32)), .val (.int (f1L0)), .val (.int (f1L3 (11 : Int32)))] []))
      refine OGo.st (fun _ k => XS.iload X4.here hx rfl (hb hby at_92) rfl k) ?_
      show OGo p e below s _ _ _ (T4.setTop (mkF m 94 #[.val (.int p0), .val (.int p1), .val (.int p2), .val (.int p3), .val (.int (0 : Int32)), .val (.ref b1), .val (.int (0 : Int32)), .val (.int (f1L0)), .val (.int (f1L3 (11 : Int32)))] [(.int (f1L3 (11 : Int32)))]))
      by_cases hc94 : (f1L3 (11 : Int32)) = (0 : Int32)
      · refine OGo.st (fun _ k => XS.ifYes X4.here hx rfl (pc0 := 94) (pc' := 101) rfl (hb hby at_94) rfl ((if0 _ _).trans (teq hc94).1) (by decide) (by decide) k) ?_
        show OGo p e below s _ _ _ (T4.setTop (mkF m 101 #[.val (.int p0), .val (.int p1), .val (.int p2), .val (.int p3), .val (.int (0 : Int32)), .val (.ref b1), .val (.int (0 : Int32)), .val (.int (f1L0)), .val (.int (f1L3 (11 : Int32)))] []))
        refine OGo.st (fun _ k => XS.iconst X4.here hx rfl (hb hby at_101) k) ?_
        show OGo p e below s _ _ _ (T4.setTop (mkF m 102 #[.val (.int p0), .val (.int p1), .val (.int p2), .val (.int p3), .val (.int (0 : Int32)), .val (.ref b1), .val (.int (0 : Int32)), .val (.int (f1L0)), .val (.int (f1L3 (11 : Int32)))] [(.int (0 : Int32))]))
        exact oretN X4 hx Bd.notSynchronized (t := .boolean) Bd.returns (by simp) (hb hby at_102) (z' := (0 : Int32)) (by decide) e4 ⟨(congrArg (fun z => some (Value.int z)) (show (0 : Int32) = f0 p0 p1 p2 p3 from Eq.symm (by unfold f0; exact (if_pos hc5).trans ((if_pos hc89).trans (if_pos hc94))))), N4⟩ (by decide) (by decide)
      · refine OGo.st (fun _ k => XS.ifNo X4.here hx rfl (hb hby at_94) rfl ((if0 _ _).trans (feq hc94).1) k) ?_
        show OGo p e below s _ _ _ (T4.setTop (mkF m 97 #[.val (.int p0), .val (.int p1), .val (.int p2), .val (.int p3), .val (.int (0 : Int32)), .val (.ref b1), .val (.int (0 : Int32)), .val (.int (f1L0)), .val (.int (f1L3 (11 : Int32)))] []))
        refine OGo.st (fun _ k => XS.iconst X4.here hx rfl (hb hby at_97) k) ?_
        show OGo p e below s _ _ _ (T4.setTop (mkF m 98 #[.val (.int p0), .val (.int p1), .val (.int p2), .val (.int p3), .val (.int (0 : Int32)), .val (.ref b1), .val (.int (0 : Int32)), .val (.int (f1L0)), .val (.int (f1L3 (11 : Int32)))] [(.int (1 : Int32))]))
        refine OGo.st (fun _ k => XS.goto X4.here hx rfl (pc0 := 98) (pc' := 102) rfl (hb hby at_98) (by decide) (by decide) k) ?_
        show OGo p e below s _ _ _ (T4.setTop (mkF m 102 #[.val (.int p0), .val (.int p1), .val (.int p2), .val (.int p3), .val (.int (0 : Int32)), .val (.ref b1), .val (.int (0 : Int32)), .val (.int (f1L0)), .val (.int (f1L3 (11 : Int32)))] [(.int (1 : Int32))]))
        exact oretN X4 hx Bd.notSynchronized (t := .boolean) Bd.returns (by simp) (hb hby at_102) (z' := (1 : Int32)) (by decide) e4 ⟨(congrArg (fun z => some (Value.int z)) (show (1 : Int32) = f0 p0 p1 p2 p3 from Eq.symm (by unfold f0; exact (if_pos hc5).trans ((if_pos hc89).trans (if_neg hc94))))), N4⟩ (by decide) (by decide)
    · refine OGo.st (fun _ k => XS.icmpYes X4.here hx rfl (pc0 := 89) (pc' := 101) rfl (hb hby at_89) rfl (feq hc89).2 (by decide) (by decide) k) ?_
      show OGo p e below s _ _ _ (T4.setTop (mkF m 101 #[.val (.int p0), .val (.int p1), .val (.int p2), .val (.int p3), .val (.int (0 : Int32)), .val (.ref b1), .val (.int (0 : Int32)), .val (.int (f1L0)), .val (.int (f1L3 (11 : Int32)))] []))
      refine OGo.st (fun _ k => XS.iconst X4.here hx rfl (hb hby at_101) k) ?_
      show OGo p e below s _ _ _ (T4.setTop (mkF m 102 #[.val (.int p0), .val (.int p1), .val (.int p2), .val (.int p3), .val (.int (0 : Int32)), .val (.ref b1), .val (.int (0 : Int32)), .val (.int (f1L0)), .val (.int (f1L3 (11 : Int32)))] [(.int (0 : Int32))]))
      exact oretN X4 hx Bd.notSynchronized (t := .boolean) Bd.returns (by simp) (hb hby at_102) (z' := (0 : Int32)) (by decide) e4 ⟨(congrArg (fun z => some (Value.int z)) (show (0 : Int32) = f0 p0 p1 p2 p3 from Eq.symm (by unfold f0; exact (if_pos hc5).trans (if_neg hc89)))), N4⟩ (by decide) (by decide)
  · by_cases hc5_2 : (p0 &&& (3 : Int32)) = (1 : Int32)
    · rw [hc5_2]
      show OGo p e below s _ _ _ (s₁.setTop (mkF m 5 #[.val (.int p0), .val (.int p1), .val (.int p2), .val (.int p3), .val (.int (1 : Int32)), .unset, .unset, .unset, .unset] []))
      refine OGo.st (fun _ k => XS.iload X0.here hx rfl (hb hby at_5) rfl k) ?_
      show OGo p e below s _ _ _ (s₁.setTop (mkF m 7 #[.val (.int p0), .val (.int p1), .val (.int p2), .val (.int p3), .val (.int (1 : Int32)), .unset, .unset, .unset, .unset] [(.int (1 : Int32))]))
      obtain ⟨T5, h5, k5, X5, e5, E5, A5, st5⟩ := newP X0 hx hZ (hw _ (List.mem_of_getElem? (i := 0) rfl)) e0 (g := (mkF m 7 #[.val (.int p0), .val (.int p1), .val (.int p2), .val (.int p3), .val (.int (1 : Int32)), .unset, .unset, .unset, .unset] [(.int (1 : Int32))])) rfl (hb hby at_7) rfl (by decide) (cap := 1) (by decide) (by decide) (by decide) (by decide)
      obtain ⟨b5, g5⟩ : ∃ z, z = h0.size := ⟨_, rfl⟩
      rw [← g5] at A5 st5
      refine OGo.st st5 ?_
      have g_b5 : n0 ≤ b5 := Nat.le_trans Z0 (Nat.le_of_eq g5.symm)
      have sz_b5 : h0.size ≤ b5 := Nat.le_trans (Keep.refl h0 []).1 (Nat.le_of_eq g5.symm)
      have K5 : Keep h0 h5 [] := (Keep.refl h0 _).ext E5
      have Z5 : n0 ≤ h5.size := Nat.le_trans Z0 E5.1
      have V_b5 : Arv Z h5 b5 k5 .byte (1 : Int32) [(.int (0 : Int32))] (.int (0 : Int32)) := (Arv.new A5 (by decide)).pad (pad_rep [] (.int (0 : Int32)) 1)
      show OGo p e below s _ _ _ (T5.setTop (mkF m 9 #[.val (.int p0), .val (.int p1), .val (.int p2), .val (.int p3), .val (.int (1 : Int32)), .unset, .unset, .unset, .unset] [(.ref b5)]))
      refine OGo.st (fun _ k => XS.astore X5.here hx rfl (hb hby at_9) rfl rfl (l' := #[.val (.int p0), .val (.int p1), .val (.int p2), .val (.int p3), .val (.int (1 : Int32)), .val (.ref b5), .unset, .unset, .unset]) rfl k) ?_
      show OGo p e below s _ _ _ (T5.setTop (mkF m 11 #[.val (.int p0), .val (.int p1), .val (.int p2), .val (.int p3), .val (.int (1 : Int32)), .val (.ref b5), .unset, .unset, .unset] []))
      refine OGo.st (fun _ k => XS.iload X5.here hx rfl (hb hby at_11) rfl k) ?_
      show OGo p e below s _ _ _ (T5.setTop (mkF m 13 #[.val (.int p0), .val (.int p1), .val (.int p2), .val (.int p3), .val (.int (1 : Int32)), .val (.ref b5), .unset, .unset, .unset] [(.int (1 : Int32))]))
      refine OGo.st (fun _ k => XS.ifNo X5.here hx rfl (hb hby at_13) rfl ((if0 _ _).trans (tlt (by decide : (0 : Int32) < (1 : Int32))).2.2.2) k) ?_
      show OGo p e below s _ _ _ (T5.setTop (mkF m 16 #[.val (.int p0), .val (.int p1), .val (.int p2), .val (.int p3), .val (.int (1 : Int32)), .val (.ref b5), .unset, .unset, .unset] []))
      refine OGo.st (fun _ k => XS.aload X5.here hx rfl (hb hby at_16) rfl rfl k) ?_
      show OGo p e below s _ _ _ (T5.setTop (mkF m 18 #[.val (.int p0), .val (.int p1), .val (.int p2), .val (.int p3), .val (.int (1 : Int32)), .val (.ref b5), .unset, .unset, .unset] [(.ref b5)]))
      refine OGo.st (fun _ k => XS.iconst X5.here hx rfl (hb hby at_18) k) ?_
      show OGo p e below s _ _ _ (T5.setTop (mkF m 19 #[.val (.int p0), .val (.int p1), .val (.int p2), .val (.int p3), .val (.int (1 : Int32)), .val (.ref b5), .unset, .unset, .unset] [(.int (0 : Int32)), (.ref b5)]))
      refine OGo.st (fun _ k => XS.iloadN X5.here hx rfl (hb hby at_19) rfl k) ?_
      show OGo p e below s _ _ _ (T5.setTop (mkF m 20 #[.val (.int p0), .val (.int p1), .val (.int p2), .val (.int p3), .val (.int (1 : Int32)), .val (.ref b5), .unset, .unset, .unset] [(.int p1), (.int (0 : Int32)), (.ref b5)]))
      refine OGo.st (fun _ k => XS.i2b X5.here hx rfl (hb hby at_20) rfl k) ?_
      show OGo p e below s _ _ _ (T5.setTop (mkF m 21 #[.val (.int p0), .val (.int p1), .val (.int p2), .val (.int p3), .val (.int (1 : Int32)), .val (.ref b5), .unset, .unset, .unset] [(.int (p1.toInt8.toInt32)), (.int (0 : Int32)), (.ref b5)]))
      obtain ⟨cl6, Ar6, q6, Sz6, Nn6, Hs6, Gs6⟩ := id V_b5
      have hin6 : ¬ ((0 : Int32) < 0 ∨ cl6.slots.size ≤ ((0 : Int32)).toNatClampNeg) := inb_of Sz6 ⟨by decide, by decide⟩
      obtain ⟨T6, h6, X6, e6, W6, st6⟩ := stB X5 hx hZ e5 Ar6 (j := (0 : Int32)) hin6 (g := (mkF m 21 #[.val (.int p0), .val (.int p1), .val (.int p2), .val (.int p3), .val (.int (1 : Int32)), .val (.ref b5), .unset, .unset, .unset] [(.int (p1.toInt8.toInt32)), (.int (0 : Int32)), (.ref b5)])) rfl rfl (hb hby at_21)
      refine OGo.st st6 ?_
      have K6 : Keep h0 h6 [] := (K5).wr W6 (Or.inr sz_b5)
      have N6 := Fr.snoc X6 N0 g_b5
      have Z6 : n0 ≤ h6.size := Nat.le_trans Z5 (Keep.of_wr W6).1
      have V6 : Arv Z h6 b5 k5 .byte (1 : Int32) [(.int (nar .byte (p1.toInt8.toInt32)))] (.int (0 : Int32)) := Arv.set Ar6 q6 Sz6 Nn6 Hs6 Gs6 (fits_nar_byte _) W6 0 rfl (Nat.le_of_ble_eq_true rfl)
      show OGo p e below s _ _ _ (T6.setTop (mkF m 22 #[.val (.int p0), .val (.int p1), .val (.int p2), .val (.int p3), .val (.int (1 : Int32)), .val (.ref b5), .unset, .unset, .unset] []))
      refine OGo.st (fun _ k => XS.iload X6.here hx rfl (hb hby at_22) rfl k) ?_
      show OGo p e below s _ _ _ (T6.setTop (mkF m 24 #[.val (.int p0), .val (.int p1), .val (.int p2), .val (.int p3), .val (.int (1 : Int32)), .val (.ref b5), .unset, .unset, .unset] [(.int (1 : Int32))]))
      refine OGo.st (fun _ k => XS.iconst X6.here hx rfl (hb hby at_24) k) ?_
      show OGo p e below s _ _ _ (T6.setTop (mkF m 25 #[.val (.int p0), .val (.int p1), .val (.int p2), .val (.int p3), .val (.int (1 : Int32)), .val (.ref b5), .unset, .unset, .unset] [(.int (1 : Int32)), (.int (1 : Int32))]))
      refine OGo.st (fun _ k => XS.icmpYes X6.here hx rfl (pc0 := 25) (pc' := 34) rfl (hb hby at_25) rfl (flt (by decide : ¬ ((1 : Int32) < (1 : Int32)))).2.2.2 (by decide) (by decide) k) ?_
      show OGo p e below s _ _ _ (T6.setTop (mkF m 34 #[.val (.int p0), .val (.int p1), .val (.int p2), .val (.int p3), .val (.int (1 : Int32)), .val (.ref b5), .unset, .unset, .unset] []))
      refine OGo.st (fun _ k => XS.iload X6.here hx rfl (hb hby at_34) rfl k) ?_
      show OGo p e below s _ _ _ (T6.setTop (mkF m 36 #[.val (.int p0), .val (.int p1), .val (.int p2), .val (.int p3), .val (.int (1 : Int32)), .val (.ref b5), .unset, .unset, .unset] [(.int (1 : Int32))]))
      refine OGo.st (fun _ k => XS.iconst X6.here hx rfl (hb hby at_36) k) ?_
      show OGo p e below s _ _ _ (T6.setTop (mkF m 37 #[.val (.int p0), .val (.int p1), .val (.int p2), .val (.int p3), .val (.int (1 : Int32)), .val (.ref b5), .unset, .unset, .unset] [(.int (2 : Int32)), (.int (1 : Int32))]))
      refine OGo.st (fun _ k => XS.icmpYes X6.here hx rfl (pc0 := 37) (pc' := 46) rfl (hb hby at_37) rfl (flt (by decide : ¬ ((2 : Int32) < (1 : Int32)))).2.2.2 (by decide) (by decide) k) ?_
      show OGo p e below s _ _ _ (T6.setTop (mkF m 46 #[.val (.int p0), .val (.int p1), .val (.int p2), .val (.int p3), .val (.int (1 : Int32)), .val (.ref b5), .unset, .unset, .unset] []))
      refine OGo.st (fun _ k => XS.iload X6.here hx rfl (hb hby at_46) rfl k) ?_
      show OGo p e below s _ _ _ (T6.setTop (mkF m 48 #[.val (.int p0), .val (.int p1), .val (.int p2), .val (.int p3), .val (.int (1 : Int32)), .val (.ref b5), .unset, .unset, .unset] [(.int (1 : Int32))]))
      refine OGo.st (fun _ k => XS.ifNo X6.here hx rfl (hb hby at_48) rfl ((if0 _ _).trans (feq (by decide : ¬ ((1 : Int32) = (0 : Int32)))).1) k) ?_
      show OGo p e below s _ _ _ (T6.setTop (mkF m 51 #[.val (.int p0), .val (.int p1), .val (.int p2), .val (.int p3), .val (.int (1 : Int32)), .val (.ref b5), .unset, .unset, .unset] []))
      refine OGo.st (fun _ k => XS.iloadN X6.here hx rfl (hb hby at_51) rfl k) ?_
      show OGo p e below s _ _ _ (T6.setTop (mkF m 52 #[.val (.int p0), .val (.int p1), .val (.int p2), .val (.int p3), .val (.int (1 : Int32)), .val (.ref b5), .unset, .unset, .unset] [(.int p1)]))
      refine OGo.st (fun _ k => XS.sipush X6.here hx rfl (hb hby at_52) k) ?_
      show OGo p e below s _ _ _ (T6.setTop (mkF m 55 #[.val (.int p0), .val (.int p1), .val (.int p2), .val (.int p3), .val (.int (1 : Int32)), .val (.ref b5), .unset, .unset, .unset] [(.int (255 : Int32)), (.int p1)]))
      refine OGo.st (fun _ k => XS.iand X6.here hx rfl (hb hby at_55) rfl k) ?_
      show OGo p e below s _ _ _ (T6.setTop (mkF m 56 #[.val (.int p0), .val (.int p1), .val (.int p2), .val (.int p3), .val (.int (1 : Int32)), .val (.ref b5), .unset, .unset, .unset] [(.int (p1 &&& (255 : Int32)))]))
      refine OGo.st (fun _ k => XS.bipush X6.here hx rfl (hb hby at_56) k) ?_
      show OGo p e below s _ _ _ (T6.setTop (mkF m 58 #[.val (.int p0), .val (.int p1), .val (.int p2), .val (.int p3), .val (.int (1 : Int32)), .val (.ref b5), .unset, .unset, .unset] [(.int (11 : Int32)), (.int (p1 &&& (255 : Int32)))]))
      have hj66 : ∀ (j66_0 : Int32) (hf66_0 : f0 p0 p1 p2 p3 = f0_66 p0 p1 p2 p3 j66_0), OGo p e below s (Q0 Z p0 p1 p2 p3 h0 n0) room_1.cells room_1.slots (T6.setTop (mkF m 66 #[.val (.int p0), .val (.int p1), .val (.int p2), .val (.int p3), .val (.int (1 : Int32)), .val (.ref b5), .unset, .unset, .unset] [(.int j66_0)])) := by
        intro j66_0 hf66_0
        refine OGo.st (fun _ k => XS.istore X6.here hx rfl (hb hby at_66) rfl (l' := #[.val (.int p0), .val (.int p1), .val (.int p2), .val (.int p3), .val (.int (1 : Int32)), .val (.ref b5), .val (.int j66_0), .unset, .unset]) rfl k) ?_
        show OGo p e below s _ _ _ (T6.setTop (mkF m 68 #[.val (.int p0), .val (.int p1), .val (.int p2), .val (.int p3), .val (.int (1 : Int32)), .val (.ref b5), .val (.int j66_0), .unset, .unset] []))
        refine OGo.st (fun _ k => XS.aload X6.here hx rfl (hb hby at_68) rfl rfl k) ?_
        show OGo p e below s _ _ _ (T6.setTop (mkF m 70 #[.val (.int p0), .val (.int p1), .val (.int p2), .val (.int p3), .val (.int (1 : Int32)), .val (.ref b5), .val (.int j66_0), .unset, .unset] [(.ref b5)]))
        obtain ⟨_, _, ⟨T8, L8, k8, n8⟩, -, X8, ⟨Lc8, hQ8, l8, y8, z8⟩, st8⟩ := Jvm.LawKit.callS X6 hx (y := (⟨"com/example/assaywire/assaywire/protocol/Mllp", "startsBlock", "([B)Z"⟩ : MethodName)) hown (mvT hZ (hw _ (List.mem_of_getElem? (i := 1) rfl))) (mvT hZ (hw _ (List.mem_of_getElem? (i := 2) rfl))) (mvT hZ (hw _ (List.mem_of_getElem? (i := 3) rfl))) (mvT hZ (hw _ (List.mem_of_getElem? (i := 4) rfl))) (by decide) (backOf (W := 0) (rm1L1 l Z a0 hw [] b5 k5 (nar .byte (p1.toInt8.toInt32)) h6 n0 Z6 V6) hZ (hw _ (List.mem_of_getElem? (i := 4) rfl)) (hw _ (List.mem_of_getElem? (i := 3) rfl)) (by decide) (by decide)) (g := (mkF m 70 #[.val (.int p0), .val (.int p1), .val (.int p2), .val (.int p3), .val (.int (1 : Int32)), .val (.ref b5), .val (.int j66_0), .unset, .unset] [(.ref b5)])) rfl (by rw [hml]; rfl) (argsL := [(.ref b5)]) (rest := []) (lenOf pd_0_0 rfl) rfl (by show 2 * 0 + _ ≤ _; exact Nat.le_of_eq rfl) (hb hby at_70) (fun _ _ => ⟨rfl, e6, (by decide : 1 + 0 ≤ _), (by decide : 1 + 0 ≤ _)⟩)
        dsimp only [Pt.U, Pt.locs, Pt.cells, Pt.slots] at X8 l8 y8 z8 st8 hQ8
        subst l8 y8 z8
        obtain ⟨rfl, N8q, e8⟩ := hQ8
        have N8 := Fr.app N6 N8q
        refine OGo.st st8 ?_
        show OGo p e below s _ _ _ (T8.setTop (mkF m 73 #[.val (.int p0), .val (.int p1), .val (.int p2), .val (.int p3), .val (.int (1 : Int32)), .val (.ref b5), .val (.int j66_0), .unset, .unset] [(.int (f1L1 (nar .byte (p1.toInt8.toInt32))))]))
        refine OGo.st (fun _ k => XS.istore X8.here hx rfl (hb hby at_73) rfl (l' := #[.val (.int p0), .val (.int p1), .val (.int p2), .val (.int p3), .val (.int (1 : Int32)), .val (.ref b5), .val (.int j66_0), .val (.int (f1L1 (nar .byte (p1.toInt8.toInt32)))), .unset]) rfl k) ?_
        show OGo p e below s _ _ _ (T8.setTop (mkF m 75 #[.val (.int p0), .val (.int p1), .val (.int p2), .val (.int p3), .val (.int (1 : Int32)), .val (.ref b5), .val (.int j66_0), .val (.int (f1L1 (nar .byte (p1.toInt8.toInt32)))), .unset] []))
        refine OGo.st (fun _ k => XS.aload X8.here hx rfl (hb hby at_75) rfl rfl k) ?_
        show OGo p e below s _ _ _ (T8.setTop (mkF m 77 #[.val (.int p0), .val (.int p1), .val (.int p2), .val (.int p3), .val (.int (1 : Int32)), .val (.ref b5), .val (.int j66_0), .val (.int (f1L1 (nar .byte (p1.toInt8.toInt32)))), .unset] [(.ref b5)]))
        obtain ⟨_, _, ⟨T9, L9, k9, n9⟩, -, X9, ⟨Lc9, hQ9, l9, y9, z9⟩, st9⟩ := Jvm.LawKit.callS X8 hx (y := (⟨"com/example/assaywire/assaywire/protocol/Mllp", "wrap", "([B)[B"⟩ : MethodName)) hown (mvT hZ (hw _ (List.mem_of_getElem? (i := 5) rfl))) (mvT hZ (hw _ (List.mem_of_getElem? (i := 6) rfl))) (mvT hZ (hw _ (List.mem_of_getElem? (i := 3) rfl))) (mvT hZ (hw _ (List.mem_of_getElem? (i := 7) rfl))) (by decide) (backOf (W := 0) (rm2L1 l Z a0 hw [] b5 k5 (nar .byte (p1.toInt8.toInt32)) h6 n0 Z6 V6) hZ (hw _ (List.mem_of_getElem? (i := 7) rfl)) (hw _ (List.mem_of_getElem? (i := 3) rfl)) (by decide) (by decide)) (g := (mkF m 77 #[.val (.int p0), .val (.int p1), .val (.int p2), .val (.int p3), .val (.int (1 : Int32)), .val (.ref b5), .val (.int j66_0), .val (.int (f1L1 (nar .byte (p1.toInt8.toInt32)))), .unset] [(.ref b5)])) rfl (by rw [hml]; rfl) (argsL := [(.ref b5)]) (rest := []) (lenOf pd_0_1 rfl) rfl (by show 2 * 0 + _ ≤ _; exact Nat.le_of_eq rfl) (hb hby at_77) (fun _ _ => ⟨rfl, e8, (by decide : 1 + 1 ≤ _), (by decide : 1 + 4 ≤ _)⟩)
        dsimp only [Pt.U, Pt.locs, Pt.cells, Pt.slots] at X9 l9 y9 z9 st9 hQ9
        subst l9 y9 z9
        obtain ⟨b9, kk9, rfl, N9q, Kc9, szq9, g_b9, V9⟩ := hQ9
        have ne_b5_b9 : b5 ≠ b9 := Nat.ne_of_lt (Nat.lt_of_lt_of_le V6.lt szq9)
        have sz_b9 : h0.size ≤ b9 := Nat.le_trans (K6).1 szq9
        have V6_w9 := V6.keep Kc9 nin0
        have K9 : Keep h0 T9.heap [] := (K6).trans Kc9 all0
        have Z9 : n0 ≤ T9.heap.size := Nat.le_trans Z6 Kc9.1
        have V9 : Arv Z T9.heap b9 kk9 .byte (4 : Int32) [(.int (11 : Int32)), (.int (nar .byte (p1.toInt8.toInt32))), (.int (28 : Int32)), (.int (13 : Int32))] (.int (0 : Int32)) := V9
        have N9 := Fr.app N8 N9q
        refine OGo.st st9 ?_
        show OGo p e below s _ _ _ (T9.setTop (mkF m 80 #[.val (.int p0), .val (.int p1), .val (.int p2), .val (.int p3), .val (.int (1 : Int32)), .val (.ref b5), .val (.int j66_0), .val (.int (f1L1 (nar .byte (p1.toInt8.toInt32)))), .unset] [(.ref b9)]))
        obtain ⟨_, _, ⟨T10, L10, k10, n10⟩, -, X10, ⟨Lc10, hQ10, l10, y10, z10⟩, st10⟩ := Jvm.LawKit.callS X9 hx (y := (⟨"com/example/assaywire/assaywire/protocol/Mllp", "startsBlock", "([B)Z"⟩ : MethodName)) hown (mvT hZ (hw _ (List.mem_of_getElem? (i := 1) rfl))) (mvT hZ (hw _ (List.mem_of_getElem? (i := 2) rfl))) (mvT hZ (hw _ (List.mem_of_getElem? (i := 3) rfl))) (mvT hZ (hw _ (List.mem_of_getElem? (i := 4) rfl))) (by decide) (backOf (W := 0) (rm1L4 l Z a0 hw [] b9 kk9 (11 : Int32) (nar .byte (p1.toInt8.toInt32)) (28 : Int32) (13 : Int32) T9.heap n0 Z9 V9) hZ (hw _ (List.mem_of_getElem? (i := 4) rfl)) (hw _ (List.mem_of_getElem? (i := 3) rfl)) (by decide) (by decide)) (g := (mkF m 80 #[.val (.int p0), .val (.int p1), .val (.int p2), .val (.int p3), .val (.int (1 : Int32)), .val (.ref b5), .val (.int j66_0), .val (.int (f1L1 (nar .byte (p1.toInt8.toInt32)))), .unset] [(.ref b9)])) rfl (by rw [hml]; rfl) (argsL := [(.ref b9)]) (rest := []) (lenOf pd_0_0 rfl) rfl (by show 2 * 0 + _ ≤ _; exact Nat.le_of_eq rfl) (hb hby at_80) (fun _ _ => ⟨rfl, rfl, (by decide : 2 + 0 ≤ _), (by decide : 5 + 0 ≤ _)⟩)
        dsimp only [Pt.U, Pt.locs, Pt.cells, Pt.slots] at X10 l10 y10 z10 st10 hQ10
        subst l10 y10 z10
        obtain ⟨rfl, N10q, e10⟩ := hQ10
        have N10 := Fr.app N9 N10q
        refine OGo.st st10 ?_
        show OGo p e below s _ _ _ (T10.setTop (mkF m 83 #[.val (.int p0), .val (.int p1), .val (.int p2), .val (.int p3), .val (.int (1 : Int32)), .val (.ref b5), .val (.int j66_0), .val (.int (f1L1 (nar .byte (p1.toInt8.toInt32)))), .unset] [(.int (f1L4 (11 : Int32)))]))
        refine OGo.st (fun _ k => XS.istore X10.here hx rfl (hb hby at_83) rfl (l' := #[.val (.int p0), .val (.int p1), .val (.int p2), .val (.int p3), .val (.int (1 : Int32)), .val (.ref b5), .val (.int j66_0), .val (.int (f1L1 (nar .byte (p1.toInt8.toInt32)))), .val (.int (f1L4 (11 : Int32)))]) rfl k) ?_
        show OGo p e below s _ _ _ (T10.setTop (mkF m 85 #[.val (.int p0), .val (.int p1), .val (.int p2), .val (.int p3), .val (.int (1 : Int32)), .val (.ref b5), .val (.int j66_0), .val (.int (f1L1 (nar .byte (p1.toInt8.toInt32)))), .val (.int (f1L4 (11 : Int32)))] []))
        refine OGo.st (fun _ k => XS.iload X10.here hx rfl (hb hby at_85) rfl k) ?_
        show OGo p e below s _ _ _ (T10.setTop (mkF m 87 #[.val (.int p0), .val (.int p1), .val (.int p2), .val (.int p3), .val (.int (1 : Int32)), .val (.ref b5), .val (.int j66_0), .val (.int (f1L1 (nar .byte (p1.toInt8.toInt32)))), .val (.int (f1L4 (11 : Int32)))] [(.int (f1L1 (nar .byte (p1.toInt8.toInt32))))]))
        refine OGo.st (fun _ k => XS.iload X10.here hx rfl (hb hby at_87) rfl k) ?_
        show OGo p e below s _ _ _ (T10.setTop (mkF m 89 #[.val (.int p0), .val (.int p1), .val (.int p2), .val (.int p3), .val (.int (1 : Int32)), .val (.ref b5), .val (.int j66_0), .val (.int (f1L1 (nar .byte (p1.toInt8.toInt32)))), .val (.int (f1L4 (11 : Int32)))] [(.int j66_0), (.int (f1L1 (nar .byte (p1.toInt8.toInt32))))]))
        by_cases hc89 : (f1L1 (nar .byte (p1.toInt8.toInt32))) = j66_0
        · refine OGo.st (fun _ k => XS.icmpNo X10.here hx rfl (hb hby at_89) rfl (teq hc89).2 k) ?_
          show OGo p e below s _ _ _ (T10.setTop (mkF m 92 #[.val (.int p0), .val (.int p1), .val (.int p2), .val (.int p3), .val (.int (1 : Int32)), .val (.ref b5), .val (.int j66_0), .val (.int (f1L1 (nar .byte (p1.toInt8.toInt32)))), .val (.int (f1L4 (11 : Int32)))] []))
          refine OGo.st (fun _ k => XS.iload X10.here hx rfl (hb hby at_92) rfl k) ?_
          show OGo p e below s _ _ _ (T10.setTop (mkF m 94 #[.val (.int p0), .val (.int p1), .val (.int p2), .val (.int p3), .val (.int (1 : Int32)), .val (.ref b5), .val (.int j66_0), .val (.int (f1L1 (nar .byte (p1.toInt8.toInt32)))), .val (.int (f1L4 (11 : Int32)))] [(.int (f1L4 (11 : Int32)))]))
          by_cases hc94 : (f1L4 (11 : Int32)) = (0 : Int32)
          · refine OGo.st (fun _ k => XS.ifYes X10.here hx rfl (pc0 := 94) (pc' := 101) rfl (hb hby at_94) rfl ((if0 _ _).trans (teq hc94).1) (by decide) (by decide) k) ?_
            show OGo p e below s _ _ _ (T10.setTop (mkF m 101 #[.val (.int p0), .val (.int p1), .val (.int p2), .val (.int p3), .val (.int (1 : Int32)), .val (.ref b5), .val (.int j66_0), .val (.int (f1L1 (nar .byte (p1.toInt8.toInt32)))), .val (.int (f1L4 (11 : Int32)))] []))
            refine OGo.st (fun _ k => XS.iconst X10.here hx rfl (hb hby at_101) k) ?_
            show OGo p e below s _ _ _ (T10.setTop (mkF m 102 #[.val (.int p0), .val (.int p1), .val (.int p2), .val (.int p3), .val (.int (1 : Int32)), .val (.ref b5), .val (.int j66_0), .val (.int (f1L1 (nar .byte (p1.toInt8.toInt32)))), .val (.int (f1L4 (11 : Int32)))] [(.int (0 : Int32))]))
            exact oretN X10 hx Bd.notSynchronized (t := .boolean) Bd.returns (by simp) (hb hby at_102) (z' := (0 : Int32)) (by decide) e10 ⟨(congrArg (fun z => some (Value.int z)) (show (0 : Int32) = f0 p0 p1 p2 p3 from Eq.symm (hf66_0.trans (by unfold f0_66; exact (if_pos hc89).trans (if_pos hc94))))), N10⟩ (by decide) (by decide)
          · refine OGo.st (fun _ k => XS.ifNo X10.here hx rfl (hb hby at_94) rfl ((if0 _ _).trans (feq hc94).1) k) ?_
            show OGo p e below s _ _ _ (T10.setTop (mkF m 97 #[.val (.int p0), .val (.int p1), .val (.int p2), .val (.int p3), .val (.int (1 : Int32)), .val (.ref b5), .val (.int j66_0), .val (.int (f1L1 (nar .byte (p1.toInt8.toInt32)))), .val (.int (f1L4 (11 : Int32)))] []))
            refine OGo.st (fun _ k => XS.iconst X10.here hx rfl (hb hby at_97) k) ?_
            show OGo p e below s _ _ _ (T10.setTop (mkF m 98 #[.val (.int p0), .val (.int p1), .val (.int p2), .val (.int p3), .val (.int (1 : Int32)), .val (.ref b5), .val (.int j66_0), .val (.int (f1L1 (nar .byte (p1.toInt8.toInt32)))), .val (.int (f1L4 (11 : Int32)))] [(.int (1 : Int32))]))
            refine OGo.st (fun _ k => XS.goto X10.here hx rfl (pc0 := 98) (pc' := 102) rfl (hb hby at_98) (by decide) (by decide) k) ?_
            show OGo p e below s _ _ _ (T10.setTop (mkF m 102 #[.val (.int p0), .val (.int p1), .val (.int p2), .val (.int p3), .val (.int (1 : Int32)), .val (.ref b5), .val (.int j66_0), .val (.int (f1L1 (nar .byte (p1.toInt8.toInt32)))), .val (.int (f1L4 (11 : Int32)))] [(.int (1 : Int32))]))
            exact oretN X10 hx Bd.notSynchronized (t := .boolean) Bd.returns (by simp) (hb hby at_102) (z' := (1 : Int32)) (by decide) e10 ⟨(congrArg (fun z => some (Value.int z)) (show (1 : Int32) = f0 p0 p1 p2 p3 from Eq.symm (hf66_0.trans (by unfold f0_66; exact (if_pos hc89).trans (if_neg hc94))))), N10⟩ (by decide) (by decide)
        · refine OGo.st (fun _ k => XS.icmpYes X10.here hx rfl (pc0 := 89) (pc' := 101) rfl (hb hby at_89) rfl (feq hc89).2 (by decide) (by decide) k) ?_
          show OGo p e below s _ _ _ (T10.setTop (mkF m 101 #[.val (.int p0), .val (.int p1), .val (.int p2), .val (.int p3), .val (.int (1 : Int32)), .val (.ref b5), .val (.int j66_0), .val (.int (f1L1 (nar .byte (p1.toInt8.toInt32)))), .val (.int (f1L4 (11 : Int32)))] []))
          refine OGo.st (fun _ k => XS.iconst X10.here hx rfl (hb hby at_101) k) ?_
          show OGo p e below s _ _ _ (T10.setTop (mkF m 102 #[.val (.int p0), .val (.int p1), .val (.int p2), .val (.int p3), .val (.int (1 : Int32)), .val (.ref b5), .val (.int j66_0), .val (.int (f1L1 (nar .byte (p1.toInt8.toInt32)))), .val (.int (f1L4 (11 : Int32)))] [(.int (0 : Int32))]))
          exact oretN X10 hx Bd.notSynchronized (t := .boolean) Bd.returns (by simp) (hb hby at_102) (z' := (0 : Int32)) (by decide) e10 ⟨(congrArg (fun z => some (Value.int z)) (show (0 : Int32) = f0 p0 p1 p2 p3 from Eq.symm (hf66_0.trans (by unfold f0_66; exact if_neg hc89)))), N10⟩ (by decide) (by decide)
      by_cases hc58 : (p1 &&& (255 : Int32)) = (11 : Int32)
      · refine OGo.st (fun _ k => XS.icmpNo X6.here hx rfl (hb hby at_58) rfl (teq hc58).2 k) ?_
        show OGo p e below s _ _ _ (T6.setTop (mkF m 61 #[.val (.int p0), .val (.int p1), .val (.int p2), .val (.int p3), .val (.int (1 : Int32)), .val (.ref b5), .unset, .unset, .unset] []))
        refine OGo.st (fun _ k => XS.iconst X6.here hx rfl (hb hby at_61) k) ?_
        show OGo p e below s _ _ _ (T6.setTop (mkF m 62 #[.val (.int p0), .val (.int p1), .val (.int p2), .val (.int p3), .val (.int (1 : Int32)), .val (.ref b5), .unset, .unset, .unset] [(.int (1 : Int32))]))
        refine OGo.st (fun _ k => XS.goto X6.here hx rfl (pc0 := 62) (pc' := 66) rfl (hb hby at_62) (by decide) (by decide) k) ?_
        show OGo p e below s _ _ _ (T6.setTop (mkF m 66 #[.val (.int p0), .val (.int p1), .val (.int p2), .val (.int p3), .val (.int (1 : Int32)), .val (.ref b5), .unset, .unset, .unset] [(.int (1 : Int32))]))
        exact hj66 (1 : Int32) (by unfold f0; exact (if_neg hc5).trans ((if_pos hc5_2).trans (if_pos hc58)))
      · refine OGo.st (fun _ k => XS.icmpYes X6.here hx rfl (pc0 := 58) (pc' := 65) rfl (hb hby at_58) rfl (feq hc58).2 (by decide) (by decide) k) ?_
        show OGo p e below s _ _ _ (T6.setTop (mkF m 65 #[.val (.int p0), .val (.int p1), .val (.int p2), .val (.int p3), .val (.int (1 : Int32)), .val (.ref b5), .unset, .unset, .unset] []))
        refine OGo.st (fun _ k => XS.iconst X6.here hx rfl (hb hby at_65) k) ?_
        show OGo p e below s _ _ _ (T6.setTop (mkF m 66 #[.val (.int p0), .val (.int p1), .val (.int p2), .val (.int p3), .val (.int (1 : Int32)), .val (.ref b5), .unset, .unset, .unset] [(.int (0 : Int32))]))
        exact hj66 (0 : Int32) (by unfold f0; exact (if_neg hc5).trans ((if_pos hc5_2).trans (if_neg hc58)))
    · by_cases hc5_3 : (p0 &&& (3 : Int32)) = (2 : Int32)
      · rw [hc5_3]
        show OGo p e below s _ _ _ (s₁.setTop (mkF m 5 #[.val (.int p0), .val (.int p1), .val (.int p2), .val (.int p3), .val (.int (2 : Int32)), .unset, .unset, .unset, .unset] []))
        refine OGo.st (fun _ k => XS.iload X0.here hx rfl (hb hby at_5) rfl k) ?_
        show OGo p e below s _ _ _ (s₁.setTop (mkF m 7 #[.val (.int p0), .val (.int p1), .val (.int p2), .val (.int p3), .val (.int (2 : Int32)), .unset, .unset, .unset, .unset] [(.int (2 : Int32))]))
        obtain ⟨T11, h11, k11, X11, e11, E11, A11, st11⟩ := newP X0 hx hZ (hw _ (List.mem_of_getElem? (i := 0) rfl)) e0 (g := (mkF m 7 #[.val (.int p0), .val (.int p1), .val (.int p2), .val (.int p3), .val (.int (2 : Int32)), .unset, .unset, .unset, .unset] [(.int (2 : Int32))])) rfl (hb hby at_7) rfl (by decide) (cap := 2) (by decide) (by decide) (by decide) (by decide)
        obtain ⟨b11, g11⟩ : ∃ z, z = h0.size := ⟨_, rfl⟩
        rw [← g11] at A11 st11
        refine OGo.st st11 ?_
        have g_b11 : n0 ≤ b11 := Nat.le_trans Z0 (Nat.le_of_eq g11.symm)
        have sz_b11 : h0.size ≤ b11 := Nat.le_trans (Keep.refl h0 []).1 (Nat.le_of_eq g11.symm)
        have K11 : Keep h0 h11 [] := (Keep.refl h0 _).ext E11
        have Z11 : n0 ≤ h11.size := Nat.le_trans Z0 E11.1
        have V_b11 : Arv Z h11 b11 k11 .byte (2 : Int32) [(.int (0 : Int32)), (.int (0 : Int32))] (.int (0 : Int32)) := (Arv.new A11 (by decide)).pad (pad_rep [] (.int (0 : Int32)) 2)
        show OGo p e below s _ _ _ (T11.setTop (mkF m 9 #[.val (.int p0), .val (.int p1), .val (.int p2), .val (.int p3), .val (.int (2 : Int32)), .unset, .unset, .unset, .unset] [(.ref b11)]))
        refine OGo.st (fun _ k => XS.astore X11.here hx rfl (hb hby at_9) rfl rfl (l' := #[.val (.int p0), .val (.int p1), .val (.int p2), .val (.int p3), .val (.int (2 : Int32)), .val (.ref b11), .unset, .unset, .unset]) rfl k) ?_
        show OGo p e below s _ _ _ (T11.setTop (mkF m 11 #[.val (.int p0), .val (.int p1), .val (.int p2), .val (.int p3), .val (.int (2 : Int32)), .val (.ref b11), .unset, .unset, .unset] []))
        refine OGo.st (fun _ k => XS.iload X11.here hx rfl (hb hby at_11) rfl k) ?_
        show OGo p e below s _ _ _ (T11.setTop (mkF m 13 #[.val (.int p0), .val (.int p1), .val (.int p2), .val (.int p3), .val (.int (2 : Int32)), .val (.ref b11), .unset, .unset, .unset] [(.int (2 : Int32))]))
        refine OGo.st (fun _ k => XS.ifNo X11.here hx rfl (hb hby at_13) rfl ((if0 _ _).trans (tlt (by decide : (0 : Int32) < (2 : Int32))).2.2.2) k) ?_
        show OGo p e below s _ _ _ (T11.setTop (mkF m 16 #[.val (.int p0), .val (.int p1), .val (.int p2), .val (.int p3), .val (.int (2 : Int32)), .val (.ref b11), .unset, .unset, .unset] []))
        refine OGo.st (fun _ k => XS.aload X11.here hx rfl (hb hby at_16) rfl rfl k) ?_
        show OGo p e below s _ _ _ (T11.setTop (mkF m 18 #[.val (.int p0), .val (.int p1), .val (.int p2), .val (.int p3), .val (.int (2 : Int32)), .val (.ref b11), .unset, .unset, .unset] [(.ref b11)]))
        refine OGo.st (fun _ k => XS.iconst X11.here hx rfl (hb hby at_18) k) ?_
        show OGo p e below s _ _ _ (T11.setTop (mkF m 19 #[.val (.int p0), .val (.int p1), .val (.int p2), .val (.int p3), .val (.int (2 : Int32)), .val (.ref b11), .unset, .unset, .unset] [(.int (0 : Int32)), (.ref b11)]))
        refine OGo.st (fun _ k => XS.iloadN X11.here hx rfl (hb hby at_19) rfl k) ?_
        show OGo p e below s _ _ _ (T11.setTop (mkF m 20 #[.val (.int p0), .val (.int p1), .val (.int p2), .val (.int p3), .val (.int (2 : Int32)), .val (.ref b11), .unset, .unset, .unset] [(.int p1), (.int (0 : Int32)), (.ref b11)]))
        refine OGo.st (fun _ k => XS.i2b X11.here hx rfl (hb hby at_20) rfl k) ?_
        show OGo p e below s _ _ _ (T11.setTop (mkF m 21 #[.val (.int p0), .val (.int p1), .val (.int p2), .val (.int p3), .val (.int (2 : Int32)), .val (.ref b11), .unset, .unset, .unset] [(.int (p1.toInt8.toInt32)), (.int (0 : Int32)), (.ref b11)]))
        obtain ⟨cl12, Ar12, q12, Sz12, Nn12, Hs12, Gs12⟩ := id V_b11
        have hin12 : ¬ ((0 : Int32) < 0 ∨ cl12.slots.size ≤ ((0 : Int32)).toNatClampNeg) := inb_of Sz12 ⟨by decide, by decide⟩
        obtain ⟨T12, h12, X12, e12, W12, st12⟩ := stB X11 hx hZ e11 Ar12 (j := (0 : Int32)) hin12 (g := (mkF m 21 #[.val (.int p0), .val (.int p1), .val (.int p2), .val (.int p3), .val (.int (2 : Int32)), .val (.ref b11), .unset, .unset, .unset] [(.int (p1.toInt8.toInt32)), (.int (0 : Int32)), (.ref b11)])) rfl rfl (hb hby at_21)
        refine OGo.st st12 ?_
        have K12 : Keep h0 h12 [] := (K11).wr W12 (Or.inr sz_b11)
        have N12 := Fr.snoc X12 N0 g_b11
        have Z12 : n0 ≤ h12.size := Nat.le_trans Z11 (Keep.of_wr W12).1
        have V12 : Arv Z h12 b11 k11 .byte (2 : Int32) [(.int (nar .byte (p1.toInt8.toInt32))), (.int (0 : Int32))] (.int (0 : Int32)) := Arv.set Ar12 q12 Sz12 Nn12 Hs12 Gs12 (fits_nar_byte _) W12 0 rfl (Nat.le_of_ble_eq_true rfl)
        show OGo p e below s _ _ _ (T12.setTop (mkF m 22 #[.val (.int p0), .val (.int p1), .val (.int p2), .val (.int p3), .val (.int (2 : Int32)), .val (.ref b11), .unset, .unset, .unset] []))
        refine OGo.st (fun _ k => XS.iload X12.here hx rfl (hb hby at_22) rfl k) ?_
        show OGo p e below s _ _ _ (T12.setTop (mkF m 24 #[.val (.int p0), .val (.int p1), .val (.int p2), .val (.int p3), .val (.int (2 : Int32)), .val (.ref b11), .unset, .unset, .unset] [(.int (2 : Int32))]))
        refine OGo.st (fun _ k => XS.iconst X12.here hx rfl (hb hby at_24) k) ?_
        show OGo p e below s _ _ _ (T12.setTop (mkF m 25 #[.val (.int p0), .val (.int p1), .val (.int p2), .val (.int p3), .val (.int (2 : Int32)), .val (.ref b11), .unset, .unset, .unset] [(.int (1 : Int32)), (.int (2 : Int32))]))
        refine OGo.st (fun _ k => XS.icmpNo X12.here hx rfl (hb hby at_25) rfl (tlt (by decide : (1 : Int32) < (2 : Int32))).2.2.2 k) ?_
        show OGo p e below s _ _ _ (T12.setTop (mkF m 28 #[.val (.int p0), .val (.int p1), .val (.int p2), .val (.int p3), .val (.int (2 : Int32)), .val (.ref b11), .unset, .unset, .unset] []))
        refine OGo.st (fun _ k => XS.aload X12.here hx rfl (hb hby at_28) rfl rfl k) ?_
        show OGo p e below s _ _ _ (T12.setTop (mkF m 30 #[.val (.int p0), .val (.int p1), .val (.int p2), .val (.int p3), .val (.int (2 : Int32)), .val (.ref b11), .unset, .unset, .unset] [(.ref b11)]))
        refine OGo.st (fun _ k => XS.iconst X12.here hx rfl (hb hby at_30) k) ?_
        show OGo p e below s _ _ _ (T12.setTop (mkF m 31 #[.val (.int p0), .val (.int p1), .val (.int p2), .val (.int p3), .val (.int (2 : Int32)), .val (.ref b11), .unset, .unset, .unset] [(.int (1 : Int32)), (.ref b11)]))
        refine OGo.st (fun _ k => XS.iloadN X12.here hx rfl (hb hby at_31) rfl k) ?_
        show OGo p e below s _ _ _ (T12.setTop (mkF m 32 #[.val (.int p0), .val (.int p1), .val (.int p2), .val (.int p3), .val (.int (2 : Int32)), .val (.ref b11), .unset, .unset, .unset] [(.int p2), (.int (1 : Int32)), (.ref b11)]))
        refine OGo.st (fun _ k => XS.i2b X12.here hx rfl (hb hby at_32) rfl k) ?_
        show OGo p e below s _ _ _ (T12.setTop (mkF m 33 #[.val (.int p0), .val (.int p1), .val (.int p2), .val (.int p3), .val (.int (2 : Int32)), .val (.ref b11), .unset, .unset, .unset] [(.int (p2.toInt8.toInt32)), (.int (1 : Int32)), (.ref b11)]))
        obtain ⟨cl13, Ar13, q13, Sz13, Nn13, Hs13, Gs13⟩ := id V12
        have hin13 : ¬ ((1 : Int32) < 0 ∨ cl13.slots.size ≤ ((1 : Int32)).toNatClampNeg) := inb_of Sz13 ⟨by decide, by decide⟩
        obtain ⟨T13, h13, X13, e13, W13, st13⟩ := stB X12 hx hZ e12 Ar13 (j := (1 : Int32)) hin13 (g := (mkF m 33 #[.val (.int p0), .val (.int p1), .val (.int p2), .val (.int p3), .val (.int (2 : Int32)), .val (.ref b11), .unset, .unset, .unset] [(.int (p2.toInt8.toInt32)), (.int (1 : Int32)), (.ref b11)])) rfl rfl (hb hby at_33)
        refine OGo.st st13 ?_
        have K13 : Keep h0 h13 [] := (K12).wr W13 (Or.inr sz_b11)
        have N13 := Fr.snoc X13 N12 g_b11
        have Z13 : n0 ≤ h13.size := Nat.le_trans Z12 (Keep.of_wr W13).1
        have V13 : Arv Z h13 b11 k11 .byte (2 : Int32) [(.int (nar .byte (p1.toInt8.toInt32))), (.int (nar .byte (p2.toInt8.toInt32)))] (.int (0 : Int32)) := Arv.set Ar13 q13 Sz13 Nn13 Hs13 Gs13 (fits_nar_byte _) W13 1 rfl (Nat.le_of_ble_eq_true rfl)
        show OGo p e below s _ _ _ (T13.setTop (mkF m 34 #[.val (.int p0), .val (.int p1), .val (.int p2), .val (.int p3), .val (.int (2 : Int32)), .val (.ref b11), .unset, .unset, .unset] []))
        refine OGo.st (fun _ k => XS.iload X13.here hx rfl (hb hby at_34) rfl k) ?_
        show OGo p e below s _ _ _ (T13.setTop (mkF m 36 #[.val (.int p0), .val (.int p1), .val (.int p2), .val (.int p3), .val (.int (2 : Int32)), .val (.ref b11), .unset, .unset, .unset] [(.int (2 : Int32))]))
        refine OGo.st (fun _ k => XS.iconst X13.here hx rfl (hb hby at_36) k) ?_
        show OGo p e below s _ _ _ (T13.setTop (mkF m 37 #[.val (.int p0), .val (.int p1), .val (.int p2), .val (.int p3), .val (.int (2 : Int32)), .val (.ref b11), .unset, .unset, .unset] [(.int (2 : Int32)), (.int (2 : Int32))]))
        refine OGo.st (fun _ k => XS.icmpYes X13.here hx rfl (pc0 := 37) (pc' := 46) rfl (hb hby at_37) rfl (flt (by decide : ¬ ((2 : Int32) < (2 : Int32)))).2.2.2 (by decide) (by decide) k) ?_
        show OGo p e below s _ _ _ (T13.setTop (mkF m 46 #[.val (.int p0), .val (.int p1), .val (.int p2), .val (.int p3), .val (.int (2 : Int32)), .val (.ref b11), .unset, .unset, .unset] []))
        refine OGo.st (fun _ k => XS.iload X13.here hx rfl (hb hby at_46) rfl k) ?_
        show OGo p e below s _ _ _ (T13.setTop (mkF m 48 #[.val (.int p0), .val (.int p1), .val (.int p2), .val (.int p3), .val (.int (2 : Int32)), .val (.ref b11), .unset, .unset, .unset] [(.int (2 : Int32))]))
        refine OGo.st (fun _ k => XS.ifNo X13.here hx rfl (hb hby at_48) rfl ((if0 _ _).trans (feq (by decide : ¬ ((2 : Int32) = (0 : Int32)))).1) k) ?_
        show OGo p e below s _ _ _ (T13.setTop (mkF m 51 #[.val (.int p0), .val (.int p1), .val (.int p2), .val (.int p3), .val (.int (2 : Int32)), .val (.ref b11), .unset, .unset, .unset] []))
        refine OGo.st (fun _ k => XS.iloadN X13.here hx rfl (hb hby at_51) rfl k) ?_
        show OGo p e below s _ _ _ (T13.setTop (mkF m 52 #[.val (.int p0), .val (.int p1), .val (.int p2), .val (.int p3), .val (.int (2 : Int32)), .val (.ref b11), .unset, .unset, .unset] [(.int p1)]))
        refine OGo.st (fun _ k => XS.sipush X13.here hx rfl (hb hby at_52) k) ?_
        show OGo p e below s _ _ _ (T13.setTop (mkF m 55 #[.val (.int p0), .val (.int p1), .val (.int p2), .val (.int p3), .val (.int (2 : Int32)), .val (.ref b11), .unset, .unset, .unset] [(.int (255 : Int32)), (.int p1)]))
        refine OGo.st (fun _ k => XS.iand X13.here hx rfl (hb hby at_55) rfl k) ?_
        show OGo p e below s _ _ _ (T13.setTop (mkF m 56 #[.val (.int p0), .val (.int p1), .val (.int p2), .val (.int p3), .val (.int (2 : Int32)), .val (.ref b11), .unset, .unset, .unset] [(.int (p1 &&& (255 : Int32)))]))
        refine OGo.st (fun _ k => XS.bipush X13.here hx rfl (hb hby at_56) k) ?_
        show OGo p e below s _ _ _ (T13.setTop (mkF m 58 #[.val (.int p0), .val (.int p1), .val (.int p2), .val (.int p3), .val (.int (2 : Int32)), .val (.ref b11), .unset, .unset, .unset] [(.int (11 : Int32)), (.int (p1 &&& (255 : Int32)))]))
        have hj66_2 : ∀ (j66_2_0 : Int32) (hf66_2_0 : f0 p0 p1 p2 p3 = f0_66_2 p0 p1 p2 p3 j66_2_0), OGo p e below s (Q0 Z p0 p1 p2 p3 h0 n0) room_1.cells room_1.slots (T13.setTop (mkF m 66 #[.val (.int p0), .val (.int p1), .val (.int p2), .val (.int p3), .val (.int (2 : Int32)), .val (.ref b11), .unset, .unset, .unset] [(.int j66_2_0)])) := by
          intro j66_2_0 hf66_2_0
          refine OGo.st (fun _ k => XS.istore X13.here hx rfl (hb hby at_66) rfl (l' := #[.val (.int p0), .val (.int p1), .val (.int p2), .val (.int p3), .val (.int (2 : Int32)), .val (.ref b11), .val (.int j66_2_0), .unset, .unset]) rfl k) ?_
          show OGo p e below s _ _ _ (T13.setTop (mkF m 68 #[.val (.int p0), .val (.int p1), .val (.int p2), .val (.int p3), .val (.int (2 : Int32)), .val (.ref b11), .val (.int j66_2_0), .unset, .unset] []))
          refine OGo.st (fun _ k => XS.aload X13.here hx rfl (hb hby at_68) rfl rfl k) ?_
          show OGo p e below s _ _ _ (T13.setTop (mkF m 70 #[.val (.int p0), .val (.int p1), .val (.int p2), .val (.int p3), .val (.int (2 : Int32)), .val (.ref b11), .val (.int j66_2_0), .unset, .unset] [(.ref b11)]))
          obtain ⟨_, _, ⟨T15, L15, k15, n15⟩, -, X15, ⟨Lc15, hQ15, l15, y15, z15⟩, st15⟩ := Jvm.LawKit.callS X13 hx (y := (⟨"com/example/assaywire/assaywire/protocol/Mllp", "startsBlock", "([B)Z"⟩ : MethodName)) hown (mvT hZ (hw _ (List.mem_of_getElem? (i := 1) rfl))) (mvT hZ (hw _ (List.mem_of_getElem? (i := 2) rfl))) (mvT hZ (hw _ (List.mem_of_getElem? (i := 3) rfl))) (mvT hZ (hw _ (List.mem_of_getElem? (i := 4) rfl))) (by decide) (backOf (W := 0) (rm1L2 l Z a0 hw [] b11 k11 (nar .byte (p1.toInt8.toInt32)) (nar .byte (p2.toInt8.toInt32)) h13 n0 Z13 V13) hZ (hw _ (List.mem_of_getElem? (i := 4) rfl)) (hw _ (List.mem_of_getElem? (i := 3) rfl)) (by decide) (by decide)) (g := (mkF m 70 #[.val (.int p0), .val (.int p1), .val (.int p2), .val (.int p3), .val (.int (2 : Int32)), .val (.ref b11), .val (.int j66_2_0), .unset, .unset] [(.ref b11)])) rfl (by rw [hml]; rfl) (argsL := [(.ref b11)]) (rest := []) (lenOf pd_0_0 rfl) rfl (by show 2 * 0 + _ ≤ _; exact Nat.le_of_eq rfl) (hb hby at_70) (fun _ _ => ⟨rfl, e13, (by decide : 1 + 0 ≤ _), (by decide : 2 + 0 ≤ _)⟩)
          dsimp only [Pt.U, Pt.locs, Pt.cells, Pt.slots] at X15 l15 y15 z15 st15 hQ15
          subst l15 y15 z15
          obtain ⟨rfl, N15q, e15⟩ := hQ15
          have N15 := Fr.app N13 N15q
          refine OGo.st st15 ?_
          show OGo p e below s _ _ _ (T15.setTop (mkF m 73 #[.val (.int p0), .val (.int p1), .val (.int p2), .val (.int p3), .val (.int (2 : Int32)), .val (.ref b11), .val (.int j66_2_0), .unset, .unset] [(.int (f1L2 (nar .byte (p1.toInt8.toInt32))))]))
          refine OGo.st (fun _ k => XS.istore X15.here hx rfl (hb hby at_73) rfl (l' := #[.val (.int p0), .val (.int p1), .val (.int p2), .val (.int p3), .val (.int (2 : Int32)), .val (.ref b11), .val (.int j66_2_0), .val (.int (f1L2 (nar .byte (p1.toInt8.toInt32)))), .unset]) rfl k) ?_
          show OGo p e below s _ _ _ (T15.setTop (mkF m 75 #[.val (.int p0), .val (.int p1), .val (.int p2), .val (.int p3), .val (.int (2 : Int32)), .val (.ref b11), .val (.int j66_2_0), .val (.int (f1L2 (nar .byte (p1.toInt8.toInt32)))), .unset] []))
          refine OGo.st (fun _ k => XS.aload X15.here hx rfl (hb hby at_75) rfl rfl k) ?_
          show OGo p e below s _ _ _ (T15.setTop (mkF m 77 #[.val (.int p0), .val (.int p1), .val (.int p2), .val (.int p3), .val (.int (2 : Int32)), .val (.ref b11), .val (.int j66_2_0), .val (.int (f1L2 (nar .byte (p1.toInt8.toInt32)))), .unset] [(.ref b11)]))
          obtain ⟨_, _, ⟨T16, L16, k16, n16⟩, -, X16, ⟨Lc16, hQ16, l16, y16, z16⟩, st16⟩ := Jvm.LawKit.callS X15 hx (y := (⟨"com/example/assaywire/assaywire/protocol/Mllp", "wrap", "([B)[B"⟩ : MethodName)) hown (mvT hZ (hw _ (List.mem_of_getElem? (i := 5) rfl))) (mvT hZ (hw _ (List.mem_of_getElem? (i := 6) rfl))) (mvT hZ (hw _ (List.mem_of_getElem? (i := 3) rfl))) (mvT hZ (hw _ (List.mem_of_getElem? (i := 7) rfl))) (by decide) (backOf (W := 0) (rm2L2 l Z a0 hw [] b11 k11 (nar .byte (p1.toInt8.toInt32)) (nar .byte (p2.toInt8.toInt32)) h13 n0 Z13 V13) hZ (hw _ (List.mem_of_getElem? (i := 7) rfl)) (hw _ (List.mem_of_getElem? (i := 3) rfl)) (by decide) (by decide)) (g := (mkF m 77 #[.val (.int p0), .val (.int p1), .val (.int p2), .val (.int p3), .val (.int (2 : Int32)), .val (.ref b11), .val (.int j66_2_0), .val (.int (f1L2 (nar .byte (p1.toInt8.toInt32)))), .unset] [(.ref b11)])) rfl (by rw [hml]; rfl) (argsL := [(.ref b11)]) (rest := []) (lenOf pd_0_1 rfl) rfl (by show 2 * 0 + _ ≤ _; exact Nat.le_of_eq rfl) (hb hby at_77) (fun _ _ => ⟨rfl, e15, (by decide : 1 + 1 ≤ _), (by decide : 2 + 5 ≤ _)⟩)
          dsimp only [Pt.U, Pt.locs, Pt.cells, Pt.slots] at X16 l16 y16 z16 st16 hQ16
          subst l16 y16 z16
          obtain ⟨b16, kk16, rfl, N16q, Kc16, szq16, g_b16, V16⟩ := hQ16
          have ne_b11_b16 : b11 ≠ b16 := Nat.ne_of_lt (Nat.lt_of_lt_of_le V13.lt szq16)
          have sz_b16 : h0.size ≤ b16 := Nat.le_trans (K13).1 szq16
          have V13_w16 := V13.keep Kc16 nin0
          have K16 : Keep h0 T16.heap [] := (K13).trans Kc16 all0
          have Z16 : n0 ≤ T16.heap.size := Nat.le_trans Z13 Kc16.1
          have V16 : Arv Z T16.heap b16 kk16 .byte (5 : Int32) [(.int (11 : Int32)), (.int (nar .byte (p1.toInt8.toInt32))), (.int (nar .byte (p2.toInt8.toInt32))), (.int (28 : Int32)), (.int (13 : Int32))] (.int (0 : Int32)) := V16
          have N16 := Fr.app N15 N16q
          refine OGo.st st16 ?_
          show OGo p e below s _ _ _ (T16.setTop (mkF m 80 #[.val (.int p0), .val (.int p1), .val (.int p2), .val (.int p3), .val (.int (2 : Int32)), .val (.ref b11), .val (.int j66_2_0), .val (.int (f1L2 (nar .byte (p1.toInt8.toInt32)))), .unset] [(.ref b16)]))
          obtain ⟨_, _, ⟨T17, L17, k17, n17⟩, -, X17, ⟨Lc17, hQ17, l17, y17, z17⟩, st17⟩ := Jvm.LawKit.callS X16 hx (y := (⟨"com/example/assaywire/assaywire/protocol/Mllp", "startsBlock", "([B)Z"⟩ : MethodName)) hown (mvT hZ (hw _ (List.mem_of_getElem? (i := 1) rfl))) (mvT hZ (hw _ (List.mem_of_getElem? (i := 2) rfl))) (mvT hZ (hw _ (List.mem_of_getElem? (i := 3) rfl))) (mvT hZ (hw _ (List.mem_of_getElem? (i := 4) rfl))) (by decide) (backOf (W := 0) (rm1L5 l Z a0 hw [] b16 kk16 (11 : Int32) (nar .byte (p1.toInt8.toInt32)) (nar .byte (p2.toInt8.toInt32)) (28 : Int32) (13 : Int32) T16.heap n0 Z16 V16) hZ (hw _ (List.mem_of_getElem? (i := 4) rfl)) (hw _ (List.mem_of_getElem? (i := 3) rfl)) (by decide) (by decide)) (g := (mkF m 80 #[.val (.int p0), .val (.int p1), .val (.int p2), .val (.int p3), .val (.int (2 : Int32)), .val (.ref b11), .val (.int j66_2_0), .val (.int (f1L2 (nar .byte (p1.toInt8.toInt32)))), .unset] [(.ref b16)])) rfl (by rw [hml]; rfl) (argsL := [(.ref b16)]) (rest := []) (lenOf pd_0_0 rfl) rfl (by show 2 * 0 + _ ≤ _; exact Nat.le_of_eq rfl) (hb hby at_80) (fun _ _ => ⟨rfl, rfl, (by decide : 2 + 0 ≤ _), (by decide : 7 + 0 ≤ _)⟩)
          dsimp only [Pt.U, Pt.locs, Pt.cells, Pt.slots] at X17 l17 y17 z17 st17 hQ17
          subst l17 y17 z17
          obtain ⟨rfl, N17q, e17⟩ := hQ17
          have N17 := Fr.app N16 N17q
          refine OGo.st st17 ?_
          show OGo p e below s _ _ _ (T17.setTop (mkF m 83 #[.val (.int p0), .val (.int p1), .val (.int p2), .val (.int p3), .val (.int (2 : Int32)), .val (.ref b11), .val (.int j66_2_0), .val (.int (f1L2 (nar .byte (p1.toInt8.toInt32)))), .unset] [(.int (f1L5 (11 : Int32)))]))
          refine OGo.st (fun _ k => XS.istore X17.here hx rfl (hb hby at_83) rfl (l' := #[.val (.int p0), .val (.int p1), .val (.int p2), .val (.int p3), .val (.int (2 : Int32)), .val (.ref b11), .val (.int j66_2_0), .val (.int (f1L2 (nar .byte (p1.toInt8.toInt32)))), .val (.int (f1L5 (11 : Int32)))]) rfl k) ?_
          show OGo p e below s _ _ _ (T17.setTop (mkF m 85 #[.val (.int p0), .val (.int p1), .val (.int p2), .val (.int p3), .val (.int (2 : Int32)), .val (.ref b11), .val (.int j66_2_0), .val (.int (f1L2 (nar .byte (p1.toInt8.toInt32)))), .val (.int (f1L5 (11 : Int32)))] []))
          refine OGo.st (fun _ k => XS.iload X17.here hx rfl (hb hby at_85) rfl k) ?_
          show OGo p e below s _ _ _ (T17.setTop (mkF m 87 #[.val (.int p0), .val (.int p1), .val (.int p2), .val (.int p3), .val (.int (2 : Int32)), .val (.ref b11), .val (.int j66_2_0), .val (.int (f1L2 (nar .byte (p1.toInt8.toInt32)))), .val (.int (f1L5 (11 : Int32)))] [(.int (f1L2 (nar .byte (p1.toInt8.toInt32))))]))
          refine OGo.st (fun _ k => XS.iload X17.here hx rfl (hb hby at_87) rfl k) ?_
          show OGo p e below s _ _ _ (T17.setTop (mkF m 89 #[.val (.int p0), .val (.int p1), .val (.int p2), .val (.int p3), .val (.int (2 : Int32)), .val (.ref b11), .val (.int j66_2_0), .val (.int (f1L2 (nar .byte (p1.toInt8.toInt32)))), .val (.int (f1L5 (11 : Int32)))] [(.int j66_2_0), (.int (f1L2 (nar .byte (p1.toInt8.toInt32))))]))
          by_cases hc89 : (f1L2 (nar .byte (p1.toInt8.toInt32))) = j66_2_0
          · refine OGo.st (fun _ k => XS.icmpNo X17.here hx rfl (hb hby at_89) rfl (teq hc89).2 k) ?_
            show OGo p e below s _ _ _ (T17.setTop (mkF m 92 #[.val (.int p0), .val (.int p1), .val (.int p2), .val (.int p3), .val (.int (2 : Int32)), .val (.ref b11), .val (.int j66_2_0), .val (.int (f1L2 (nar .byte (p1.toInt8.toInt32)))), .val (.int (f1L5 (11 : Int32)))] []))
            refine OGo.st (fun _ k => XS.iload X17.here hx rfl (hb hby at_92) rfl k) ?_
            show OGo p e below s _ _ _ (T17.setTop (mkF m 94 #[.val (.int p0), .val (.int p1), .val (.int p2), .val (.int p3), .val (.int (2 : Int32)), .val (.ref b11), .val (.int j66_2_0), .val (.int (f1L2 (nar .byte (p1.toInt8.toInt32)))), .val (.int (f1L5 (11 : Int32)))] [(.int (f1L5 (11 : Int32)))]))
            by_cases hc94 : (f1L5 (11 : Int32)) = (0 : Int32)
            · refine OGo.st (fun _ k => XS.ifYes X17.here hx rfl (pc0 := 94) (pc' := 101) rfl (hb hby at_94) rfl ((if0 _ _).trans (teq hc94).1) (by decide) (by decide) k) ?_
              show OGo p e below s _ _ _ (T17.setTop (mkF m 101 #[.val (.int p0), .val (.int p1), .val (.int p2), .val (.int p3), .val (.int (2 : Int32)), .val (.ref b11), .val (.int j66_2_0), .val (.int (f1L2 (nar .byte (p1.toInt8.toInt32)))), .val (.int (f1L5 (11 : Int32)))] []))
              refine OGo.st (fun _ k => XS.iconst X17.here hx rfl (hb hby at_101) k) ?_
              show OGo p e below s _ _ _ (T17.setTop (mkF m 102 #[.val (.int p0), .val (.int p1), .val (.int p2), .val (.int p3), .val (.int (2 : Int32)), .val (.ref b11), .val (.int j66_2_0), .val (.int (f1L2 (nar .byte (p1.toInt8.toInt32)))), .val (.int (f1L5 (11 : Int32)))] [(.int (0 : Int32))]))
              exact oretN X17 hx Bd.notSynchronized (t := .boolean) Bd.returns (by simp) (hb hby at_102) (z' := (0 : Int32)) (by decide) e17 ⟨(congrArg (fun z => some (Value.int z)) (show (0 : Int32) = f0 p0 p1 p2 p3 from Eq.symm (hf66_2_0.trans (by unfold f0_66_2; exact (if_pos hc89).trans (if_pos hc94))))), N17⟩ (by decide) (by decide)
            · refine OGo.st (fun _ k => XS.ifNo X17.here hx rfl (hb hby at_94) rfl ((if0 _ _).trans (feq hc94).1) k) ?_
              show OGo p e below s _ _ _ (T17.setTop (mkF m 97 #[.val (.int p0), .val (.int p1), .val (.int p2), .val (.int p3), .val (.int (2 : Int32)), .val (.ref b11), .val (.int j66_2_0), .val (.int (f1L2 (nar .byte (p1.toInt8.toInt32)))), .val (.int (f1L5 (11 : Int32)))] []))
              refine OGo.st (fun _ k => XS.iconst X17.here hx rfl (hb hby at_97) k) ?_
              show OGo p e below s _ _ _ (T17.setTop (mkF m 98 #[.val (.int p0), .val (.int p1), .val (.int p2), .val (.int p3), .val (.int (2 : Int32)), .val (.ref b11), .val (.int j66_2_0), .val (.int (f1L2 (nar .byte (p1.toInt8.toInt32)))), .val (.int (f1L5 (11 : Int32)))] [(.int (1 : Int32))]))
              refine OGo.st (fun _ k => XS.goto X17.here hx rfl (pc0 := 98) (pc' := 102) rfl (hb hby at_98) (by decide) (by decide) k) ?_
              show OGo p e below s _ _ _ (T17.setTop (mkF m 102 #[.val (.int p0), .val (.int p1), .val (.int p2), .val (.int p3), .val (.int (2 : Int32)), .val (.ref b11), .val (.int j66_2_0), .val (.int (f1L2 (nar .byte (p1.toInt8.toInt32)))), .val (.int (f1L5 (11 : Int32)))] [(.int (1 : Int32))]))
              exact oretN X17 hx Bd.notSynchronized (t := .boolean) Bd.returns (by simp) (hb hby at_102) (z' := (1 : Int32)) (by decide) e17 ⟨(congrArg (fun z => some (Value.int z)) (show (1 : Int32) = f0 p0 p1 p2 p3 from Eq.symm (hf66_2_0.trans (by unfold f0_66_2; exact (if_pos hc89).trans (if_neg hc94))))), N17⟩ (by decide) (by decide)
          · refine OGo.st (fun _ k => XS.icmpYes X17.here hx rfl (pc0 := 89) (pc' := 101) rfl (hb hby at_89) rfl (feq hc89).2 (by decide) (by decide) k) ?_
            show OGo p e below s _ _ _ (T17.setTop (mkF m 101 #[.val (.int p0), .val (.int p1), .val (.int p2), .val (.int p3), .val (.int (2 : Int32)), .val (.ref b11), .val (.int j66_2_0), .val (.int (f1L2 (nar .byte (p1.toInt8.toInt32)))), .val (.int (f1L5 (11 : Int32)))] []))
            refine OGo.st (fun _ k => XS.iconst X17.here hx rfl (hb hby at_101) k) ?_
            show OGo p e below s _ _ _ (T17.setTop (mkF m 102 #[.val (.int p0), .val (.int p1), .val (.int p2), .val (.int p3), .val (.int (2 : Int32)), .val (.ref b11), .val (.int j66_2_0), .val (.int (f1L2 (nar .byte (p1.toInt8.toInt32)))), .val (.int (f1L5 (11 : Int32)))] [(.int (0 : Int32))]))
            exact oretN X17 hx Bd.notSynchronized (t := .boolean) Bd.returns (by simp) (hb hby at_102) (z' := (0 : Int32)) (by decide) e17 ⟨(congrArg (fun z => some (Value.int z)) (show (0 : Int32) = f0 p0 p1 p2 p3 from Eq.symm (hf66_2_0.trans (by unfold f0_66_2; exact if_neg hc89)))), N17⟩ (by decide) (by decide)
        by_cases hc58 : (p1 &&& (255 : Int32)) = (11 : Int32)
        · refine OGo.st (fun _ k => XS.icmpNo X13.here hx rfl (hb hby at_58) rfl (teq hc58).2 k) ?_
          show OGo p e below s _ _ _ (T13.setTop (mkF m 61 #[.val (.int p0), .val (.int p1), .val (.int p2), .val (.int p3), .val (.int (2 : Int32)), .val (.ref b11), .unset, .unset, .unset] []))
          refine OGo.st (fun _ k => XS.iconst X13.here hx rfl (hb hby at_61) k) ?_
          show OGo p e below s _ _ _ (T13.setTop (mkF m 62 #[.val (.int p0), .val (.int p1), .val (.int p2), .val (.int p3), .val (.int (2 : Int32)), .val (.ref b11), .unset, .unset, .unset] [(.int (1 : Int32))]))
          refine OGo.st (fun _ k => XS.goto X13.here hx rfl (pc0 := 62) (pc' := 66) rfl (hb hby at_62) (by decide) (by decide) k) ?_
          show OGo p e below s _ _ _ (T13.setTop (mkF m 66 #[.val (.int p0), .val (.int p1), .val (.int p2), .val (.int p3), .val (.int (2 : Int32)), .val (.ref b11), .unset, .unset, .unset] [(.int (1 : Int32))]))
          exact hj66_2 (1 : Int32) (by unfold f0; exact (if_neg hc5).trans ((if_neg hc5_2).trans ((if_pos hc5_3).trans (if_pos hc58))))
        · refine OGo.st (fun _ k => XS.icmpYes X13.here hx rfl (pc0 := 58) (pc' := 65) rfl (hb hby at_58) rfl (feq hc58).2 (by decide) (by decide) k) ?_
          show OGo p e below s _ _ _ (T13.setTop (mkF m 65 #[.val (.int p0), .val (.int p1), .val (.int p2), .val (.int p3), .val (.int (2 : Int32)), .val (.ref b11), .unset, .unset, .unset] []))
          refine OGo.st (fun _ k => XS.iconst X13.here hx rfl (hb hby at_65) k) ?_
          show OGo p e below s _ _ _ (T13.setTop (mkF m 66 #[.val (.int p0), .val (.int p1), .val (.int p2), .val (.int p3), .val (.int (2 : Int32)), .val (.ref b11), .unset, .unset, .unset] [(.int (0 : Int32))]))
          exact hj66_2 (0 : Int32) (by unfold f0; exact (if_neg hc5).trans ((if_neg hc5_2).trans ((if_pos hc5_3).trans (if_neg hc58))))
      · have hc5_4 : (p0 &&& (3 : Int32)) = (3 : Int32) := own_last3 _ hc5 hc5_2 hc5_3
        rw [hc5_4]
        show OGo p e below s _ _ _ (s₁.setTop (mkF m 5 #[.val (.int p0), .val (.int p1), .val (.int p2), .val (.int p3), .val (.int (3 : Int32)), .unset, .unset, .unset, .unset] []))
        refine OGo.st (fun _ k => XS.iload X0.here hx rfl (hb hby at_5) rfl k) ?_
        show OGo p e below s _ _ _ (s₁.setTop (mkF m 7 #[.val (.int p0), .val (.int p1), .val (.int p2), .val (.int p3), .val (.int (3 : Int32)), .unset, .unset, .unset, .unset] [(.int (3 : Int32))]))
        obtain ⟨T18, h18, k18, X18, e18, E18, A18, st18⟩ := newP X0 hx hZ (hw _ (List.mem_of_getElem? (i := 0) rfl)) e0 (g := (mkF m 7 #[.val (.int p0), .val (.int p1), .val (.int p2), .val (.int p3), .val (.int (3 : Int32)), .unset, .unset, .unset, .unset] [(.int (3 : Int32))])) rfl (hb hby at_7) rfl (by decide) (cap := 3) (by decide) (by decide) (by decide) (by decide)
        obtain ⟨b18, g18⟩ : ∃ z, z = h0.size := ⟨_, rfl⟩
        rw [← g18] at A18 st18
        refine OGo.st st18 ?_
        have g_b18 : n0 ≤ b18 := Nat.le_trans Z0 (Nat.le_of_eq g18.symm)
        have sz_b18 : h0.size ≤ b18 := Nat.le_trans (Keep.refl h0 []).1 (Nat.le_of_eq g18.symm)
        have K18 : Keep h0 h18 [] := (Keep.refl h0 _).ext E18
        have Z18 : n0 ≤ h18.size := Nat.le_trans Z0 E18.1
        have V_b18 : Arv Z h18 b18 k18 .byte (3 : Int32) [(.int (0 : Int32)), (.int (0 : Int32)), (.int (0 : Int32))] (.int (0 : Int32)) := (Arv.new A18 (by decide)).pad (pad_rep [] (.int (0 : Int32)) 3)
        show OGo p e below s _ _ _ (T18.setTop (mkF m 9 #[.val (.int p0), .val (.int p1), .val (.int p2), .val (.int p3), .val (.int (3 : Int32)), .unset, .unset, .unset, .unset] [(.ref b18)]))
        refine OGo.st (fun _ k => XS.astore X18.here hx rfl (hb hby at_9) rfl rfl (l' := #[.val (.int p0), .val (.int p1), .val (.int p2), .val (.int p3), .val (.int (3 : Int32)), .val (.ref b18), .unset, .unset, .unset]) rfl k) ?_
        show OGo p e below s _ _ _ (T18.setTop (mkF m 11 #[.val (.int p0), .val (.int p1), .val (.int p2), .val (.int p3), .val (.int (3 : Int32)), .val (.ref b18), .unset, .unset, .unset] []))
        refine OGo.st (fun _ k => XS.iload X18.here hx rfl (hb hby at_11) rfl k) ?_
        show OGo p e below s _ _ _ (T18.setTop (mkF m 13 #[.val (.int p0), .val (.int p1), .val (.int p2), .val (.int p3), .val (.int (3 : Int32)), .val (.ref b18), .unset, .unset, .unset] [(.int (3 : Int32))]))
        refine OGo.st (fun _ k => XS.ifNo X18.here hx rfl (hb hby at_13) rfl ((if0 _ _).trans (tlt (by decide : (0 : Int32) < (3 : Int32))).2.2.2) k) ?_
        show OGo p e below s _ _ _ (T18.setTop (mkF m 16 #[.val (.int p0), .val (.int p1), .val (.int p2), .val (.int p3), .val (.int (3 : Int32)), .val (.ref b18), .unset, .unset, .unset] []))
        refine OGo.st (fun _ k => XS.aload X18.here hx rfl (hb hby at_16) rfl rfl k) ?_
        show OGo p e below s _ _ _ (T18.setTop (mkF m 18 #[.val (.int p0), .val (.int p1), .val (.int p2), .val (.int p3), .val (.int (3 : Int32)), .val (.ref b18), .unset, .unset, .unset] [(.ref b18)]))
        refine OGo.st (fun _ k => XS.iconst X18.here hx rfl (hb hby at_18) k) ?_
        show OGo p e below s _ _ _ (T18.setTop (mkF m 19 #[.val (.int p0), .val (.int p1), .val (.int p2), .val (.int p3), .val (.int (3 : Int32)), .val (.ref b18), .unset, .unset, .unset] [(.int (0 : Int32)), (.ref b18)]))
        refine OGo.st (fun _ k => XS.iloadN X18.here hx rfl (hb hby at_19) rfl k) ?_
        show OGo p e below s _ _ _ (T18.setTop (mkF m 20 #[.val (.int p0), .val (.int p1), .val (.int p2), .val (.int p3), .val (.int (3 : Int32)), .val (.ref b18), .unset, .unset, .unset] [(.int p1), (.int (0 : Int32)), (.ref b18)]))
        refine OGo.st (fun _ k => XS.i2b X18.here hx rfl (hb hby at_20) rfl k) ?_
        show OGo p e below s _ _ _ (T18.setTop (mkF m 21 #[.val (.int p0), .val (.int p1), .val (.int p2), .val (.int p3), .val (.int (3 : Int32)), .val (.ref b18), .unset, .unset, .unset] [(.int (p1.toInt8.toInt32)), (.int (0 : Int32)), (.ref b18)]))
        obtain ⟨cl19, Ar19, q19, Sz19, Nn19, Hs19, Gs19⟩ := id V_b18
        have hin19 : ¬ ((0 : Int32) < 0 ∨ cl19.slots.size ≤ ((0 : Int32)).toNatClampNeg) := inb_of Sz19 ⟨by decide, by decide⟩
        obtain ⟨T19, h19, X19, e19, W19, st19⟩ := stB X18 hx hZ e18 Ar19 (j := (0 : Int32)) hin19 (g := (mkF m 21 #[.val (.int p0), .val (.int p1), .val (.int p2), .val (.int p3), .val (.int (3 : Int32)), .val (.ref b18), .unset, .unset, .unset] [(.int (p1.toInt8.toInt32)), (.int (0 : Int32)), (.ref b18)])) rfl rfl (hb hby at_21)
        refine OGo.st st19 ?_
        have K19 : Keep h0 h19 [] := (K18).wr W19 (Or.inr sz_b18)
        have N19 := Fr.snoc X19 N0 g_b18
        have Z19 : n0 ≤ h19.size := Nat.le_trans Z18 (Keep.of_wr W19).1
        have V19 : Arv Z h19 b18 k18 .byte (3 : Int32) [(.int (nar .byte (p1.toInt8.toInt32))), (.int (0 : Int32)), (.int (0 : Int32))] (.int (0 : Int32)) := Arv.set Ar19 q19 Sz19 Nn19 Hs19 Gs19 (fits_nar_byte _) W19 0 rfl (Nat.le_of_ble_eq_true rfl)
        show OGo p e below s _ _ _ (T19.setTop (mkF m 22 #[.val (.int p0), .val (.int p1), .val (.int p2), .val (.int p3), .val (.int (3 : Int32)), .val (.ref b18), .unset, .unset, .unset] []))
        refine OGo.st (fun _ k => XS.iload X19.here hx rfl (hb hby at_22) rfl k) ?_
        show OGo p e below s _ _ _ (T19.setTop (mkF m 24 #[.val (.int p0), .val (.int p1), .val (.int p2), .val (.int p3), .val (.int (3 : Int32)), .val (.ref b18), .unset, .unset, .unset] [(.int (3 : Int32))]))
        refine OGo.st (fun _ k => XS.iconst X19.here hx rfl (hb hby at_24) k) ?_
        show OGo p e below s _ _ _ (T19.setTop (mkF m 25 #[.val (.int p0), .val (.int p1), .val (.int p2), .val (.int p3), .val (.int (3 : Int32)), .val (.ref b18), .unset, .unset, .unset] [(.int (1 : Int32)), (.int (3 : Int32))]))
        refine OGo.st (fun _ k => XS.icmpNo X19.here hx rfl (hb hby at_25) rfl (tlt (by decide : (1 : Int32) < (3 : Int32))).2.2.2 k) ?_
        show OGo p e below s _ _ _ (T19.setTop (mkF m 28 #[.val (.int p0), .val (.int p1), .val (.int p2), .val (.int p3), .val (.int (3 : Int32)), .val (.ref b18), .unset, .unset, .unset] []))
        refine OGo.st (fun _ k => XS.aload X19.here hx rfl (hb hby at_28) rfl rfl k) ?_
        show OGo p e below s _ _ _ (T19.setTop (mkF m 30 #[.val (.int p0), .val (.int p1), .val (.int p2), .val (.int p3), .val (.int (3 : Int32)), .val (.ref b18), .unset, .unset, .unset] [(.ref b18)]))
        refine OGo.st (fun _ k => XS.iconst X19.here hx rfl (hb hby at_30) k) ?_
        show OGo p e below s _ _ _ (T19.setTop (mkF m 31 #[.val (.int p0), .val (.int p1), .val (.int p2), .val (.int p3), .val (.int (3 : Int32)), .val (.ref b18), .unset, .unset, .unset] [(.int (1 : Int32)), (.ref b18)]))
        refine OGo.st (fun _ k => XS.iloadN X19.here hx rfl (hb hby at_31) rfl k) ?_
        show OGo p e below s _ _ _ (T19.setTop (mkF m 32 #[.val (.int p0), .val (.int p1), .val (.int p2), .val (.int p3), .val (.int (3 : Int32)), .val (.ref b18), .unset, .unset, .unset] [(.int p2), (.int (1 : Int32)), (.ref b18)]))
        refine OGo.st (fun _ k => XS.i2b X19.here hx rfl (hb hby at_32) rfl k) ?_
        show OGo p e below s _ _ _ (T19.setTop (mkF m 33 #[.val (.int p0), .val (.int p1), .val (.int p2), .val (.int p3), .val (.int (3 : Int32)), .val (.ref b18), .unset, .unset, .unset] [(.int (p2.toInt8.toInt32)), (.int (1 : Int32)), (.ref b18)]))
        obtain ⟨cl20, Ar20, q20, Sz20, Nn20, Hs20, Gs20⟩ := id V19
        have hin20 : ¬ ((1 : Int32) < 0 ∨ cl20.slots.size ≤ ((1 : Int32)).toNatClampNeg) := inb_of Sz20 ⟨by decide, by decide⟩
        obtain ⟨T20, h20, X20, e20, W20, st20⟩ := stB X19 hx hZ e19 Ar20 (j := (1 : Int32)) hin20 (g := (mkF m 33 #[.val (.int p0), .val (.int p1), .val (.int p2), .val (.int p3), .val (.int (3 : Int32)), .val (.ref b18), .unset, .unset, .unset] [(.int (p2.toInt8.toInt32)), (.int (1 : Int32)), (.ref b18)])) rfl rfl (hb hby at_33)
        refine OGo.st st20 ?_
        have K20 : Keep h0 h20 [] := (K19).wr W20 (Or.inr sz_b18)
        have N20 := Fr.snoc X20 N19 g_b18
        have Z20 : n0 ≤ h20.size := Nat.le_trans Z19 (Keep.of_wr W20).1
        have V20 : Arv Z h20 b18 k18 .byte (3 : Int32) [(.int (nar .byte (p1.toInt8.toInt32))), (.int (nar .byte (p2.toInt8.toInt32))), (.int (0 : Int32))] (.int (0 : Int32)) := Arv.set Ar20 q20 Sz20 Nn20 Hs20 Gs20 (fits_nar_byte _) W20 1 rfl (Nat.le_of_ble_eq_true rfl)
        show OGo p e below s _ _ _ (T20.setTop (mkF m 34 #[.val (.int p0), .val (.int p1), .val (.int p2), .val (.int p3), .val (.int (3 : Int32)), .val (.ref b18), .unset, .unset, .unset] []))
        refine OGo.st (fun _ k => XS.iload X20.here hx rfl (hb hby at_34) rfl k) ?_
        show OGo p e below s _ _ _ (T20.setTop (mkF m 36 #[.val (.int p0), .val (.int p1), .val (.int p2), .val (.int p3), .val (.int (3 : Int32)), .val (.ref b18), .unset, .unset, .unset] [(.int (3 : Int32))]))
        refine OGo.st (fun _ k => XS.iconst X20.here hx rfl (hb hby at_36) k) ?_
        show OGo p e below s _ _ _ (T20.setTop (mkF m 37 #[.val (.int p0), .val (.int p1), .val (.int p2), .val (.int p3), .val (.int (3 : Int32)), .val (.ref b18), .unset, .unset, .unset] [(.int (2 : Int32)), (.int (3 : Int32))]))
        refine OGo.st (fun _ k => XS.icmpNo X20.here hx rfl (hb hby at_37) rfl (tlt (by decide : (2 : Int32) < (3 : Int32))).2.2.2 k) ?_
        show OGo p e below s _ _ _ (T20.setTop (mkF m 40 #[.val (.int p0), .val (.int p1), .val (.int p2), .val (.int p3), .val (.int (3 : Int32)), .val (.ref b18), .unset, .unset, .unset] []))
        refine OGo.st (fun _ k => XS.aload X20.here hx rfl (hb hby at_40) rfl rfl k) ?_
        show OGo p e below s _ _ _ (T20.setTop (mkF m 42 #[.val (.int p0), .val (.int p1), .val (.int p2), .val (.int p3), .val (.int (3 : Int32)), .val (.ref b18), .unset, .unset, .unset] [(.ref b18)]))
        refine OGo.st (fun _ k => XS.iconst X20.here hx rfl (hb hby at_42) k) ?_
        show OGo p e below s _ _ _ (T20.setTop (mkF m 43 #[.val (.int p0), .val (.int p1), .val (.int p2), .val (.int p3), .val (.int (3 : Int32)), .val (.ref b18), .unset, .unset, .unset] [(.int (2 : Int32)), (.ref b18)]))
        refine OGo.st (fun _ k => XS.iloadN X20.here hx rfl (hb hby at_43) rfl k) ?_
        show OGo p e below s _ _ _ (T20.setTop (mkF m 44 #[.val (.int p0), .val (.int p1), .val (.int p2), .val (.int p3), .val (.int (3 : Int32)), .val (.ref b18), .unset, .unset, .unset] [(.int p3), (.int (2 : Int32)), (.ref b18)]))
        refine OGo.st (fun _ k => XS.i2b X20.here hx rfl (hb hby at_44) rfl k) ?_
        show OGo p e below s _ _ _ (T20.setTop (mkF m 45 #[.val (.int p0), .val (.int p1), .val (.int p2), .val (.int p3), .val (.int (3 : Int32)), .val (.ref b18), .unset, .unset, .unset] [(.int (p3.toInt8.toInt32)), (.int (2 : Int32)), (.ref b18)]))
        obtain ⟨cl21, Ar21, q21, Sz21, Nn21, Hs21, Gs21⟩ := id V20
        have hin21 : ¬ ((2 : Int32) < 0 ∨ cl21.slots.size ≤ ((2 : Int32)).toNatClampNeg) := inb_of Sz21 ⟨by decide, by decide⟩
        obtain ⟨T21, h21, X21, e21, W21, st21⟩ := stB X20 hx hZ e20 Ar21 (j := (2 : Int32)) hin21 (g := (mkF m 45 #[.val (.int p0), .val (.int p1), .val (.int p2), .val (.int p3), .val (.int (3 : Int32)), .val (.ref b18), .unset, .unset, .unset] [(.int (p3.toInt8.toInt32)), (.int (2 : Int32)), (.ref b18)])) rfl rfl (hb hby at_45)
        refine OGo.st st21 ?_
        have K21 : Keep h0 h21 [] := (K20).wr W21 (Or.inr sz_b18)
        have N21 := Fr.snoc X21 N20 g_b18
        have Z21 : n0 ≤ h21.size := Nat.le_trans Z20 (Keep.of_wr W21).1
        have V21 : Arv Z h21 b18 k18 .byte (3 : Int32) [(.int (nar .byte (p1.toInt8.toInt32))), (.int (nar .byte (p2.toInt8.toInt32))), (.int (nar .byte (p3.toInt8.toInt32)))] (.int (0 : Int32)) := Arv.set Ar21 q21 Sz21 Nn21 Hs21 Gs21 (fits_nar_byte _) W21 2 rfl (Nat.le_of_ble_eq_true rfl)
        show OGo p e below s _ _ _ (T21.setTop (mkF m 46 #[.val (.int p0), .val (.int p1), .val (.int p2), .val (.int p3), .val (.int (3 : Int32)), .val (.ref b18), .unset, .unset, .unset] []))
        refine OGo.st (fun _ k => XS.iload X21.here hx rfl (hb hby at_46) rfl k) ?_
        show OGo p e below s _ _ _ (T21.setTop (mkF m 48 #[.val (.int p0), .val (.int p1), .val (.int p2), .val (.int p3), .val (.int (3 : Int32)), .val (.ref b18), .unset, .unset, .unset] [(.int (3 : Int32))]))
        refine OGo.st (fun _ k => XS.ifNo X21.here hx rfl (hb hby at_48) rfl ((if0 _ _).trans (feq (by decide : ¬ ((3 : Int32) = (0 : Int32)))).1) k) ?_
        show OGo p e below s _ _ _ (T21.setTop (mkF m 51 #[.val (.int p0), .val (.int p1), .val (.int p2), .val (.int p3), .val (.int (3 : Int32)), .val (.ref b18), .unset, .unset, .unset] []))
        refine OGo.st (fun _ k => XS.iloadN X21.here hx rfl (hb hby at_51) rfl k) ?_
        show OGo p e below s _ _ _ (T21.setTop (mkF m 52 #[.val (.int p0), .val (.int p1), .val (.int p2), .val (.int p3), .val (.int (3 : Int32)), .val (.ref b18), .unset, .unset, .unset] [(.int p1)]))
        refine OGo.st (fun _ k => XS.sipush X21.here hx rfl (hb hby at_52) k) ?_
        show OGo p e below s _ _ _ (T21.setTop (mkF m 55 #[.val (.int p0), .val (.int p1), .val (.int p2), .val (.int p3), .val (.int (3 : Int32)), .val (.ref b18), .unset, .unset, .unset] [(.int (255 : Int32)), (.int p1)]))
        refine OGo.st (fun _ k => XS.iand X21.here hx rfl (hb hby at_55) rfl k) ?_
        show OGo p e below s _ _ _ (T21.setTop (mkF m 56 #[.val (.int p0), .val (.int p1), .val (.int p2), .val (.int p3), .val (.int (3 : Int32)), .val (.ref b18), .unset, .unset, .unset] [(.int (p1 &&& (255 : Int32)))]))
        refine OGo.st (fun _ k => XS.bipush X21.here hx rfl (hb hby at_56) k) ?_
        show OGo p e below s _ _ _ (T21.setTop (mkF m 58 #[.val (.int p0), .val (.int p1), .val (.int p2), .val (.int p3), .val (.int (3 : Int32)), .val (.ref b18), .unset, .unset, .unset] [(.int (11 : Int32)), (.int (p1 &&& (255 : Int32)))]))
        have hj66_3 : ∀ (j66_3_0 : Int32) (hf66_3_0 : f0 p0 p1 p2 p3 = f0_66_3 p0 p1 p2 p3 j66_3_0), OGo p e below s (Q0 Z p0 p1 p2 p3 h0 n0) room_1.cells room_1.slots (T21.setTop (mkF m 66 #[.val (.int p0), .val (.int p1), .val (.int p2), .val (.int p3), .val (.int (3 : Int32)), .val (.ref b18), .unset, .unset, .unset] [(.int j66_3_0)])) := by
          intro j66_3_0 hf66_3_0
          refine OGo.st (fun _ k => XS.istore X21.here hx rfl (hb hby at_66) rfl (l' := #[.val (.int p0), .val (.int p1), .val (.int p2), .val (.int p3), .val (.int (3 : Int32)), .val (.ref b18), .val (.int j66_3_0), .unset, .unset]) rfl k) ?_
          show OGo p e below s _ _ _ (T21.setTop (mkF m 68 #[.val (.int p0), .val (.int p1), .val (.int p2), .val (.int p3), .val (.int (3 : Int32)), .val (.ref b18), .val (.int j66_3_0), .unset, .unset] []))
          refine OGo.st (fun _ k => XS.aload X21.here hx rfl (hb hby at_68) rfl rfl k) ?_
          show OGo p e below s _ _ _ (T21.setTop (mkF m 70 #[.val (.int p0), .val (.int p1), .val (.int p2), .val (.int p3), .val (.int (3 : Int32)), .val (.ref b18), .val (.int j66_3_0), .unset, .unset] [(.ref b18)]))
          obtain ⟨_, _, ⟨T23, L23, k23, n23⟩, -, X23, ⟨Lc23, hQ23, l23, y23, z23⟩, st23⟩ := Jvm.LawKit.callS X21 hx (y := (⟨"com/example/assaywire/assaywire/protocol/Mllp", "startsBlock", "([B)Z"⟩ : MethodName)) hown (mvT hZ (hw _ (List.mem_of_getElem? (i := 1) rfl))) (mvT hZ (hw _ (List.mem_of_getElem? (i := 2) rfl))) (mvT hZ (hw _ (List.mem_of_getElem? (i := 3) rfl))) (mvT hZ (hw _ (List.mem_of_getElem? (i := 4) rfl))) (by decide) (backOf (W := 0) (rm1L3 l Z a0 hw [] b18 k18 (nar .byte (p1.toInt8.toInt32)) (nar .byte (p2.toInt8.toInt32)) (nar .byte (p3.toInt8.toInt32)) h21 n0 Z21 V21) hZ (hw _ (List.mem_of_getElem? (i := 4) rfl)) (hw _ (List.mem_of_getElem? (i := 3) rfl)) (by decide) (by decide)) (g := (mkF m 70 #[.val (.int p0), .val (.int p1), .val (.int p2), .val (.int p3), .val (.int (3 : Int32)), .val (.ref b18), .val (.int j66_3_0), .unset, .unset] [(.ref b18)])) rfl (by rw [hml]; rfl) (argsL := [(.ref b18)]) (rest := []) (lenOf pd_0_0 rfl) rfl (by show 2 * 0 + _ ≤ _; exact Nat.le_of_eq rfl) (hb hby at_70) (fun _ _ => ⟨rfl, e21, (by decide : 1 + 0 ≤ _), (by decide : 3 + 0 ≤ _)⟩)
          dsimp only [Pt.U, Pt.locs, Pt.cells, Pt.slots] at X23 l23 y23 z23 st23 hQ23
          subst l23 y23 z23
          obtain ⟨rfl, N23q, e23⟩ := hQ23
          have N23 := Fr.app N21 N23q
          refine OGo.st st23 ?_
          show OGo p e below s _ _ _ (T23.setTop (mkF m 73 #[.val (.int p0), .val (.int p1), .val (.int p2), .val (.int p3), .val (.int (3 : Int32)), .val (.ref b18), .val (.int j66_3_0), .unset, .unset] [(.int (f1L3 (nar .byte (p1.toInt8.toInt32))))]))
          refine OGo.st (fun _ k => XS.istore X23.here hx rfl (hb hby at_73) rfl (l' := #[.val (.int p0), .val (.int p1), .val (.int p2), .val (.int p3), .val (.int (3 : Int32)), .val (.ref b18), .val (.int j66_3_0), .val (.int (f1L3 (nar .byte (p1.toInt8.toInt32)))), .unset]) rfl k) ?_
          show OGo p e below s _ _ _ (T23.setTop (mkF m 75 #[.val (.int p0), .val (.int p1), .val (.int p2), .val (.int p3), .val (.int (3 : Int32)), .val (.ref b18), .val (.int j66_3_0), .val (.int (f1L3 (nar .byte (p1.toInt8.toInt32)))), .unset] []))
          refine OGo.st (fun _ k => XS.aload X23.here hx rfl (hb hby at_75) rfl rfl k) ?_
          show OGo p e below s _ _ _ (T23.setTop (mkF m 77 #[.val (.int p0), .val (.int p1), .val (.int p2), .val (.int p3), .val (.int (3 : Int32)), .val (.ref b18), .val (.int j66_3_0), .val (.int (f1L3 (nar .byte (p1.toInt8.toInt32)))), .unset] [(.ref b18)]))
          obtain ⟨_, _, ⟨T24, L24, k24, n24⟩, -, X24, ⟨Lc24, hQ24, l24, y24, z24⟩, st24⟩ := Jvm.LawKit.callS X23 hx (y := (⟨"com/example/assaywire/assaywire/protocol/Mllp", "wrap", "([B)[B"⟩ : MethodName)) hown (mvT hZ (hw _ (List.mem_of_getElem? (i := 5) rfl))) (mvT hZ (hw _ (List.mem_of_getElem? (i := 6) rfl))) (mvT hZ (hw _ (List.mem_of_getElem? (i := 3) rfl))) (mvT hZ (hw _ (List.mem_of_getElem? (i := 7) rfl))) (by decide) (backOf (W := 0) (rm2L3 l Z a0 hw [] b18 k18 (nar .byte (p1.toInt8.toInt32)) (nar .byte (p2.toInt8.toInt32)) (nar .byte (p3.toInt8.toInt32)) h21 n0 Z21 V21) hZ (hw _ (List.mem_of_getElem? (i := 7) rfl)) (hw _ (List.mem_of_getElem? (i := 3) rfl)) (by decide) (by decide)) (g := (mkF m 77 #[.val (.int p0), .val (.int p1), .val (.int p2), .val (.int p3), .val (.int (3 : Int32)), .val (.ref b18), .val (.int j66_3_0), .val (.int (f1L3 (nar .byte (p1.toInt8.toInt32)))), .unset] [(.ref b18)])) rfl (by rw [hml]; rfl) (argsL := [(.ref b18)]) (rest := []) (lenOf pd_0_1 rfl) rfl (by show 2 * 0 + _ ≤ _; exact Nat.le_of_eq rfl) (hb hby at_77) (fun _ _ => ⟨rfl, e23, (by decide : 1 + 1 ≤ _), (by decide : 3 + 6 ≤ _)⟩)
          dsimp only [Pt.U, Pt.locs, Pt.cells, Pt.slots] at X24 l24 y24 z24 st24 hQ24
          subst l24 y24 z24
          obtain ⟨b24, kk24, rfl, N24q, Kc24, szq24, g_b24, V24⟩ := hQ24
          have ne_b18_b24 : b18 ≠ b24 := Nat.ne_of_lt (Nat.lt_of_lt_of_le V21.lt szq24)
          have sz_b24 : h0.size ≤ b24 := Nat.le_trans (K21).1 szq24
          have V21_w24 := V21.keep Kc24 nin0
          have K24 : Keep h0 T24.heap [] := (K21).trans Kc24 all0
          have Z24 : n0 ≤ T24.heap.size := Nat.le_trans Z21 Kc24.1
          have V24 : Arv Z T24.heap b24 kk24 .byte (6 : Int32) [(.int (11 : Int32)), (.int (nar .byte (p1.toInt8.toInt32))), (.int (nar .byte (p2.toInt8.toInt32))), (.int (nar .byte (p3.toInt8.toInt32))), (.int (28 : Int32)), (.int (13 : Int32))] (.int (0 : Int32)) := V24
          have N24 := Fr.app N23 N24q
          refine OGo.st st24 ?_
          show OGo p e below s _ _ _ (T24.setTop (mkF m 80 #[.val (.int p0), .val (.int p1), .val (.int p2), .val (.int p3), .val (.int (3 : Int32)), .val (.ref b18), .val (.int j66_3_0), .val (.int (f1L3 (nar .byte (p1.toInt8.toInt32)))), .unset] [(.ref b24)]))
          obtain ⟨_, _, ⟨T25, L25, k25, n25⟩, -, X25, ⟨Lc25, hQ25, l25, y25, z25⟩, st25⟩ := Jvm.LawKit.callS X24 hx (y := (⟨"com/example/assaywire/assaywire/protocol/Mllp", "startsBlock", "([B)Z"⟩ : MethodName)) hown (mvT hZ (hw _ (List.mem_of_getElem? (i := 1) rfl))) (mvT hZ (hw _ (List.mem_of_getElem? (i := 2) rfl))) (mvT hZ (hw _ (List.mem_of_getElem? (i := 3) rfl))) (mvT hZ (hw _ (List.mem_of_getElem? (i := 4) rfl))) (by decide) (backOf (W := 0) (rm1L6 l Z a0 hw [] b24 kk24 (11 : Int32) (nar .byte (p1.toInt8.toInt32)) (nar .byte (p2.toInt8.toInt32)) (nar .byte (p3.toInt8.toInt32)) (28 : Int32) (13 : Int32) T24.heap n0 Z24 V24) hZ (hw _ (List.mem_of_getElem? (i := 4) rfl)) (hw _ (List.mem_of_getElem? (i := 3) rfl)) (by decide) (by decide)) (g := (mkF m 80 #[.val (.int p0), .val (.int p1), .val (.int p2), .val (.int p3), .val (.int (3 : Int32)), .val (.ref b18), .val (.int j66_3_0), .val (.int (f1L3 (nar .byte (p1.toInt8.toInt32)))), .unset] [(.ref b24)])) rfl (by rw [hml]; rfl) (argsL := [(.ref b24)]) (rest := []) (lenOf pd_0_0 rfl) rfl (by show 2 * 0 + _ ≤ _; exact Nat.le_of_eq rfl) (hb hby at_80) (fun _ _ => ⟨rfl, rfl, (by decide : 2 + 0 ≤ _), (by decide : 9 + 0 ≤ _)⟩)
          dsimp only [Pt.U, Pt.locs, Pt.cells, Pt.slots] at X25 l25 y25 z25 st25 hQ25
          subst l25 y25 z25
          obtain ⟨rfl, N25q, e25⟩ := hQ25
          have N25 := Fr.app N24 N25q
          refine OGo.st st25 ?_
          show OGo p e below s _ _ _ (T25.setTop (mkF m 83 #[.val (.int p0), .val (.int p1), .val (.int p2), .val (.int p3), .val (.int (3 : Int32)), .val (.ref b18), .val (.int j66_3_0), .val (.int (f1L3 (nar .byte (p1.toInt8.toInt32)))), .unset] [(.int (f1L6 (11 : Int32)))]))
          refine OGo.st (fun _ k => XS.istore X25.here hx rfl (hb hby at_83) rfl (l' := #[.val (.int p0), .val (.int p1), .val (.int p2), .val (.int p3), .val (.int (3 : Int32)), .val (.ref b18), .val (.int j66_3_0), .val (.int (f1L3 (nar .byte (p1.toInt8.toInt32)))), .val (.int (f1L6 (11 : Int32)))]) rfl k) ?_
          show OGo p e below s _ _ _ (T25.setTop (mkF m 85 #[.val (.int p0), .val (.int p1), .val (.int p2), .val (.int p3), .val (.int (3 : Int32)), .val (.ref b18), .val (.int j66_3_0), .val (.int (f1L3 (nar .byte (p1.toInt8.toInt32)))), .val (.int (f1L6 (11 : Int32)))] []))
          refine OGo.st (fun _ k => XS.iload X25.here hx rfl (hb hby at_85) rfl k) ?_
          show OGo p e below s _ _ _ (T25.setTop (mkF m 87 #[.val (.int p0), .val (.int p1), .val (.int p2), .val (.int p3), .val (.int (3 : Int32)), .val (.ref b18), .val (.int j66_3_0), .val (.int (f1L3 (nar .byte (p1.toInt8.toInt32)))), .val (.int (f1L6 (11 : Int32)))] [(.int (f1L3 (nar .byte (p1.toInt8.toInt32))))]))
          refine OGo.st (fun _ k => XS.iload X25.here hx rfl (hb hby at_87) rfl k) ?_
          show OGo p e below s _ _ _ (T25.setTop (mkF m 89 #[.val (.int p0), .val (.int p1), .val (.int p2), .val (.int p3), .val (.int (3 : Int32)), .val (.ref b18), .val (.int j66_3_0), .val (.int (f1L3 (nar .byte (p1.toInt8.toInt32)))), .val (.int (f1L6 (11 : Int32)))] [(.int j66_3_0), (.int (f1L3 (nar .byte (p1.toInt8.toInt32))))]))
          by_cases hc89 : (f1L3 (nar .byte (p1.toInt8.toInt32))) = j66_3_0
          · refine OGo.st (fun _ k => XS.icmpNo X25.here hx rfl (hb hby at_89) rfl (teq hc89).2 k) ?_
            show OGo p e below s _ _ _ (T25.setTop (mkF m 92 #[.val (.int p0), .val (.int p1), .val (.int p2), .val (.int p3), .val (.int (3 : Int32)), .val (.ref b18), .val (.int j66_3_0), .val (.int (f1L3 (nar .byte (p1.toInt8.toInt32)))), .val (.int (f1L6 (11 : Int32)))] []))
            refine OGo.st (fun _ k => XS.iload X25.here hx rfl (hb hby at_92) rfl k) ?_
            show OGo p e below s _ _ _ (T25.setTop (mkF m 94 #[.val (.int p0), .val (.int p1), .val (.int p2), .val (.int p3), .val (.int (3 : Int32)), .val (.ref b18), .val (.int j66_3_0), .val (.int (f1L3 (nar .byte (p1.toInt8.toInt32)))), .val (.int (f1L6 (11 : Int32)))] [(.int (f1L6 (11 : Int32)))]))
            by_cases hc94 : (f1L6 (11 : Int32)) = (0 : Int32)
            · refine OGo.st (fun _ k => XS.ifYes X25.here hx rfl (pc0 := 94) (pc' := 101) rfl (hb hby at_94) rfl ((if0 _ _).trans (teq hc94).1) (by decide) (by decide) k) ?_
              show OGo p e below s _ _ _ (T25.setTop (mkF m 101 #[.val (.int p0), .val (.int p1), .val (.int p2), .val (.int p3), .val (.int (3 : Int32)), .val (.ref b18), .val (.int j66_3_0), .val (.int (f1L3 (nar .byte (p1.toInt8.toInt32)))), .val (.int (f1L6 (11 : Int32)))] []))
              refine OGo.st (fun _ k => XS.iconst X25.here hx rfl (hb hby at_101) k) ?_
              show OGo p e below s _ _ _ (T25.setTop (mkF m 102 #[.val (.int p0), .val (.int p1), .val (.int p2), .val (.int p3), .val (.int (3 : Int32)), .val (.ref b18), .val (.int j66_3_0), .val (.int (f1L3 (nar .byte (p1.toInt8.toInt32)))), .val (.int (f1L6 (11 : Int32)))] [(.int (0 : Int32))]))
              exact oretN X25 hx Bd.notSynchronized (t := .boolean) Bd.returns (by simp) (hb hby at_102) (z' := (0 : Int32)) (by decide) e25 ⟨(congrArg (fun z => some (Value.int z)) (show (0 : Int32) = f0 p0 p1 p2 p3 from Eq.symm (hf66_3_0.trans (by unfold f0_66_3; exact (if_pos hc89).trans (if_pos hc94))))), N25⟩ (by decide) (by decide)
            · refine OGo.st (fun _ k => XS.ifNo X25.here hx rfl (hb hby at_94) rfl ((if0 _ _).trans (feq hc94).1) k) ?_
              show OGo p e below s _ _ _ (T25.setTop (mkF m 97 #[.val (.int p0), .val (.int p1), .val (.int p2), .val (.int p3), .val (.int (3 : Int32)), .val (.ref b18), .val (.int j66_3_0), .val (.int (f1L3 (nar .byte (p1.toInt8.toInt32)))), .val (.int (f1L6 (11 : Int32)))] []))
              refine OGo.st (fun _ k => XS.iconst X25.here hx rfl (hb hby at_97) k) ?_
              show OGo p e below s _ _ _ (T25.setTop (mkF m 98 #[.val (.int p0), .val (.int p1), .val (.int p2), .val (.int p3), .val (.int (3 : Int32)), .val (.ref b18), .val (.int j66_3_0), .val (.int (f1L3 (nar .byte (p1.toInt8.toInt32)))), .val (.int (f1L6 (11 : Int32)))] [(.int (1 : Int32))]))
              refine OGo.st (fun _ k => XS.goto X25.here hx rfl (pc0 := 98) (pc' := 102) rfl (hb hby at_98) (by decide) (by decide) k) ?_
              show OGo p e below s _ _ _ (T25.setTop (mkF m 102 #[.val (.int p0), .val (.int p1), .val (.int p2), .val (.int p3), .val (.int (3 : Int32)), .val (.ref b18), .val (.int j66_3_0), .val (.int (f1L3 (nar .byte (p1.toInt8.toInt32)))), .val (.int (f1L6 (11 : Int32)))] [(.int (1 : Int32))]))
              exact oretN X25 hx Bd.notSynchronized (t := .boolean) Bd.returns (by simp) (hb hby at_102) (z' := (1 : Int32)) (by decide) e25 ⟨(congrArg (fun z => some (Value.int z)) (show (1 : Int32) = f0 p0 p1 p2 p3 from Eq.symm (hf66_3_0.trans (by unfold f0_66_3; exact (if_pos hc89).trans (if_neg hc94))))), N25⟩ (by decide) (by decide)
          · refine OGo.st (fun _ k => XS.icmpYes X25.here hx rfl (pc0 := 89) (pc' := 101) rfl (hb hby at_89) rfl (feq hc89).2 (by decide) (by decide) k) ?_
            show OGo p e below s _ _ _ (T25.setTop (mkF m 101 #[.val (.int p0), .val (.int p1), .val (.int p2), .val (.int p3), .val (.int (3 : Int32)), .val (.ref b18), .val (.int j66_3_0), .val (.int (f1L3 (nar .byte (p1.toInt8.toInt32)))), .val (.int (f1L6 (11 : Int32)))] []))
            refine OGo.st (fun _ k => XS.iconst X25.here hx rfl (hb hby at_101) k) ?_
            show OGo p e below s _ _ _ (T25.setTop (mkF m 102 #[.val (.int p0), .val (.int p1), .val (.int p2), .val (.int p3), .val (.int (3 : Int32)), .val (.ref b18), .val (.int j66_3_0), .val (.int (f1L3 (nar .byte (p1.toInt8.toInt32)))), .val (.int (f1L6 (11 : Int32)))] [(.int (0 : Int32))]))
            exact oretN X25 hx Bd.notSynchronized (t := .boolean) Bd.returns (by simp) (hb hby at_102) (z' := (0 : Int32)) (by decide) e25 ⟨(congrArg (fun z => some (Value.int z)) (show (0 : Int32) = f0 p0 p1 p2 p3 from Eq.symm (hf66_3_0.trans (by unfold f0_66_3; exact if_neg hc89)))), N25⟩ (by decide) (by decide)
        by_cases hc58 : (p1 &&& (255 : Int32)) = (11 : Int32)
        · refine OGo.st (fun _ k => XS.icmpNo X21.here hx rfl (hb hby at_58) rfl (teq hc58).2 k) ?_
          show OGo p e below s _ _ _ (T21.setTop (mkF m 61 #[.val (.int p0), .val (.int p1), .val (.int p2), .val (.int p3), .val (.int (3 : Int32)), .val (.ref b18), .unset, .unset, .unset] []))
          refine OGo.st (fun _ k => XS.iconst X21.here hx rfl (hb hby at_61) k) ?_
          show OGo p e below s _ _ _ (T21.setTop (mkF m 62 #[.val (.int p0), .val (.int p1), .val (.int p2), .val (.int p3), .val (.int (3 : Int32)), .val (.ref b18), .unset, .unset, .unset] [(.int (1 : Int32))]))
          refine OGo.st (fun _ k => XS.goto X21.here hx rfl (pc0 := 62) (pc' := 66) rfl (hb hby at_62) (by decide) (by decide) k) ?_
          show OGo p e below s _ _ _ (T21.setTop (mkF m 66 #[.val (.int p0), .val (.int p1), .val (.int p2), .val (.int p3), .val (.int (3 : Int32)), .val (.ref b18), .unset, .unset, .unset] [(.int (1 : Int32))]))
          exact hj66_3 (1 : Int32) (by unfold f0; exact (if_neg hc5).trans ((if_neg hc5_2).trans ((if_neg hc5_3).trans (if_pos hc58))))
        · refine OGo.st (fun _ k => XS.icmpYes X21.here hx rfl (pc0 := 58) (pc' := 65) rfl (hb hby at_58) rfl (feq hc58).2 (by decide) (by decide) k) ?_
          show OGo p e below s _ _ _ (T21.setTop (mkF m 65 #[.val (.int p0), .val (.int p1), .val (.int p2), .val (.int p3), .val (.int (3 : Int32)), .val (.ref b18), .unset, .unset, .unset] []))
          refine OGo.st (fun _ k => XS.iconst X21.here hx rfl (hb hby at_65) k) ?_
          show OGo p e below s _ _ _ (T21.setTop (mkF m 66 #[.val (.int p0), .val (.int p1), .val (.int p2), .val (.int p3), .val (.int (3 : Int32)), .val (.ref b18), .unset, .unset, .unset] [(.int (0 : Int32))]))
          exact hj66_3 (0 : Int32) (by unfold f0; exact (if_neg hc5).trans ((if_neg hc5_2).trans ((if_neg hc5_3).trans (if_neg hc58))))
theorem own_b (x : Int32) : (nar .byte (x.toInt8.toInt32) = (11 : Int32)) ↔ ((x &&& (255 : Int32)) = (11 : Int32)) := by
  have m : (x &&& (255 : Int32)).toInt = x.toInt % 2 ^ 8 := Jvm.Kit.i32_mask x 255 (by decide) (by decide)
  have k : (11 : Int32).toInt = 11 := by decide
  show (x.toInt8.toInt32.toInt8.toInt32 = (11 : Int32)) ↔ _
  rw [← Int32.toInt_inj, ← Int32.toInt_inj, m, k, Int8.toInt_toInt32, Int32.toInt_toInt8, Int8.toInt_toInt32, Int32.toInt_toInt8]
  unfold Int.bmod; dsimp only; split <;> split <;> omega
theorem own_plain (p0 p1 p2 p3 : Int32) : f0 p0 p1 p2 p3 = 1 := by
  have b := own_b p1
  unfold f0 f0_66 f0_66_2 f0_66_3 f1L0 f1L1 f1L2 f1L3 f1L4 f1L5 f1L6
  simp only [b]
  by_cases h : (p1 &&& (255 : Int32)) = (11 : Int32) <;> simp [h]
set_option maxRecDepth 65536 in
set_option maxHeartbeats 40000000 in
theorem comes_1 {Post : Tables → Env → Array Value → State → Outcome → State → Prop} (hpost : ∀ tb e args s v u, (limb_1_1.after args s (.returned v) u = true ∧ limb_1_2.after args s (.returned v) u = true ∧ True) → FrameEnd s (.returned v) u (Jvm.fieldLocs frame_1_writes args s ++ Jvm.arrayLocs frame_1_arrays args s ++ Jvm.staticLocs frame_1_statics s) 16 128 → Post tb e args s (.returned v) u) :
    ArmFor flags0 classFile x code maxLocals ret World_1 tables_1 room_1 Calls_1 rest_1 Pre_1 Post := by
  intro l hfl _ _ p e ha hc hk s m args below hf hA hF happ hP
  obtain ⟨hcalls, hrest, hpre⟩ := hP
  obtain ⟨-, -, -, hnamed, -, -, -, hat⟩ := (Spec.applies_iff hf).mp happ
  obtain ⟨hg, hn⟩ := and_e (Cond.before_iff.mp (show (Jvm.Cond.and given_1 narrow_1).before args s = true from hpre))
  obtain ⟨gv1, gv2⟩ := and_e hg
  obtain ⟨gv3, gv4⟩ := and_e gv2
  obtain ⟨gv5, gv6⟩ := and_e gv4
  obtain ⟨gv7, gv8⟩ := and_e gv6
  obtain ⟨w0, w1, w2, w3, rfl⟩ : ∃ w0 w1 w2 w3 : Value, args = #[w0, w1, w2, w3] := by
    have hs : args.size = 4 := by simpa [Cond.value, given_1] using gv1
    obtain ⟨L⟩ := args
    match L, hs with
    | [w0, w1, w2, w3], _ => exact ⟨w0, w1, w2, w3, rfl⟩
  have hw := fun d (hd : d ∈ tables_1) => atoms_spec (ws := Jvm.Cond.code x code maxLocals ret :: tables_1) hat d (List.mem_cons_of_mem _ hd)
  have hfit : Fit s := fun {y c} hc i hi => by
    obtain ⟨ha, rfl⟩ := Array.getElem?_eq_some_iff.mp hc
    have q := List.all_eq_true.mp ((Array.all_eq_true_iff_forall_mem.mp hF) _ (Array.getElem_mem ha)) i (List.mem_range.mpr hi)
    simpa [Array.getElem?_eq_getElem hi] using q
  obtain ⟨i0, ei0⟩ := is_v gv3
  obtain rfl : w0 = (.int i0) := Option.some.inj ei0
  obtain ⟨i1, ei1⟩ := is_v gv5
  obtain rfl : w1 = (.int i1) := Option.some.inj ei1
  obtain ⟨i2, ei2⟩ := is_v gv7
  obtain rfl : w2 = (.int i2) := Option.some.inj ei2
  obtain ⟨i3, ei3⟩ := is_v gv8
  obtain rfl : w3 = (.int i3) := Option.some.inj ei3
  have hpl := own_plain i0 i1 i2 i3
  obtain ⟨n, o, h1, h2, h3, _, L, rfl, ⟨rfl, N⟩, hq⟩ := rm0 l s _ hw tables_1 i0 i1 i2 i3 s.heap s.heap.size (Nat.le_refl _) p e ha hc hk s m _ below hf ((Spec.applies_iff_loose hf).mp happ).1 ⟨rfl, State.Warmed39.refl s, rfl⟩ trivial
  refine ⟨n, _, h1, h2, h3, hpost _ _ _ _ _ _ ⟨Cond.after_iff.mpr rfl, Cond.after_iff.mpr (eq_i res_at (Term.int_eval (1)) (congrArg Value.int hpl)), trivial⟩ ⟨hq.1, hq.2.1, (hq.2.2.sift fun y hy => Or.inr (N y hy)).mono (by decide) (by decide)⟩⟩
theorem main_1_1 : Claimed_1_1 := comes_1 fun _ _ _ _ _ _ h hF => ⟨h.1, hF⟩
theorem main_1_2 : Claimed_1_2 := comes_1 fun _ _ _ _ _ _ h hF => ⟨h.2.1, hF⟩
end Jvm.Pilot.@@N@@
namespace Jvm.Pilot.@@N@@
open Jvm Jvm.ClassFile Sem Op Lib Jvm.Free Jvm.Stand Jvm.Pilot.@@N@@.Jvm.D
/-! MADE BY PROGRAM (witnessworld.py) out of the Statement's table words and the real class files: 10 classes; the members and pool entries that the words name. The judged class is class 1, her method 1. -/
namespace start1
open Jvm.ClassFile
def u (s : String) : CpInfo := .utf8 (stringToUtf16 s)
/-- a pool by its gaps: so many unusable entries, then the entry; so many at the end -/
def gap : Nat → List CpInfo → List CpInfo
  | 0, r => r
  | n + 1, r => .unusable :: gap n r
def poolList (es : List (Nat × CpInfo)) (last : Nat) : List CpInfo := es.foldr (fun e r => gap e.1 (e.2 :: r)) (gap last [])
def pool (es : List (Nat × CpInfo)) (last : Nat) : Array CpInfo := ⟨poolList es last⟩
def fileOf (pool : Array CpInfo) (this : Nat) (attrs : Array Attribute := #[]) (ms : Array MethodInfo := #[]) (fl : Nat := 33) (sup : Nat := 0) (ifs : Array Nat := #[]) (fds : Array FieldInfo := #[]) : ClassFile where
  minorVersion := 0
  majorVersion := 65
  constantPool := pool
  accessFlags := fl
  thisClass := this
  superClass := sup
  interfaces := ifs
  fields := fds
  methods := ms
  attributes := attrs
def plain (name : String) (sup : Option ClassId) : Class where
  name := name
  kind := .ordinary
  loader := none
  accessFlags := 33
  super := sup
  interfaces := #[]
  cf := none
  fields := #[]
  methods := #[]
  instanceTypes := #[]
  staticTypes := #[]
  resolved := #[]
  callSites := []
  init := .initialized
  statics := none
  mirror := none

def pool0 : Array CpInfo := pool [(5, u "<init>"), (0, u "()V"), (1, .class_ 10), (1, u "java/lang/Object")] 113

def k0m0 : Method := { name := "<init>", desc := "()V", sig := { parameters := [], returnType := none }, accessFlags := 1, code := none }
/-- java/lang/Object -/
def k0 : Class := { plain "java/lang/Object" none with
  accessFlags := 33
  interfaces := #[]
  cf := some (fileOf pool0 8 #[] #[{ accessFlags := 1, nameIndex := 5, descriptorIndex := 6, attributes := #[] }] 33 0 #[] #[])
  fields := #[]
  methods := #[k0m0]
  instanceTypes := #[]
  staticTypes := #[]
  resolved := Array.replicate 124 none
  statics := none }

def pool1 : Array CpInfo := pool [(2, .class_ 4), (1, u "java/lang/Object"), (0, u "<init>"), (0, u "()V"), (0, .methodref 8 9), (0, .class_ 10), (0, .nameAndType 11 12), (0, u "com/example/assaywire/assaywire/protocol/Mllp"), (0, u "startsBlock"), (0, u "([B)Z"), (0, .methodref 8 14), (0, .nameAndType 15 16), (0, u "wrap"), (0, u "([B)[B"), (0, .class_ 18), (0, u "com/example/assaywire/assaywire/protocol/MllpStartsBlockPinLaw"), (2, u "law"), (0, u "(IIII)Z")] 5

def k1m0 : Method := { name := "<init>", desc := "()V", sig := { parameters := [], returnType := none }, accessFlags := 1, code := none }
def k1c1 : Code := { maxStack := 3, maxLocals := 9, code := code, exceptionTable := #[], attributes := #[] }
def k1m1 : Method := { name := "law", desc := "(IIII)Z", sig := { parameters := [.int, .int, .int, .int], returnType := some .boolean }, accessFlags := 9, code := some k1c1 }
/-- com/example/assaywire/assaywire/protocol/MllpStartsBlockPinLaw -/
def k1 : Class := { plain "com/example/assaywire/assaywire/protocol/MllpStartsBlockPinLaw" (some 0) with
  accessFlags := 49
  interfaces := #[]
  cf := some (fileOf pool1 17 #[] #[{ accessFlags := 1, nameIndex := 5, descriptorIndex := 6, attributes := #[] }, { accessFlags := 9, nameIndex := 21, descriptorIndex := 22, attributes := #[] }] 49 2 #[] #[])
  fields := #[]
  methods := #[k1m0, k1m1]
  instanceTypes := #[]
  staticTypes := #[]
  resolved := Array.replicate 28 none
  statics := none }

def pool2 : Array CpInfo := pool [(2, .class_ 4), (1, u "java/lang/Object"), (0, u "<init>"), (0, u "()V"), (0, .class_ 8), (0, u "com/example/assaywire/assaywire/protocol/Mllp"), (2, u "startsBlock"), (0, u "([B)Z"), (25, .methodref 39 40), (0, .class_ 41), (0, .nameAndType 42 43), (0, u "java/lang/System"), (0, u "arraycopy"), (0, u "(Ljava/lang/Object;ILjava/lang/Object;II)V"), (0, u "START_BLOCK"), (0, u "B"), (2, u "END_BLOCK"), (5, u "([B)[B"), (1, u "wrap")] 2

def k2m0 : Method := { name := "<init>", desc := "()V", sig := { parameters := [], returnType := none }, accessFlags := 2, code := none }
def k2c1 : Code := { maxStack := 2, maxLocals := 1, code := prog_110_method_2_code, exceptionTable := #[], attributes := #[] }
def k2m1 : Method := { name := "startsBlock", desc := "([B)Z", sig := { parameters := [(.array .byte)], returnType := some .boolean }, accessFlags := 9, code := some k2c1 }
def k2c2 : Code := { maxStack := 5, maxLocals := 2, code := prog_110_method_4_code, exceptionTable := #[], attributes := #[] }
def k2m2 : Method := { name := "wrap", desc := "([B)[B", sig := { parameters := [(.array .byte)], returnType := some (.array .byte) }, accessFlags := 9, code := some k2c2 }
/-- com/example/assaywire/assaywire/protocol/Mllp -/
def k2 : Class := { plain "com/example/assaywire/assaywire/protocol/Mllp" (some 0) with
  accessFlags := 49
  interfaces := #[]
  cf := some (fileOf pool2 7 #[] #[{ accessFlags := 2, nameIndex := 5, descriptorIndex := 6, attributes := #[] }, { accessFlags := 9, nameIndex := 11, descriptorIndex := 12, attributes := #[] }, { accessFlags := 9, nameIndex := 56, descriptorIndex := 54, attributes := #[] }] 49 2 #[] #[{ accessFlags := 25, nameIndex := 44, descriptorIndex := 45, attributes := #[] }, { accessFlags := 25, nameIndex := 48, descriptorIndex := 45, attributes := #[] }])
  fields := #[{ name := "START_BLOCK", type := .byte, accessFlags := 25, slot := 0, constantValue := 0 }, { name := "END_BLOCK", type := .byte, accessFlags := 25, slot := 1, constantValue := 0 }]
  methods := #[k2m0, k2m1, k2m2]
  instanceTypes := #[]
  staticTypes := #[.byte, .byte]
  resolved := Array.replicate 59 none
  statics := none }

def pool3 : Array CpInfo := pool [(2, .class_ 4), (1, u "java/lang/Object"), (0, u "<init>"), (0, u "()V"), (1, .class_ 10), (1, u "java/lang/System"), (0, u "allowSecurityManager"), (0, u "I"), (16, u "cons"), (0, u "Ljava/io/Console;"), (77, .class_ 110), (1, u "java/lang/System$CallersHolder"), (43, u "initialErrStream"), (0, u "Ljava/io/PrintStream;"), (19, u "security"), (0, u "Ljava/lang/SecurityManager;"), (31, .class_ 209), (0, u "java/lang/System$1"), (7, u "props"), (0, u "Ljava/util/Properties;"), (2, u "lineSeparator"), (0, u "Ljava/lang/String;"), (96, .class_ 321), (1, u "java/lang/System$LoggerFinder"), (5, .class_ 328), (0, u "java/lang/System$Logger"), (67, u "err"), (2, u "out"), (91, u "notSupportedJnuEncoding"), (15, u "in"), (17, u "initialIn"), (0, u "Ljava/io/InputStream;"), (35, u "bootLayer"), (0, u "Ljava/lang/ModuleLayer;"), (99, .class_ 664), (0, u "java/lang/System$2"), (9, u "NEVER"), (2, u "MAYBE"), (49, u "arraycopy"), (0, u "(Ljava/lang/Object;ILjava/lang/Object;II)V"), (72, .class_ 802), (0, u "java/lang/System$Logger$Level")] 31

def k3m0 : Method := { name := "<init>", desc := "()V", sig := { parameters := [], returnType := none }, accessFlags := 2, code := none }
def k3m1 : Method := { name := "arraycopy", desc := "(Ljava/lang/Object;ILjava/lang/Object;II)V", sig := { parameters := [(.object "java/lang/Object"), .int, (.object "java/lang/Object"), .int, .int], returnType := none }, accessFlags := 265, code := none }
/-- java/lang/System -/
def k3 : Class := { plain "java/lang/System" (some 0) with
  accessFlags := 49
  interfaces := #[]
  cf := some (fileOf pool3 8 #[.nestMembers #[319, 327, 801, 108, 663, 208]] #[{ accessFlags := 2, nameIndex := 5, descriptorIndex := 6, attributes := #[] }, { accessFlags := 265, nameIndex := 727, descriptorIndex := 728, attributes := #[] }] 49 2 #[] #[{ accessFlags := 25, nameIndex := 507, descriptorIndex := 526, attributes := #[] }, { accessFlags := 25, nameIndex := 399, descriptorIndex := 155, attributes := #[] }, { accessFlags := 25, nameIndex := 396, descriptorIndex := 155, attributes := #[] }, { accessFlags := 10, nameIndex := 525, descriptorIndex := 526, attributes := #[] }, { accessFlags := 26, nameIndex := 674, descriptorIndex := 12, attributes := #[] }, { accessFlags := 26, nameIndex := 677, descriptorIndex := 12, attributes := #[] }, { accessFlags := 10, nameIndex := 11, descriptorIndex := 12, attributes := #[] }, { accessFlags := 74, nameIndex := 175, descriptorIndex := 176, attributes := #[] }, { accessFlags := 10, nameIndex := 491, descriptorIndex := 222, attributes := #[] }, { accessFlags := 74, nameIndex := 29, descriptorIndex := 30, attributes := #[] }, { accessFlags := 74, nameIndex := 154, descriptorIndex := 155, attributes := #[] }, { accessFlags := 10, nameIndex := 217, descriptorIndex := 218, attributes := #[] }, { accessFlags := 10, nameIndex := 221, descriptorIndex := 222, attributes := #[] }, { accessFlags := 8, nameIndex := 562, descriptorIndex := 563, attributes := #[] }])
  fields := #[{ name := "in", type := (.object "java/io/InputStream"), accessFlags := 25, slot := 0, constantValue := 0 }, { name := "out", type := (.object "java/io/PrintStream"), accessFlags := 25, slot := 1, constantValue := 0 }, { name := "err", type := (.object "java/io/PrintStream"), accessFlags := 25, slot := 2, constantValue := 0 }, { name := "initialIn", type := (.object "java/io/InputStream"), accessFlags := 10, slot := 3, constantValue := 0 }, { name := "NEVER", type := .int, accessFlags := 26, slot := 4, constantValue := 0 }, { name := "MAYBE", type := .int, accessFlags := 26, slot := 5, constantValue := 0 }, { name := "allowSecurityManager", type := .int, accessFlags := 10, slot := 6, constantValue := 0 }, { name := "security", type := (.object "java/lang/SecurityManager"), accessFlags := 74, slot := 7, constantValue := 0 }, { name := "notSupportedJnuEncoding", type := (.object "java/lang/String"), accessFlags := 10, slot := 8, constantValue := 0 }, { name := "cons", type := (.object "java/io/Console"), accessFlags := 74, slot := 9, constantValue := 0 }, { name := "initialErrStream", type := (.object "java/io/PrintStream"), accessFlags := 74, slot := 10, constantValue := 0 }, { name := "props", type := (.object "java/util/Properties"), accessFlags := 10, slot := 11, constantValue := 0 }, { name := "lineSeparator", type := (.object "java/lang/String"), accessFlags := 10, slot := 12, constantValue := 0 }, { name := "bootLayer", type := (.object "java/lang/ModuleLayer"), accessFlags := 8, slot := 13, constantValue := 0 }]
  methods := #[k3m0, k3m1]
  instanceTypes := #[]
  staticTypes := #[(.object "java/io/InputStream"), (.object "java/io/PrintStream"), (.object "java/io/PrintStream"), (.object "java/io/InputStream"), .int, .int, .int, (.object "java/lang/SecurityManager"), (.object "java/lang/String"), (.object "java/io/Console"), (.object "java/io/PrintStream"), (.object "java/util/Properties"), (.object "java/lang/String"), (.object "java/lang/ModuleLayer")]
  resolved := Array.replicate 834 none
  statics := none }

def pool4 : Array CpInfo := pool [(1, u "java/lang/Cloneable"), (0, .class_ 1), (0, u "java/lang/Object"), (0, .class_ 3)] 3

/-- java/lang/Cloneable -/
def k4 : Class := { plain "java/lang/Cloneable" (some 0) with
  accessFlags := 1537
  interfaces := #[]
  cf := some (fileOf pool4 2 #[] #[] 1537 4 #[] #[])
  fields := #[]
  methods := #[]
  instanceTypes := #[]
  staticTypes := #[]
  resolved := Array.replicate 8 none
  statics := none }

def pool5 : Array CpInfo := pool [(1, u "java/io/Serializable"), (0, .class_ 1), (0, u "java/lang/Object"), (0, .class_ 3)] 3

/-- java/io/Serializable -/
def k5 : Class := { plain "java/io/Serializable" (some 0) with
  accessFlags := 1537
  interfaces := #[]
  cf := some (fileOf pool5 2 #[] #[] 1537 4 #[] #[])
  fields := #[]
  methods := #[]
  instanceTypes := #[]
  staticTypes := #[]
  resolved := Array.replicate 8 none
  statics := none }

/-- the primitive byte -/
def k6 : Class := { plain "byte" none with kind := .primitive 'B', accessFlags := 0x411 }
/-- [B -/
def k7 : Class := { plain "[B" (some 0) with kind := .array 6 .byte, interfaces := #[4, 5], accessFlags := 1041 }

/-- the primitive int -/
def k8 : Class := { plain "int" none with kind := .primitive 'I', accessFlags := 0x411 }
/-- [I -/
def k9 : Class := { plain "[I" (some 0) with kind := .array 8 .int, interfaces := #[4, 5], accessFlags := 1041 }

def heap : Heap := #[]
def classes : Array Class := #[k0, k1, k2, k3, k4, k5, k6, k7, k8, k9]
def interned : List (Array UInt16 × Addr) := []
def slotsUsed : Nat := 0
def theMethod : MethodId := ⟨1, 1⟩
def args0 : Array Value := #[.int 7, .int 7, .int 7, .int 7]
def aboutOver (below : List Frame) : State where
  vm := { classes := classes, interned := interned.toArray }
  heap := heap
  slotsUsed := slotsUsed
  threads := #[{ frames := .invoking theMethod args0 :: below }]
def below0 : List Frame := [.native { method := ⟨0, 0⟩, args := #[] }]
def about1 : State := aboutOver below0
def p0 : Program := .bare "" "" ""
def e0 : Env := launch0.env 0 0 0
theorem w_frames : about1.frames = Frame.invoking theMethod args0 :: below0 := rfl
set_option maxRecDepth 65536 in
theorem w_args : argsFit about1.vm theMethod args0 = true := by decide +kernel
set_option maxRecDepth 65536 in
theorem w_heap : heapFits about1 = true := by decide +kernel
set_option maxRecDepth 65536 in
theorem w_runnable : about1.curStatus? = some .runnable := by decide +kernel
set_option maxRecDepth 65536 in
theorem w_alone : about1.alone = true := by decide +kernel
set_option maxRecDepth 65536 in
theorem w_named : about1.methodNamed? x = some theMethod := by decide +kernel
set_option maxRecDepth 65536 in
theorem w_hears : about1.hears theMethod below0 = true := by decide +kernel
set_option maxRecDepth 65536 in
theorem w_ripe : about1.ripe theMethod args0 below0 = true := by decide +kernel
theorem w_running : about1.status = .running := rfl
set_option maxRecDepth 65536 in
theorem w_room : about1.hasRoom e0.platform room_1 = true :=
  launch0.hasRoom_least _ room_1 (by decide +kernel) (by decide +kernel) (by decide +kernel) (by decide +kernel) (by decide +kernel) (by decide +kernel)
theorem allAtoms_all (ts : List Jvm.Cond) (a : Array Jvm.Value) (st : Jvm.State) : (allAtoms ts).before a st = ts.all (fun c => c.before a st) := by
  induction ts with
  | nil => rfl
  | cons c t ih =>
    show (Jvm.Cond.and c (allAtoms t)).before a st = _
    rw [Jvm.Cond.before_and, ih, List.all_cons]
def words1 : List Jvm.Cond := Jvm.Cond.code x code maxLocals ret :: tables_1
/-- a 'code' word, met by the world's own term for the bytes: nothing is compared byte by byte -/
theorem code_word {y : MethodName} {bytes : ByteArray} {mx : Nat} {rt : Option FieldType} {a : Array Value} {s : State} {m : MethodId} {meth : Method} {c : Code} (h1 : s.methodNamed? y = some m) (h2 : s.vm.method? m = some meth) (h3 : meth.code = some c) (h4 : c.code = bytes)
    (h5 : (c.maxLocals == mx && c.exceptionTable.isEmpty && decide (c.maxStack ≤ mostOperands) && decide (meth.sig.returnType = rt) && !meth.locks && decide (parseMethodDescriptor y.desc = some meth.sig)) = true) : (Jvm.Cond.code y bytes mx rt).before a s = true := by
  simp only [Bool.and_eq_true, beq_iff_eq, Bool.not_eq_true', decide_eq_true_eq] at h5
  obtain ⟨⟨⟨⟨⟨g1, g2⟩, g3⟩, g4⟩, g5⟩, g6⟩ := h5
  simp [Cond.before, Cond.holds, Cond.value, h1, h2, h3, h4, g1, g2, g3, g4, g5, g6]
def isCode : Jvm.Cond → Bool
  | .code _ _ _ _ => true
  | _ => false
theorem all_split {L : List Jvm.Cond} {P : Jvm.Cond → Bool} (h1 : L.all (fun c => isCode c || P c) = true) (h2 : ∀ c ∈ L.filter isCode, P c = true) : L.all P = true := by
  refine List.all_eq_true.mpr fun c hc => ?_
  have h := List.all_eq_true.mp h1 c hc
  rcases Bool.eq_false_or_eq_true (isCode c) with hi | hi
  · exact h2 c (List.mem_filter.mpr ⟨hc, hi⟩)
  · simpa [hi] using h
set_option maxRecDepth 65536 in
theorem w_c0 : (Jvm.Cond.code x code maxLocals ret).before args0 about1 = true := code_word (m := ⟨1, 1⟩) (meth := k1m1) (c := k1c1) (by decide +kernel) rfl rfl rfl (by decide +kernel)
set_option maxRecDepth 65536 in
theorem w_c1 : (Jvm.Cond.code ({ cls := "com/example/assaywire/assaywire/protocol/Mllp", name := "startsBlock", desc := "([B)Z" } : Jvm.MethodName) prog_110_method_2_code (1 : Nat) (Option.some Jvm.ClassFile.FieldType.boolean)).before args0 about1 = true := code_word (m := ⟨2, 1⟩) (meth := k2m1) (c := k2c1) (by decide +kernel) rfl rfl rfl (by decide +kernel)
set_option maxRecDepth 65536 in
theorem w_c2 : (Jvm.Cond.code ({ cls := "com/example/assaywire/assaywire/protocol/Mllp", name := "wrap", desc := "([B)[B" } : Jvm.MethodName) prog_110_method_4_code (2 : Nat) (Option.some (Jvm.ClassFile.FieldType.array Jvm.ClassFile.FieldType.byte))).before args0 about1 = true := code_word (m := ⟨2, 2⟩) (meth := k2m2) (c := k2c2) (by decide +kernel) rfl rfl rfl (by decide +kernel)
def codes1 : List Jvm.Cond := [Jvm.Cond.code x code maxLocals ret, Jvm.Cond.code ({ cls := "com/example/assaywire/assaywire/protocol/Mllp", name := "startsBlock", desc := "([B)Z" } : Jvm.MethodName) prog_110_method_2_code (1 : Nat) (Option.some Jvm.ClassFile.FieldType.boolean), Jvm.Cond.code ({ cls := "com/example/assaywire/assaywire/protocol/Mllp", name := "wrap", desc := "([B)[B" } : Jvm.MethodName) prog_110_method_4_code (2 : Nat) (Option.some (Jvm.ClassFile.FieldType.array Jvm.ClassFile.FieldType.byte))]
set_option maxRecDepth 65536 in
theorem codes_eq : words1.filter isCode = codes1 := rfl
theorem w_codes : ∀ c ∈ words1.filter isCode, c.before args0 about1 = true := by
  rw [codes_eq]
  intro c hc
  simp only [codes1, List.mem_cons, List.not_mem_nil, or_false] at hc
  rcases hc with rfl | rfl | rfl
  · exact w_c0
  · exact w_c1
  · exact w_c2
set_option maxRecDepth 65536 in
theorem w_t1 : words1.all (fun c => isCode c || c.before args0 about1) = true := by decide +kernel
theorem w_tables : (allAtoms (Jvm.Cond.code x code maxLocals ret :: tables_1)).before args0 about1 = true := by
  rw [allAtoms_all]
  show words1.all (fun c => c.before args0 about1) = true
  refine all_split ?_ w_codes
  rw [w_t1]
set_option maxRecDepth 65536 in
theorem w_case : (Jvm.Cond.and given_1 narrow_1).before args0 about1 = true := by decide +kernel
theorem w_applies : (headSpec (Jvm.Cond.code x code maxLocals ret :: tables_1) room_1).applies x e0.platform about1 = true :=
  (Spec.applies_iff w_frames).mpr ⟨w_running, w_runnable, w_alone, w_named, w_hears, w_ripe, w_room, w_tables⟩
theorem atStart : AtStart classFile x code maxLocals ret World_1 tables_1 room_1 Calls_1 rest_1 Pre_1 launch0 p0 e0 about1 theMethod args0 below0 :=
  ⟨lists_1, trivial, launch0.admits_env _ _ _, launch0.least_env, fairChoices_fair.cas, fairChoices_fair.clock, w_frames, w_args, w_heap, w_applies, trivial, trivial, w_case⟩
end start1
theorem witness_1 : WitnessClaimed_1 := ⟨start1.p0, start1.e0, start1.about1, start1.theMethod, start1.args0, start1.below0, start1.atStart⟩
end Jvm.Pilot.@@N@@
