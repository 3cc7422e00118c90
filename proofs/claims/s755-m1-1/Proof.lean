import JvmDerived
import JvmDerived.Pilot.@@N@@Statement
import JvmDerived.Pilot.@@N@@Code
set_option linter.unusedVariables false
set_option linter.unusedSimpArgs false
@@BLOCK:NumsL.lean.txt@@
namespace Jvm.RoadKit
open Sem ClassFile Op Lib Jvm.Stand Jvm.Free Jvm.LawKit
section Own
variable {p : Program} {l : Launch} {e : Env} {R : Room} {s : State} {m : MethodId} {args : Array Value} {below : List Frame} {meth : Method} {c : Code} {T : State} {locs : List Loc} {cells slots : Nat}
/-- from t the run ends in a return of which Q holds -/
def OGo (p : Program) (e : Env) (below : List Frame) (s : State) (Q : Option Value → Heap → List Loc → Prop) (C N : Nat) (t : State) : Prop :=
  ∃ s₂ o, Steps p.tables e below t s₂ ∧ s₂.status = .running ∧ Ended s₂ below o ∧ ∃ v L, o = .returned v ∧ Q v s₂.heap L ∧ FrameEnd s o s₂ L C N
theorem OGo.st {Q : Option Value → Heap → List Loc → Prop} {C N : Nat} {t t' : State} (k : ∀ target, Steps p.tables e below t' target → Steps p.tables e below t target) (h : OGo p e below s Q C N t') : OGo p e below s Q C N t := by
  obtain ⟨s₂, o, a, r⟩ := h; exact ⟨s₂, o, k _ a, r⟩
theorem oretW {Q : Option Value → Heap → List Loc → Prop} {C N : Nat} (X : Stand p l e R s m args below meth c T locs cells slots) (hx : p.tables.exec = Jvm.exec) (hlk : meth.locks = false) {pc : Nat} {Ls : Array Slot} {w : Value} {t : FieldType} {i : Instr} {rest : List Value} (hret : meth.sig.returnType = some t) (hn : narrow t w = w)
    (hi : (i = .ireturn ∧ (t = .int ∨ t = .boolean ∨ t = .byte ∨ t = .char ∨ t = .short) ∧ ∃ z, w = .int z) ∨ (i = .lreturn ∧ t = .long ∧ ∃ z, w = .long z) ∨ (i = .dreturn ∧ t = .double ∧ ∃ z, w = .double z) ∨ (i = .freturn ∧ t = .float ∧ ∃ z, w = .float z) ∨ (i = .areturn ∧ t.isReference = true ∧ w.isRef = true))
    (hd : decode c.code pc = .ok (i, 1)) {h : Heap} (hh : T.heap = h) (hq : Q (some w) h locs) (hC : cells ≤ C) (hN : slots ≤ N) : OGo p e below s Q C N (T.setTop (mkF m pc Ls (w :: rest))) := by
  obtain ⟨fs, hr, hrun, hended, hW, hsame⟩ := X.leave (v := some w) (fun h => by rw [hret] at h; cases h) hlk
  exact ⟨_, _, retOut X hx hret hn hi hd hr, hrun, hended, _, _, rfl, hh ▸ hq, ⟨_, rfl⟩, hW, hsame.mono hC hN⟩
theorem oretI {Q : Option Value → Heap → List Loc → Prop} {C N : Nat} (X : Stand p l e R s m args below meth c T locs cells slots) (hx : p.tables.exec = Jvm.exec) (hlk : meth.locks = false) {pc : Nat} {Ls : Array Slot} {z : Int32} {rest : List Value} (hret : meth.sig.returnType = some .int)
    (hd : decode c.code pc = .ok (.ireturn, 1)) {h : Heap} (hh : T.heap = h) (hq : Q (some (.int z)) h locs) (hC : cells ≤ C) (hN : slots ≤ N) : OGo p e below s Q C N (T.setTop (mkF m pc Ls (.int z :: rest))) :=
  oretW X hx hlk hret rfl (Or.inl ⟨rfl, Or.inl rfl, _, rfl⟩) hd hh hq hC hN
theorem oretJ {Q : Option Value → Heap → List Loc → Prop} {C N : Nat} (X : Stand p l e R s m args below meth c T locs cells slots) (hx : p.tables.exec = Jvm.exec) (hlk : meth.locks = false) {pc : Nat} {Ls : Array Slot} {z : Int64} {rest : List Value} (hret : meth.sig.returnType = some .long)
    (hd : decode c.code pc = .ok (.lreturn, 1)) {h : Heap} (hh : T.heap = h) (hq : Q (some (.long z)) h locs) (hC : cells ≤ C) (hN : slots ≤ N) : OGo p e below s Q C N (T.setTop (mkF m pc Ls (.long z :: rest))) :=
  oretW X hx hlk hret rfl (Or.inr (Or.inl ⟨rfl, rfl, _, rfl⟩)) hd hh hq hC hN
theorem onarR {t : FieldType} {w : Value} (ht : t.isReference = true) (hw : w.isRef = true) : narrow t w = w := by
  cases t <;> first | (cases ht; done) | (cases w <;> first | rfl | (cases hw; done))
theorem ofitR {t : FieldType} {w : Value} (ht : t.isReference = true) (hw : w.isRef = true) : fits t w = true := by
  cases t <;> first | (cases ht; done) | (cases w <;> first | rfl | (cases hw; done))
theorem oretA {Q : Option Value → Heap → List Loc → Prop} {C N : Nat} (X : Stand p l e R s m args below meth c T locs cells slots) (hx : p.tables.exec = Jvm.exec) (hlk : meth.locks = false) {pc : Nat} {Ls : Array Slot} {w : Value} {t : FieldType} {rest : List Value} (hret : meth.sig.returnType = some t) (ht : t.isReference = true) (hw : w.isRef = true)
    (hd : decode c.code pc = .ok (.areturn, 1)) {h : Heap} (hh : T.heap = h) (hq : Q (some w) h locs) (hC : cells ≤ C) (hN : slots ≤ N) : OGo p e below s Q C N (T.setTop (mkF m pc Ls (w :: rest))) :=
  oretW X hx hlk hret (onarR ht hw) (Or.inr (Or.inr (Or.inr (Or.inr ⟨rfl, ht, hw⟩)))) hd hh hq hC hN
theorem oretN {Q : Option Value → Heap → List Loc → Prop} {C N : Nat} (X : Stand p l e R s m args below meth c T locs cells slots) (hx : p.tables.exec = Jvm.exec) (hlk : meth.locks = false) {pc : Nat} {Ls : Array Slot} {z z' : Int32} {t : FieldType} {rest : List Value} (hret : meth.sig.returnType = some t) (ht : t = .boolean ∨ t = .byte ∨ t = .char ∨ t = .short)
    (hd : decode c.code pc = .ok (.ireturn, 1)) (hz : nar t z = z') {h : Heap} (hh : T.heap = h) (hq : Q (some (.int z')) h locs) (hC : cells ≤ C) (hN : slots ≤ N) : OGo p e below s Q C N (T.setTop (mkF m pc Ls (.int z :: rest))) := by
  subst hz
  obtain ⟨fs, hr, hrun, hended, hW, hsame⟩ := X.leave (v := some (.int (nar t z))) (fun h => by rw [hret] at h; cases h) hlk
  exact ⟨_, _, retN X hx hret ht hd hr, hrun, hended, _, _, rfl, hh ▸ hq, ⟨_, rfl⟩, hW, hsame.mono hC hN⟩
theorem oret0 {Q : Option Value → Heap → List Loc → Prop} {C N : Nat} (X : Stand p l e R s m args below meth c T locs cells slots) (hx : p.tables.exec = Jvm.exec) (hlk : meth.locks = false) {pc : Nat} {Ls : Array Slot} (hret : meth.sig.returnType = none)
    (hd : decode c.code pc = .ok (.return_, 1)) {h : Heap} (hh : T.heap = h) (hq : Q none h locs) (hC : cells ≤ C) (hN : slots ≤ N) : OGo p e below s Q C N (T.setTop (mkF m pc Ls [])) := by
  obtain ⟨fs, hr, hrun, hended, hW, hsame⟩ := X.leave (v := none) (fun _ => rfl) hlk
  exact ⟨_, _, X.returnOut hx hret hd hr, hrun, hended, _, _, rfl, hh ▸ hq, ⟨_, rfl⟩, hW, hsame.mono hC hN⟩
theorem olrem {tb : Tables} [Ours tb] {target : State} {g : JFrame} (h : At T m c below) (hx : tb.exec = Jvm.exec) (hg : g.method = m) {x y : Int64} {rest : List Value} (hd : decode c.code g.pc = .ok (.lrem, 1)) (hs : g.stack = .long y :: .long x :: rest) (hy : y ≠ 0)
    (hr : Steps tb e below (T.setTop { g with pc := g.pc + 1, stack := .long (x % y) :: rest }) target) : Steps tb e below (T.setTop g) target :=
  XS.lrem h hx hg hd hs hy (by rw [lrem_mod]; exact hr)
theorem olc_lt (x y : Int64) : lcmpW x y < 0 ↔ x < y := by rw [lcW]; exact lc_lt x y
theorem olc_gt (x y : Int64) : 0 < lcmpW x y ↔ y < x := by rw [lcW]; exact lc_gt x y
theorem olc_eq (x y : Int64) : lcmpW x y = 0 ↔ x = y := by rw [lcW]; exact lc_eq x y
theorem onilP {v : Int} : ∀ q ∈ ([] : List (Int × Int)), q.1 ≠ v := fun _ q => nomatch q
theorem oconsP {v a b : Int} {l : List (Int × Int)} (h : a ≠ v) (t : ∀ q ∈ l, q.1 ≠ v) : ∀ q ∈ (a, b) :: l, q.1 ≠ v := fun q hq => (List.mem_cons.mp hq).elim (fun u => by rw [u]; exact h) (t q)
theorem oint_ne {z k : Int32} {K : Int} (h : ¬ z = k) (hk : k.toInt = K) : K ≠ z.toInt := fun q => h (Int32.toInt_inj.mp (by rw [hk, q]))
theorem ofld_eq {Z : State} {t : Term} {C n d : String} {a : Addr} {k : Int32} (h : (Cond.eq (Term.field t C n d) (Term.int k)).value args Z none Z [] = some true) (ev : t.eval args Z none [] Z = some (.ref a)) : Fld Z Z.heap a C n d (.int k) := by
  apply Fld.start
  have q := fld_at (args := args) (first := Z) (o := none) (idx := []) (s := Z) (C := C) (n := n) (dd := d) ev
  simp only [Cond.value, q, Term.int_eval] at h
  cases hv : Z.fieldOf? a C n d with
  | none => simp [hv] at h
  | some v => cases v <;> simp [hv] at h <;> simp [h]
section Imp
variable {E a b : Int32}
theorem oLL (h : E < a) (k : a.toInt ≤ b.toInt) : E < b := by rw [Int32.lt_iff_toInt_lt] at *; omega
theorem oLnG (h : E < a) (k : a.toInt ≤ b.toInt + 1) : ¬ b < E := by rw [Int32.lt_iff_toInt_lt] at *; omega
theorem oLnE (h : E < a) (k : a.toInt ≤ b.toInt) : ¬ E = b := fun q => by subst q; rw [Int32.lt_iff_toInt_lt] at h; omega
theorem oGG (h : a < E) (k : b.toInt ≤ a.toInt) : b < E := by rw [Int32.lt_iff_toInt_lt] at *; omega
theorem oGnL (h : a < E) (k : b.toInt ≤ a.toInt + 1) : ¬ E < b := by rw [Int32.lt_iff_toInt_lt] at *; omega
theorem oGnE (h : a < E) (k : b.toInt ≤ a.toInt) : ¬ E = b := fun q => by subst q; rw [Int32.lt_iff_toInt_lt] at h; omega
theorem onLnL (h : ¬ E < a) (k : b.toInt ≤ a.toInt) : ¬ E < b := by rw [Int32.lt_iff_toInt_lt] at *; omega
theorem onLG (h : ¬ E < a) (k : b.toInt < a.toInt) : b < E := by rw [Int32.lt_iff_toInt_lt] at *; omega
theorem onLnE (h : ¬ E < a) (k : b.toInt < a.toInt) : ¬ E = b := fun q => by subst q; rw [Int32.lt_iff_toInt_lt] at h; omega
theorem onGnG (h : ¬ a < E) (k : a.toInt ≤ b.toInt) : ¬ b < E := by rw [Int32.lt_iff_toInt_lt] at *; omega
theorem onGL (h : ¬ a < E) (k : a.toInt < b.toInt) : E < b := by rw [Int32.lt_iff_toInt_lt] at *; omega
theorem onGnE (h : ¬ a < E) (k : a.toInt < b.toInt) : ¬ E = b := fun q => by subst q; rw [Int32.lt_iff_toInt_lt] at h; omega
end Imp
end Own
end Jvm.RoadKit
namespace Jvm.Pilot.@@N@@
open Jvm Jvm.ClassFile Sem Op Lib Jvm.Free Jvm.Stand Jvm.LawKit Jvm.RoadKit Bundle Jvm.Pilot.@@N@@.Jvm.D

theorem d1_0 : decode prog_31_method_1_code 0 = .ok (.aload_n 0, 1) := by decide +kernel
theorem d1_1 : decode prog_31_method_1_code 1 = .ok (.invokespecial 1, 3) := by decide +kernel
theorem d1_4 : decode prog_31_method_1_code 4 = .ok (.aload_n 0, 1) := by decide +kernel
theorem d1_5 : decode prog_31_method_1_code 5 = .ok (.lload_n 1, 1) := by decide +kernel
theorem d1_6 : decode prog_31_method_1_code 6 = .ok (.putfield 7, 3) := by decide +kernel
theorem d1_9 : decode prog_31_method_1_code 9 = .ok (.aload_n 0, 1) := by decide +kernel
theorem d1_10 : decode prog_31_method_1_code 10 = .ok (.aload_n 3, 1) := by decide +kernel
theorem d1_11 : decode prog_31_method_1_code 11 = .ok (.putfield 13, 3) := by decide +kernel
theorem d1_14 : decode prog_31_method_1_code 14 = .ok (.return_, 1) := by decide +kernel
theorem pn_1 : plainName "com/example/rows_over_order/rowsoverorder/models/Version" = true := by first | (simp [plainName, overriddenIn]; done) | decide +kernel
theorem ef_1 (m : MethodId) (o0 : Addr) (q1 : Int64) (o2 : Addr) : entryFrame m #[(.ref o0), (.long q1), (.ref o2)] 4 = mkF m 0 #[.val (.ref o0), .val (.long q1), .second, .val (.ref o2)] [] := by first | (simp [entryFrame, mkF, argsToLocals, Value.category]; done) | rfl
def Q1 (Z : State) (o0 : Addr) (q1 : Int64) (o2 : Addr) (h0 : Heap) (n0 : Nat) (v : Option Value) (h : Heap) (L : List Loc) : Prop := v = none ∧ Fr n0 L ∧ Keep h0 h [o0] ∧ Fld Z h o0 "com/example/rows_over_order/rowsoverorder/models/Version" "timestamp" "J" (.long q1) ∧ Fld Z h o0 "com/example/rows_over_order/rowsoverorder/models/Version" "packed" "[B" (.ref o2)
set_option maxRecDepth 65536 in
set_option maxHeartbeats 40000000 in
theorem rm1 (l : Launch) (Z : State) (a0 : Array Value) (hw : ∀ d ∈ tables_1, d.before a0 Z = true) (ws : List Jvm.Cond) (o0 : Addr) (q1 : Int64) (o2 : Addr) (h0 : Heap) (n0 : Nat) (Z0 : n0 ≤ h0.size) (E_o0 : Exa Z h0 o0 "com/example/rows_over_order/rowsoverorder/models/Version") (F_timestamp : Fld Z h0 o0 "com/example/rows_over_order/rowsoverorder/models/Version" "timestamp" "J" (.long (0 : Int64))) (F_packed : Fld Z h0 o0 "com/example/rows_over_order/rowsoverorder/models/Version" "packed" "[B" .null) (g_o0 : n0 ≤ o0) :
    MetFree l (⟨"com/example/rows_over_order/rowsoverorder/models/Version", "<init>", "(J[B)V"⟩ : MethodName) (head1 (Jvm.Cond.code (⟨"com/example/rows_over_order/rowsoverorder/models/Version", "<init>", "(J[B)V"⟩ : MethodName) prog_31_method_1_code 4 none :: ws) ({ frames := 1, cells := 0, slots := 0, locals := 12 } : Room)) (fun a U => a = #[(.ref o0), (.long q1), (.ref o2)] ∧ Z.Warmed39 U.vm ∧ U.heap = h0) (fun _ _ _ _ _ => True) (fun _ U o U' => ∃ v L, o = .returned v ∧ Q1 Z o0 q1 o2 h0 n0 v U'.heap L ∧ FrameEnd U o U' L ({ frames := 1, cells := 0, slots := 0, locals := 12 } : Room).cells ({ frames := 1, cells := 0, slots := 0, locals := 12 } : Room).slots) := by
  refine MetFree.of_bodySF (plainFor_of_name pn_1) hisR ?_
  intro p e s m args below meth c s₁ Bd hml0 hP hK
  obtain ⟨rfl, hZ, hh⟩ := hP
  have hx := Bd.exec
  have hby := Bd.bytes
  have hml : c.maxLocals = 4 := hml0
  have hown : s.vm.findClass "com/example/rows_over_order/rowsoverorder/models/Version" = some m.cls := findClass_of_methodNamed Bd.named
  have hnm := (name_of_methodNamed Bd.named Bd.method).1
  have X0 : Stand p l e ({ frames := 1, cells := 0, slots := 0, locals := 12 } : Room) s m #[(.ref o0), (.long q1), (.ref o2)] below meth c s₁ [] 0 0 := Stand.of_body Bd
  have e0 : s₁.heap = h0 := by rw [← hh, Bd.state]; rfl
  have N0 := Fr.nil n0
  show OGo p e below s (Q1 Z o0 q1 o2 h0 n0) ({ frames := 1, cells := 0, slots := 0, locals := 12 } : Room).cells ({ frames := 1, cells := 0, slots := 0, locals := 12 } : Room).slots _
  refine OGo.st (fun _ k => castTop (ef_1 m o0 q1 o2) k) ?_
  show OGo p e below s _ _ _ (s₁.setTop (mkF m 0 #[.val (.ref o0), .val (.long q1), .second, .val (.ref o2)] []))
  refine OGo.st (fun _ k => XS.aloadN X0.here hx rfl (hb hby d1_0) rfl rfl k) ?_
  show OGo p e below s _ _ _ (s₁.setTop (mkF m 1 #[.val (.ref o0), .val (.long q1), .second, .val (.ref o2)] [(.ref o0)]))
  obtain ⟨T1, X1, e1, st1⟩ := initO X0 hx hZ hown (hw _ (List.mem_of_getElem? (i := 6) rfl)) (hw _ (List.mem_of_getElem? (i := 7) rfl)) (hw _ (List.mem_of_getElem? (i := 8) rfl)) e0 (g := (mkF m 1 #[.val (.ref o0), .val (.long q1), .second, .val (.ref o2)] [(.ref o0)])) rfl (by rw [hml]; rfl) rfl (hb hby d1_1) (by decide) (W := 0) (by show 2 * 0 + _ ≤ _; exact Nat.le_of_eq rfl) (by decide)
  refine OGo.st st1 ?_
  show OGo p e below s _ _ _ (T1.setTop (mkF m 4 #[.val (.ref o0), .val (.long q1), .second, .val (.ref o2)] []))
  refine OGo.st (fun _ k => XS.aloadN X1.here hx rfl (hb hby d1_4) rfl rfl k) ?_
  show OGo p e below s _ _ _ (T1.setTop (mkF m 5 #[.val (.ref o0), .val (.long q1), .second, .val (.ref o2)] [(.ref o0)]))
  refine OGo.st (fun _ k => XS.lloadN X1.here hx rfl (hb hby d1_5) rfl k) ?_
  show OGo p e below s _ _ _ (T1.setTop (mkF m 6 #[.val (.ref o0), .val (.long q1), .second, .val (.ref o2)] [(.long q1), (.ref o0)]))
  obtain ⟨T2, h2, X2, e2, W2, st2⟩ := putF X1 hx hZ hown (host := "") (Or.inl (hw _ (List.mem_of_getElem? (i := 9) rfl))) Via.refl e1 F_timestamp E_o0 (Or.inr ⟨(hw _ (List.mem_of_getElem? (i := 10) rfl)), rfl, hnm⟩) (hw _ (List.mem_of_getElem? (i := 1) rfl)) (ty := .long) (by decide) rfl rfl (g := (mkF m 6 #[.val (.ref o0), .val (.long q1), .second, .val (.ref o2)] [(.long q1), (.ref o0)])) rfl rfl (hb hby d1_6)
  refine OGo.st st2 ?_
  have E_o0_w2 := E_o0.wr W2
  have F_packed_w2 := F_packed.other W2 (Or.inr (slot_ne (a0 := a0) (Or.inr (hw _ (List.mem_of_getElem? (i := 12) rfl))) (Or.inr (hw _ (List.mem_of_getElem? (i := 10) rfl))) (by decide) (t := (.array .byte)) (t' := .long) (by decide) (by decide)))
  have K2 : Keep h0 h2 [o0] := (Keep.refl h0 _).wr W2 (Or.inl (List.mem_of_getElem? (i := 0) rfl))
  have N2 := Fr.snoc X2 N0 g_o0
  have Z2 : n0 ≤ h2.size := Nat.le_trans Z0 (Keep.of_wr W2).1
  have F2 : Fld Z h2 o0 "com/example/rows_over_order/rowsoverorder/models/Version" "timestamp" "J" (.long q1) := F_timestamp.same W2
  show OGo p e below s _ _ _ (T2.setTop (mkF m 9 #[.val (.ref o0), .val (.long q1), .second, .val (.ref o2)] []))
  refine OGo.st (fun _ k => XS.aloadN X2.here hx rfl (hb hby d1_9) rfl rfl k) ?_
  show OGo p e below s _ _ _ (T2.setTop (mkF m 10 #[.val (.ref o0), .val (.long q1), .second, .val (.ref o2)] [(.ref o0)]))
  refine OGo.st (fun _ k => XS.aloadN X2.here hx rfl (hb hby d1_10) rfl rfl k) ?_
  show OGo p e below s _ _ _ (T2.setTop (mkF m 11 #[.val (.ref o0), .val (.long q1), .second, .val (.ref o2)] [(.ref o2), (.ref o0)]))
  obtain ⟨T3, h3, X3, e3, W3, st3⟩ := putF X2 hx hZ hown (host := "") (Or.inl (hw _ (List.mem_of_getElem? (i := 11) rfl))) Via.refl e2 F_packed_w2 E_o0_w2 (Or.inr ⟨(hw _ (List.mem_of_getElem? (i := 12) rfl)), rfl, hnm⟩) (hw _ (List.mem_of_getElem? (i := 1) rfl)) (ty := (.array .byte)) (by decide) rfl rfl (g := (mkF m 11 #[.val (.ref o0), .val (.long q1), .second, .val (.ref o2)] [(.ref o2), (.ref o0)])) rfl rfl (hb hby d1_11)
  refine OGo.st st3 ?_
  have E_o0_w3 := E_o0_w2.wr W3
  have F2_w3 := F2.other W3 (Or.inr (slot_ne (a0 := a0) (Or.inr (hw _ (List.mem_of_getElem? (i := 10) rfl))) (Or.inr (hw _ (List.mem_of_getElem? (i := 12) rfl))) (by decide) (t := .long) (t' := (.array .byte)) (by decide) (by decide)))
  have K3 : Keep h0 h3 [o0] := (K2).wr W3 (Or.inl (List.mem_of_getElem? (i := 0) rfl))
  have N3 := Fr.snoc X3 N2 g_o0
  have Z3 : n0 ≤ h3.size := Nat.le_trans Z2 (Keep.of_wr W3).1
  have F3 : Fld Z h3 o0 "com/example/rows_over_order/rowsoverorder/models/Version" "packed" "[B" (.ref o2) := F_packed_w2.same W3
  show OGo p e below s _ _ _ (T3.setTop (mkF m 14 #[.val (.ref o0), .val (.long q1), .second, .val (.ref o2)] []))
  exact oret0 X3 hx Bd.notSynchronized Bd.returns (hb hby d1_14) e3 ⟨rfl, N3, K3, F2_w3, F3⟩ (by decide) (by decide)
theorem ef_1N (m : MethodId) (o0 : Addr) (q1 : Int64) : entryFrame m #[(.ref o0), (.long q1), .null] 4 = mkF m 0 #[.val (.ref o0), .val (.long q1), .second, .val .null] [] := by first | (simp [entryFrame, mkF, argsToLocals, Value.category]; done) | rfl
def Q1N (Z : State) (o0 : Addr) (q1 : Int64) (h0 : Heap) (n0 : Nat) (v : Option Value) (h : Heap) (L : List Loc) : Prop := v = none ∧ Fr n0 L ∧ Keep h0 h [o0] ∧ Fld Z h o0 "com/example/rows_over_order/rowsoverorder/models/Version" "timestamp" "J" (.long q1) ∧ Fld Z h o0 "com/example/rows_over_order/rowsoverorder/models/Version" "packed" "[B" .null
set_option maxRecDepth 65536 in
set_option maxHeartbeats 40000000 in
theorem rm1N (l : Launch) (Z : State) (a0 : Array Value) (hw : ∀ d ∈ tables_1, d.before a0 Z = true) (ws : List Jvm.Cond) (o0 : Addr) (q1 : Int64) (h0 : Heap) (n0 : Nat) (Z0 : n0 ≤ h0.size) (E_o0 : Exa Z h0 o0 "com/example/rows_over_order/rowsoverorder/models/Version") (F_timestamp : Fld Z h0 o0 "com/example/rows_over_order/rowsoverorder/models/Version" "timestamp" "J" (.long (0 : Int64))) (F_packed : Fld Z h0 o0 "com/example/rows_over_order/rowsoverorder/models/Version" "packed" "[B" .null) (g_o0 : n0 ≤ o0) :
    MetFree l (⟨"com/example/rows_over_order/rowsoverorder/models/Version", "<init>", "(J[B)V"⟩ : MethodName) (head1 (Jvm.Cond.code (⟨"com/example/rows_over_order/rowsoverorder/models/Version", "<init>", "(J[B)V"⟩ : MethodName) prog_31_method_1_code 4 none :: ws) ({ frames := 1, cells := 0, slots := 0, locals := 12 } : Room)) (fun a U => a = #[(.ref o0), (.long q1), .null] ∧ Z.Warmed39 U.vm ∧ U.heap = h0) (fun _ _ _ _ _ => True) (fun _ U o U' => ∃ v L, o = .returned v ∧ Q1N Z o0 q1 h0 n0 v U'.heap L ∧ FrameEnd U o U' L ({ frames := 1, cells := 0, slots := 0, locals := 12 } : Room).cells ({ frames := 1, cells := 0, slots := 0, locals := 12 } : Room).slots) := by
  refine MetFree.of_bodySF (plainFor_of_name pn_1) hisR ?_
  intro p e s m args below meth c s₁ Bd hml0 hP hK
  obtain ⟨rfl, hZ, hh⟩ := hP
  have hx := Bd.exec
  have hby := Bd.bytes
  have hml : c.maxLocals = 4 := hml0
  have hown : s.vm.findClass "com/example/rows_over_order/rowsoverorder/models/Version" = some m.cls := findClass_of_methodNamed Bd.named
  have hnm := (name_of_methodNamed Bd.named Bd.method).1
  have X0 : Stand p l e ({ frames := 1, cells := 0, slots := 0, locals := 12 } : Room) s m #[(.ref o0), (.long q1), .null] below meth c s₁ [] 0 0 := Stand.of_body Bd
  have e0 : s₁.heap = h0 := by rw [← hh, Bd.state]; rfl
  have N0 := Fr.nil n0
  show OGo p e below s (Q1N Z o0 q1 h0 n0) ({ frames := 1, cells := 0, slots := 0, locals := 12 } : Room).cells ({ frames := 1, cells := 0, slots := 0, locals := 12 } : Room).slots _
  refine OGo.st (fun _ k => castTop (ef_1N m o0 q1) k) ?_
  show OGo p e below s _ _ _ (s₁.setTop (mkF m 0 #[.val (.ref o0), .val (.long q1), .second, .val .null] []))
  refine OGo.st (fun _ k => XS.aloadN X0.here hx rfl (hb hby d1_0) rfl rfl k) ?_
  show OGo p e below s _ _ _ (s₁.setTop (mkF m 1 #[.val (.ref o0), .val (.long q1), .second, .val .null] [(.ref o0)]))
  obtain ⟨T1, X1, e1, st1⟩ := initO X0 hx hZ hown (hw _ (List.mem_of_getElem? (i := 6) rfl)) (hw _ (List.mem_of_getElem? (i := 7) rfl)) (hw _ (List.mem_of_getElem? (i := 8) rfl)) e0 (g := (mkF m 1 #[.val (.ref o0), .val (.long q1), .second, .val .null] [(.ref o0)])) rfl (by rw [hml]; rfl) rfl (hb hby d1_1) (by decide) (W := 0) (by show 2 * 0 + _ ≤ _; exact Nat.le_of_eq rfl) (by decide)
  refine OGo.st st1 ?_
  show OGo p e below s _ _ _ (T1.setTop (mkF m 4 #[.val (.ref o0), .val (.long q1), .second, .val .null] []))
  refine OGo.st (fun _ k => XS.aloadN X1.here hx rfl (hb hby d1_4) rfl rfl k) ?_
  show OGo p e below s _ _ _ (T1.setTop (mkF m 5 #[.val (.ref o0), .val (.long q1), .second, .val .null] [(.ref o0)]))
  refine OGo.st (fun _ k => XS.lloadN X1.here hx rfl (hb hby d1_5) rfl k) ?_
  show OGo p e below s _ _ _ (T1.setTop (mkF m 6 #[.val (.ref o0), .val (.long q1), .second, .val .null] [(.long q1), (.ref o0)]))
  obtain ⟨T2, h2, X2, e2, W2, st2⟩ := putF X1 hx hZ hown (host := "") (Or.inl (hw _ (List.mem_of_getElem? (i := 9) rfl))) Via.refl e1 F_timestamp E_o0 (Or.inr ⟨(hw _ (List.mem_of_getElem? (i := 10) rfl)), rfl, hnm⟩) (hw _ (List.mem_of_getElem? (i := 1) rfl)) (ty := .long) (by decide) rfl rfl (g := (mkF m 6 #[.val (.ref o0), .val (.long q1), .second, .val .null] [(.long q1), (.ref o0)])) rfl rfl (hb hby d1_6)
  refine OGo.st st2 ?_
  have E_o0_w2 := E_o0.wr W2
  have F_packed_w2 := F_packed.other W2 (Or.inr (slot_ne (a0 := a0) (Or.inr (hw _ (List.mem_of_getElem? (i := 12) rfl))) (Or.inr (hw _ (List.mem_of_getElem? (i := 10) rfl))) (by decide) (t := (.array .byte)) (t' := .long) (by decide) (by decide)))
  have K2 : Keep h0 h2 [o0] := (Keep.refl h0 _).wr W2 (Or.inl (List.mem_of_getElem? (i := 0) rfl))
  have N2 := Fr.snoc X2 N0 g_o0
  have Z2 : n0 ≤ h2.size := Nat.le_trans Z0 (Keep.of_wr W2).1
  have F2 : Fld Z h2 o0 "com/example/rows_over_order/rowsoverorder/models/Version" "timestamp" "J" (.long q1) := F_timestamp.same W2
  show OGo p e below s _ _ _ (T2.setTop (mkF m 9 #[.val (.ref o0), .val (.long q1), .second, .val .null] []))
  refine OGo.st (fun _ k => XS.aloadN X2.here hx rfl (hb hby d1_9) rfl rfl k) ?_
  show OGo p e below s _ _ _ (T2.setTop (mkF m 10 #[.val (.ref o0), .val (.long q1), .second, .val .null] [(.ref o0)]))
  refine OGo.st (fun _ k => XS.aloadN X2.here hx rfl (hb hby d1_10) rfl rfl k) ?_
  show OGo p e below s _ _ _ (T2.setTop (mkF m 11 #[.val (.ref o0), .val (.long q1), .second, .val .null] [.null, (.ref o0)]))
  obtain ⟨T3, h3, X3, e3, W3, st3⟩ := putF X2 hx hZ hown (host := "") (Or.inl (hw _ (List.mem_of_getElem? (i := 11) rfl))) Via.refl e2 F_packed_w2 E_o0_w2 (Or.inr ⟨(hw _ (List.mem_of_getElem? (i := 12) rfl)), rfl, hnm⟩) (hw _ (List.mem_of_getElem? (i := 1) rfl)) (ty := (.array .byte)) (by decide) rfl rfl (g := (mkF m 11 #[.val (.ref o0), .val (.long q1), .second, .val .null] [.null, (.ref o0)])) rfl rfl (hb hby d1_11)
  refine OGo.st st3 ?_
  have E_o0_w3 := E_o0_w2.wr W3
  have F2_w3 := F2.other W3 (Or.inr (slot_ne (a0 := a0) (Or.inr (hw _ (List.mem_of_getElem? (i := 10) rfl))) (Or.inr (hw _ (List.mem_of_getElem? (i := 12) rfl))) (by decide) (t := .long) (t' := (.array .byte)) (by decide) (by decide)))
  have K3 : Keep h0 h3 [o0] := (K2).wr W3 (Or.inl (List.mem_of_getElem? (i := 0) rfl))
  have N3 := Fr.snoc X3 N2 g_o0
  have Z3 : n0 ≤ h3.size := Nat.le_trans Z2 (Keep.of_wr W3).1
  have F3 : Fld Z h3 o0 "com/example/rows_over_order/rowsoverorder/models/Version" "packed" "[B" .null := F_packed_w2.same W3
  show OGo p e below s _ _ _ (T3.setTop (mkF m 14 #[.val (.ref o0), .val (.long q1), .second, .val .null] []))
  exact oret0 X3 hx Bd.notSynchronized Bd.returns (hb hby d1_14) e3 ⟨rfl, N3, K3, F2_w3, F3⟩ (by decide) (by decide)
theorem d3_0 : decode prog_31_method_4_code 0 = .ok (.aload_n 0, 1) := by decide +kernel
theorem d3_1 : decode prog_31_method_4_code 1 = .ok (.getfield 13, 3) := by decide +kernel
theorem d3_4 : decode prog_31_method_4_code 4 = .ok (.ifnonnull 7, 3) := by decide +kernel
theorem d3_11 : decode prog_31_method_4_code 11 = .ok (.iconst 0, 1) := by decide +kernel
theorem d3_12 : decode prog_31_method_4_code 12 = .ok (.ireturn, 1) := by decide +kernel
theorem pn_3 : plainName "com/example/rows_over_order/rowsoverorder/models/Version" = true := by first | (simp [plainName, overriddenIn]; done) | decide +kernel
theorem ef_3 (m : MethodId) (o0 : Addr) : entryFrame m #[(.ref o0)] 1 = mkF m 0 #[.val (.ref o0)] [] := by first | (simp [entryFrame, mkF, argsToLocals, Value.category]; done) | rfl
def f3 : Int32 := (0 : Int32)
def Q3 (Z : State) (o0 : Addr) (u_p : Addr) (h0 : Heap) (n0 : Nat) (v : Option Value) (h : Heap) (L : List Loc) : Prop := v = some (.int (f3)) ∧ Fr n0 L ∧ h = h0
set_option maxRecDepth 65536 in
set_option maxHeartbeats 40000000 in
theorem rm3 (l : Launch) (Z : State) (a0 : Array Value) (hw : ∀ d ∈ tables_1, d.before a0 Z = true) (ws : List Jvm.Cond) (o0 : Addr) (u_p : Addr) (h0 : Heap) (n0 : Nat) (Z0 : n0 ≤ h0.size) (F_packed : Fld Z h0 o0 "com/example/rows_over_order/rowsoverorder/models/Version" "packed" "[B" (.ref u_p)) :
    MetFree l (⟨"com/example/rows_over_order/rowsoverorder/models/Version", "isDeletion", "()Z"⟩ : MethodName) (head1 (Jvm.Cond.code (⟨"com/example/rows_over_order/rowsoverorder/models/Version", "isDeletion", "()Z"⟩ : MethodName) prog_31_method_4_code 1 (some .boolean) :: ws) ({ frames := 0, cells := 0, slots := 0, locals := 0 } : Room)) (fun a U => a = #[(.ref o0)] ∧ Z.Warmed39 U.vm ∧ U.heap = h0) (fun _ _ _ _ _ => True) (fun _ U o U' => ∃ v L, o = .returned v ∧ Q3 Z o0 u_p h0 n0 v U'.heap L ∧ FrameEnd U o U' L ({ frames := 0, cells := 0, slots := 0, locals := 0 } : Room).cells ({ frames := 0, cells := 0, slots := 0, locals := 0 } : Room).slots) := by
  refine MetFree.of_bodySF (plainFor_of_name pn_3) hisR ?_
  intro p e s m args below meth c s₁ Bd hml0 hP hK
  obtain ⟨rfl, hZ, hh⟩ := hP
  have hx := Bd.exec
  have hby := Bd.bytes
  have hml : c.maxLocals = 1 := hml0
  have hown : s.vm.findClass "com/example/rows_over_order/rowsoverorder/models/Version" = some m.cls := findClass_of_methodNamed Bd.named
  have hnm := (name_of_methodNamed Bd.named Bd.method).1
  have X0 : Stand p l e ({ frames := 0, cells := 0, slots := 0, locals := 0 } : Room) s m #[(.ref o0)] below meth c s₁ [] 0 0 := Stand.of_body Bd
  have e0 : s₁.heap = h0 := by rw [← hh, Bd.state]; rfl
  have N0 := Fr.nil n0
  show OGo p e below s (Q3 Z o0 u_p h0 n0) ({ frames := 0, cells := 0, slots := 0, locals := 0 } : Room).cells ({ frames := 0, cells := 0, slots := 0, locals := 0 } : Room).slots _
  refine OGo.st (fun _ k => castTop (ef_3 m o0) k) ?_
  show OGo p e below s _ _ _ (s₁.setTop (mkF m 0 #[.val (.ref o0)] []))
  refine OGo.st (fun _ k => XS.aloadN X0.here hx rfl (hb hby d3_0) rfl rfl k) ?_
  show OGo p e below s _ _ _ (s₁.setTop (mkF m 1 #[.val (.ref o0)] [(.ref o0)]))
  obtain ⟨T1, X1, e1, st1⟩ := getF X0 hx hZ hown (host := "") (Or.inl (hw _ (List.mem_of_getElem? (i := 11) rfl))) Via.refl e0 F_packed (g := (mkF m 1 #[.val (.ref o0)] [(.ref o0)])) rfl rfl (hb hby d3_1)
  refine OGo.st st1 ?_
  show OGo p e below s _ _ _ (T1.setTop (mkF m 4 #[.val (.ref o0)] [(.ref u_p)]))
  refine OGo.st (fun _ k => XS.ifnonnullYes X1.here hx rfl (pc0 := 4) (pc' := 11) rfl (hb hby d3_4) rfl (by decide) (by decide) k) ?_
  show OGo p e below s _ _ _ (T1.setTop (mkF m 11 #[.val (.ref o0)] []))
  refine OGo.st (fun _ k => XS.iconst X1.here hx rfl (hb hby d3_11) k) ?_
  show OGo p e below s _ _ _ (T1.setTop (mkF m 12 #[.val (.ref o0)] [(.int (0 : Int32))]))
  exact oretN X1 hx Bd.notSynchronized (t := .boolean) Bd.returns (by simp) (hb hby d3_12) (z' := (0 : Int32)) (by decide) e1 ⟨(congrArg (fun z => some (Value.int z)) (show (0 : Int32) = f3 from Eq.symm (by unfold f3; exact rfl))), N0, rfl⟩ (by decide) (by decide)
theorem d3_7 : decode prog_31_method_4_code 7 = .ok (.iconst 1, 1) := by decide +kernel
theorem d3_8 : decode prog_31_method_4_code 8 = .ok (.goto 4, 3) := by decide +kernel
theorem ef_3N (m : MethodId) (o0 : Addr) : entryFrame m #[(.ref o0)] 1 = mkF m 0 #[.val (.ref o0)] [] := by first | (simp [entryFrame, mkF, argsToLocals, Value.category]; done) | rfl
def f3N : Int32 := (1 : Int32)
def Q3N (Z : State) (o0 : Addr) (h0 : Heap) (n0 : Nat) (v : Option Value) (h : Heap) (L : List Loc) : Prop := v = some (.int (f3N)) ∧ Fr n0 L ∧ h = h0
set_option maxRecDepth 65536 in
set_option maxHeartbeats 40000000 in
theorem rm3N (l : Launch) (Z : State) (a0 : Array Value) (hw : ∀ d ∈ tables_1, d.before a0 Z = true) (ws : List Jvm.Cond) (o0 : Addr) (h0 : Heap) (n0 : Nat) (Z0 : n0 ≤ h0.size) (F_packed : Fld Z h0 o0 "com/example/rows_over_order/rowsoverorder/models/Version" "packed" "[B" .null) :
    MetFree l (⟨"com/example/rows_over_order/rowsoverorder/models/Version", "isDeletion", "()Z"⟩ : MethodName) (head1 (Jvm.Cond.code (⟨"com/example/rows_over_order/rowsoverorder/models/Version", "isDeletion", "()Z"⟩ : MethodName) prog_31_method_4_code 1 (some .boolean) :: ws) ({ frames := 0, cells := 0, slots := 0, locals := 0 } : Room)) (fun a U => a = #[(.ref o0)] ∧ Z.Warmed39 U.vm ∧ U.heap = h0) (fun _ _ _ _ _ => True) (fun _ U o U' => ∃ v L, o = .returned v ∧ Q3N Z o0 h0 n0 v U'.heap L ∧ FrameEnd U o U' L ({ frames := 0, cells := 0, slots := 0, locals := 0 } : Room).cells ({ frames := 0, cells := 0, slots := 0, locals := 0 } : Room).slots) := by
  refine MetFree.of_bodySF (plainFor_of_name pn_3) hisR ?_
  intro p e s m args below meth c s₁ Bd hml0 hP hK
  obtain ⟨rfl, hZ, hh⟩ := hP
  have hx := Bd.exec
  have hby := Bd.bytes
  have hml : c.maxLocals = 1 := hml0
  have hown : s.vm.findClass "com/example/rows_over_order/rowsoverorder/models/Version" = some m.cls := findClass_of_methodNamed Bd.named
  have hnm := (name_of_methodNamed Bd.named Bd.method).1
  have X0 : Stand p l e ({ frames := 0, cells := 0, slots := 0, locals := 0 } : Room) s m #[(.ref o0)] below meth c s₁ [] 0 0 := Stand.of_body Bd
  have e0 : s₁.heap = h0 := by rw [← hh, Bd.state]; rfl
  have N0 := Fr.nil n0
  show OGo p e below s (Q3N Z o0 h0 n0) ({ frames := 0, cells := 0, slots := 0, locals := 0 } : Room).cells ({ frames := 0, cells := 0, slots := 0, locals := 0 } : Room).slots _
  refine OGo.st (fun _ k => castTop (ef_3N m o0) k) ?_
  show OGo p e below s _ _ _ (s₁.setTop (mkF m 0 #[.val (.ref o0)] []))
  refine OGo.st (fun _ k => XS.aloadN X0.here hx rfl (hb hby d3_0) rfl rfl k) ?_
  show OGo p e below s _ _ _ (s₁.setTop (mkF m 1 #[.val (.ref o0)] [(.ref o0)]))
  obtain ⟨T1, X1, e1, st1⟩ := getF X0 hx hZ hown (host := "") (Or.inl (hw _ (List.mem_of_getElem? (i := 11) rfl))) Via.refl e0 F_packed (g := (mkF m 1 #[.val (.ref o0)] [(.ref o0)])) rfl rfl (hb hby d3_1)
  refine OGo.st st1 ?_
  show OGo p e below s _ _ _ (T1.setTop (mkF m 4 #[.val (.ref o0)] [.null]))
  refine OGo.st (fun _ k => XS.ifnonnullNo X1.here hx rfl (hb hby d3_4) rfl k) ?_
  show OGo p e below s _ _ _ (T1.setTop (mkF m 7 #[.val (.ref o0)] []))
  refine OGo.st (fun _ k => XS.iconst X1.here hx rfl (hb hby d3_7) k) ?_
  show OGo p e below s _ _ _ (T1.setTop (mkF m 8 #[.val (.ref o0)] [(.int (1 : Int32))]))
  refine OGo.st (fun _ k => XS.goto X1.here hx rfl (pc0 := 8) (pc' := 12) rfl (hb hby d3_8) (by decide) (by decide) k) ?_
  show OGo p e below s _ _ _ (T1.setTop (mkF m 12 #[.val (.ref o0)] [(.int (1 : Int32))]))
  exact oretN X1 hx Bd.notSynchronized (t := .boolean) Bd.returns (by simp) (hb hby d3_12) (z' := (1 : Int32)) (by decide) e1 ⟨(congrArg (fun z => some (Value.int z)) (show (1 : Int32) = f3N from Eq.symm (by unfold f3N; exact rfl))), N0, rfl⟩ (by decide) (by decide)
theorem d4_0 : decode prog_31_method_2_code 0 = .ok (.aload_n 0, 1) := by decide +kernel
theorem d4_1 : decode prog_31_method_2_code 1 = .ok (.getfield 7, 3) := by decide +kernel
theorem d4_4 : decode prog_31_method_2_code 4 = .ok (.lreturn, 1) := by decide +kernel
theorem pn_4 : plainName "com/example/rows_over_order/rowsoverorder/models/Version" = true := by first | (simp [plainName, overriddenIn]; done) | decide +kernel
theorem ef_4 (m : MethodId) (o0 : Addr) : entryFrame m #[(.ref o0)] 1 = mkF m 0 #[.val (.ref o0)] [] := by first | (simp [entryFrame, mkF, argsToLocals, Value.category]; done) | rfl
def f4 (u_t : Int64) : Int64 := u_t
def Q4 (Z : State) (o0 : Addr) (u_t : Int64) (h0 : Heap) (n0 : Nat) (v : Option Value) (h : Heap) (L : List Loc) : Prop := v = some (.long (f4 u_t)) ∧ Fr n0 L ∧ h = h0
set_option maxRecDepth 65536 in
set_option maxHeartbeats 40000000 in
theorem rm4 (l : Launch) (Z : State) (a0 : Array Value) (hw : ∀ d ∈ tables_1, d.before a0 Z = true) (ws : List Jvm.Cond) (o0 : Addr) (u_t : Int64) (h0 : Heap) (n0 : Nat) (Z0 : n0 ≤ h0.size) (F_timestamp : Fld Z h0 o0 "com/example/rows_over_order/rowsoverorder/models/Version" "timestamp" "J" (.long u_t)) :
    MetFree l (⟨"com/example/rows_over_order/rowsoverorder/models/Version", "timestamp", "()J"⟩ : MethodName) (head1 (Jvm.Cond.code (⟨"com/example/rows_over_order/rowsoverorder/models/Version", "timestamp", "()J"⟩ : MethodName) prog_31_method_2_code 1 (some .long) :: ws) ({ frames := 0, cells := 0, slots := 0, locals := 0 } : Room)) (fun a U => a = #[(.ref o0)] ∧ Z.Warmed39 U.vm ∧ U.heap = h0) (fun _ _ _ _ _ => True) (fun _ U o U' => ∃ v L, o = .returned v ∧ Q4 Z o0 u_t h0 n0 v U'.heap L ∧ FrameEnd U o U' L ({ frames := 0, cells := 0, slots := 0, locals := 0 } : Room).cells ({ frames := 0, cells := 0, slots := 0, locals := 0 } : Room).slots) := by
  refine MetFree.of_bodySF (plainFor_of_name pn_4) hisR ?_
  intro p e s m args below meth c s₁ Bd hml0 hP hK
  obtain ⟨rfl, hZ, hh⟩ := hP
  have hx := Bd.exec
  have hby := Bd.bytes
  have hml : c.maxLocals = 1 := hml0
  have hown : s.vm.findClass "com/example/rows_over_order/rowsoverorder/models/Version" = some m.cls := findClass_of_methodNamed Bd.named
  have hnm := (name_of_methodNamed Bd.named Bd.method).1
  have X0 : Stand p l e ({ frames := 0, cells := 0, slots := 0, locals := 0 } : Room) s m #[(.ref o0)] below meth c s₁ [] 0 0 := Stand.of_body Bd
  have e0 : s₁.heap = h0 := by rw [← hh, Bd.state]; rfl
  have N0 := Fr.nil n0
  show OGo p e below s (Q4 Z o0 u_t h0 n0) ({ frames := 0, cells := 0, slots := 0, locals := 0 } : Room).cells ({ frames := 0, cells := 0, slots := 0, locals := 0 } : Room).slots _
  refine OGo.st (fun _ k => castTop (ef_4 m o0) k) ?_
  show OGo p e below s _ _ _ (s₁.setTop (mkF m 0 #[.val (.ref o0)] []))
  refine OGo.st (fun _ k => XS.aloadN X0.here hx rfl (hb hby d4_0) rfl rfl k) ?_
  show OGo p e below s _ _ _ (s₁.setTop (mkF m 1 #[.val (.ref o0)] [(.ref o0)]))
  obtain ⟨T1, X1, e1, st1⟩ := getF X0 hx hZ hown (host := "") (Or.inl (hw _ (List.mem_of_getElem? (i := 9) rfl))) Via.refl e0 F_timestamp (g := (mkF m 1 #[.val (.ref o0)] [(.ref o0)])) rfl rfl (hb hby d4_1)
  refine OGo.st st1 ?_
  show OGo p e below s _ _ _ (T1.setTop (mkF m 4 #[.val (.ref o0)] [(.long u_t)]))
  exact oretJ X1 hx Bd.notSynchronized Bd.returns (hb hby d4_4) e1 ⟨(congrArg (fun z => some (Value.long z)) (show u_t = f4 u_t from Eq.symm (by unfold f4; exact rfl))), N0, rfl⟩ (by decide) (by decide)
theorem own_nn3 (x : Int32) : ¬ ((x &&& (3 : Int32)) < (0 : Int32)) := by
  have e := Jvm.Kit.i32_mask x 3 (k := 2) (by decide) (by decide)
  rw [Int32.lt_iff_toInt_lt, e, Int32.toInt_zero]; omega
theorem own_le3 (x : Int32) : (x &&& (3 : Int32)).toNatClampNeg ≤ 3 := by
  have e := Jvm.Kit.i32_mask x 3 (k := 2) (by decide) (by decide)
  have q : (x &&& (3 : Int32)).toNatClampNeg = (x &&& (3 : Int32)).toInt.toNat := rfl
  omega
theorem pn_0 : plainName "com/example/rows_over_order/rowsoverorder/models/VersionIsDeletionPinLaw" = true := by first | (simp [plainName, overriddenIn]; done) | decide +kernel
theorem pd_0_0 : parseMethodDescriptor "(J[B)V" = some ⟨[.long, (.array .byte)], none⟩ := by decide +kernel
theorem pd_0_1 : parseMethodDescriptor "()Z" = some ⟨[], some .boolean⟩ := by decide +kernel
theorem pd_0_2 : parseMethodDescriptor "()J" = some ⟨[], some .long⟩ := by decide +kernel
theorem ef_0 (m : MethodId) (q0 : Int64) (p1 : Int32) (p2 : Int32) (p3 : Int32) : entryFrame m #[(.long q0), (.int p1), (.int p2), (.int p3)] maxLocals = mkF m 0 #[.val (.long q0), .second, .val (.int p1), .val (.int p2), .val (.int p3), .unset, .unset, .unset, .unset] [] := by first | (simp [entryFrame, mkF, argsToLocals, Value.category, maxLocals]; done) | rfl
def f0 (q0 : Int64) (p1 : Int32) (p2 : Int32) (p3 : Int32) : Int32 := (if (p1 &&& (1 : Int32)) = (0 : Int32) then (if (f3N) = (1 : Int32) then (if (f4 q0) = q0 then (1 : Int32) else (0 : Int32)) else (0 : Int32)) else (if (0 : Int32) < (p2 &&& (3 : Int32)) then (if (f3) = (0 : Int32) then (if (f4 q0) = q0 then (1 : Int32) else (0 : Int32)) else (0 : Int32)) else (if (f3) = (0 : Int32) then (if (f4 q0) = q0 then (1 : Int32) else (0 : Int32)) else (0 : Int32))))
def Q0 (Z : State) (q0 : Int64) (p1 : Int32) (p2 : Int32) (p3 : Int32) (h0 : Heap) (n0 : Nat) (v : Option Value) (h : Heap) (L : List Loc) : Prop := v = some (.int (f0 q0 p1 p2 p3)) ∧ Fr n0 L
set_option maxRecDepth 65536 in
set_option maxHeartbeats 40000000 in
theorem rm0 (l : Launch) (Z : State) (a0 : Array Value) (hw : ∀ d ∈ tables_1, d.before a0 Z = true) (ws : List Jvm.Cond) (q0 : Int64) (p1 : Int32) (p2 : Int32) (p3 : Int32) (h0 : Heap) (n0 : Nat) (Z0 : n0 ≤ h0.size) :
    MetFree l x (head1 (Jvm.Cond.code x code maxLocals ret :: ws) room_1) (fun a U => a = #[(.long q0), (.int p1), (.int p2), (.int p3)] ∧ Z.Warmed39 U.vm ∧ U.heap = h0) (fun _ _ _ _ _ => True) (fun _ U o U' => ∃ v L, o = .returned v ∧ Q0 Z q0 p1 p2 p3 h0 n0 v U'.heap L ∧ FrameEnd U o U' L room_1.cells room_1.slots) := by
  refine MetFree.of_bodySF (plainFor_of_name pn_0) hisR ?_
  intro p e s m args below meth c s₁ Bd hml0 hP hK
  obtain ⟨rfl, hZ, hh⟩ := hP
  have hx := Bd.exec
  have hby := Bd.bytes
  have hml : c.maxLocals = 9 := hml0
  have hown : s.vm.findClass "com/example/rows_over_order/rowsoverorder/models/VersionIsDeletionPinLaw" = some m.cls := findClass_of_methodNamed Bd.named
  have hnm := (name_of_methodNamed Bd.named Bd.method).1
  have X0 : Stand p l e room_1 s m #[(.long q0), (.int p1), (.int p2), (.int p3)] below meth c s₁ [] 0 0 := Stand.of_body Bd
  have e0 : s₁.heap = h0 := by rw [← hh, Bd.state]; rfl
  have N0 := Fr.nil n0
  show OGo p e below s (Q0 Z q0 p1 p2 p3 h0 n0) room_1.cells room_1.slots _
  refine OGo.st (fun _ k => castTop (ef_0 m q0 p1 p2 p3) k) ?_
  show OGo p e below s _ _ _ (s₁.setTop (mkF m 0 #[.val (.long q0), .second, .val (.int p1), .val (.int p2), .val (.int p3), .unset, .unset, .unset, .unset] []))
  refine OGo.st (fun _ k => XS.iloadN X0.here hx rfl (hb hby at_0) rfl k) ?_
  show OGo p e below s _ _ _ (s₁.setTop (mkF m 1 #[.val (.long q0), .second, .val (.int p1), .val (.int p2), .val (.int p3), .unset, .unset, .unset, .unset] [(.int p1)]))
  refine OGo.st (fun _ k => XS.iconst X0.here hx rfl (hb hby at_1) k) ?_
  show OGo p e below s _ _ _ (s₁.setTop (mkF m 2 #[.val (.long q0), .second, .val (.int p1), .val (.int p2), .val (.int p3), .unset, .unset, .unset, .unset] [(.int (1 : Int32)), (.int p1)]))
  refine OGo.st (fun _ k => XS.iand X0.here hx rfl (hb hby at_2) rfl k) ?_
  show OGo p e below s _ _ _ (s₁.setTop (mkF m 3 #[.val (.long q0), .second, .val (.int p1), .val (.int p2), .val (.int p3), .unset, .unset, .unset, .unset] [(.int (p1 &&& (1 : Int32)))]))
  by_cases hc3 : (p1 &&& (1 : Int32)) = (0 : Int32)
  · refine OGo.st (fun _ k => XS.ifNo X0.here hx rfl (hb hby at_3) rfl ((if0 _ _).trans (teq hc3).2) k) ?_
    show OGo p e below s _ _ _ (s₁.setTop (mkF m 6 #[.val (.long q0), .second, .val (.int p1), .val (.int p2), .val (.int p3), .unset, .unset, .unset, .unset] []))
    refine OGo.st (fun _ k => XS.iconst X0.here hx rfl (hb hby at_6) k) ?_
    show OGo p e below s _ _ _ (s₁.setTop (mkF m 7 #[.val (.long q0), .second, .val (.int p1), .val (.int p2), .val (.int p3), .unset, .unset, .unset, .unset] [(.int (1 : Int32))]))
    refine OGo.st (fun _ k => XS.goto X0.here hx rfl (pc0 := 7) (pc' := 11) rfl (hb hby at_7) (by decide) (by decide) k) ?_
    show OGo p e below s _ _ _ (s₁.setTop (mkF m 11 #[.val (.long q0), .second, .val (.int p1), .val (.int p2), .val (.int p3), .unset, .unset, .unset, .unset] [(.int (1 : Int32))]))
    refine OGo.st (fun _ k => XS.istore X0.here hx rfl (hb hby at_11) rfl (l' := #[.val (.long q0), .second, .val (.int p1), .val (.int p2), .val (.int p3), .val (.int (1 : Int32)), .unset, .unset, .unset]) rfl k) ?_
    show OGo p e below s _ _ _ (s₁.setTop (mkF m 13 #[.val (.long q0), .second, .val (.int p1), .val (.int p2), .val (.int p3), .val (.int (1 : Int32)), .unset, .unset, .unset] []))
    refine OGo.st (fun _ k => XS.aconstNull X0.here hx rfl (hb hby at_13) k) ?_
    show OGo p e below s _ _ _ (s₁.setTop (mkF m 14 #[.val (.long q0), .second, .val (.int p1), .val (.int p2), .val (.int p3), .val (.int (1 : Int32)), .unset, .unset, .unset] [.null]))
    refine OGo.st (fun _ k => XS.astore X0.here hx rfl (hb hby at_14) rfl rfl (l' := #[.val (.long q0), .second, .val (.int p1), .val (.int p2), .val (.int p3), .val (.int (1 : Int32)), .val .null, .unset, .unset]) rfl k) ?_
    show OGo p e below s _ _ _ (s₁.setTop (mkF m 16 #[.val (.long q0), .second, .val (.int p1), .val (.int p2), .val (.int p3), .val (.int (1 : Int32)), .val .null, .unset, .unset] []))
    refine OGo.st (fun _ k => XS.iload X0.here hx rfl (hb hby at_16) rfl k) ?_
    show OGo p e below s _ _ _ (s₁.setTop (mkF m 18 #[.val (.long q0), .second, .val (.int p1), .val (.int p2), .val (.int p3), .val (.int (1 : Int32)), .val .null, .unset, .unset] [(.int (1 : Int32))]))
    refine OGo.st (fun _ k => XS.ifYes X0.here hx rfl (pc0 := 18) (pc' := 41) rfl (hb hby at_18) rfl ((if0 _ _).trans (feq (by decide : ¬ ((1 : Int32) = (0 : Int32)))).2) (by decide) (by decide) k) ?_
    show OGo p e below s _ _ _ (s₁.setTop (mkF m 41 #[.val (.long q0), .second, .val (.int p1), .val (.int p2), .val (.int p3), .val (.int (1 : Int32)), .val .null, .unset, .unset] []))
    obtain ⟨T1, h1, X1, e1, E1, A1, D1, U1, st1⟩ := newO X0 hx hZ hown (hw _ (List.mem_of_getElem? (i := 0) rfl)) (hw _ (List.mem_of_getElem? (i := 1) rfl)) (hw _ (List.mem_of_getElem? (i := 2) rfl)) e0 (g := (mkF m 41 #[.val (.long q0), .second, .val (.int p1), .val (.int p2), .val (.int p3), .val (.int (1 : Int32)), .val .null, .unset, .unset] [])) rfl (hb hby at_41) (by decide) (by decide)
    obtain ⟨b1, g1⟩ : ∃ z, z = h0.size := ⟨_, rfl⟩
    rw [← g1] at A1 D1 U1 st1
    refine OGo.st st1 ?_
    have g_b1 : n0 ≤ b1 := Nat.le_trans Z0 (Nat.le_of_eq g1.symm)
    have sz_b1 : h0.size ≤ b1 := Nat.le_trans (Keep.refl h0 []).1 (Nat.le_of_eq g1.symm)
    have K1 : Keep h0 h1 [] := (Keep.refl h0 _).ext E1
    have Z1 : n0 ≤ h1.size := Nat.le_trans Z0 E1.1
    have F_timestamp_b1 : Fld Z h1 b1 "com/example/rows_over_order/rowsoverorder/models/Version" "timestamp" "J" (.long (0 : Int64)) := D1 (Or.inr (hw _ (List.mem_of_getElem? (i := 10) rfl))) (ty := .long) (by decide)
    have F_packed_b1 : Fld Z h1 b1 "com/example/rows_over_order/rowsoverorder/models/Version" "packed" "[B" .null := D1 (Or.inr (hw _ (List.mem_of_getElem? (i := 12) rfl))) (ty := (.array .byte)) (by decide)
    show OGo p e below s _ _ _ (T1.setTop (mkF m 44 #[.val (.long q0), .second, .val (.int p1), .val (.int p2), .val (.int p3), .val (.int (1 : Int32)), .val .null, .unset, .unset] [(.ref b1)]))
    refine OGo.st (fun _ k => XS.dup X1.here hx rfl (hb hby at_44) rfl rfl k) ?_
    show OGo p e below s _ _ _ (T1.setTop (mkF m 45 #[.val (.long q0), .second, .val (.int p1), .val (.int p2), .val (.int p3), .val (.int (1 : Int32)), .val .null, .unset, .unset] [(.ref b1), (.ref b1)]))
    refine OGo.st (fun _ k => XS.lloadN X1.here hx rfl (hb hby at_45) rfl k) ?_
    show OGo p e below s _ _ _ (T1.setTop (mkF m 46 #[.val (.long q0), .second, .val (.int p1), .val (.int p2), .val (.int p3), .val (.int (1 : Int32)), .val .null, .unset, .unset] [(.long q0), (.ref b1), (.ref b1)]))
    refine OGo.st (fun _ k => XS.aload X1.here hx rfl (hb hby at_46) rfl rfl k) ?_
    show OGo p e below s _ _ _ (T1.setTop (mkF m 48 #[.val (.long q0), .second, .val (.int p1), .val (.int p2), .val (.int p3), .val (.int (1 : Int32)), .val .null, .unset, .unset] [.null, (.long q0), (.ref b1), (.ref b1)]))
    obtain ⟨_, _, ⟨T2, L2, k2, n2⟩, -, X2, ⟨Lc2, hQ2, l2, y2, z2⟩, st2⟩ := X1.specialBack hx (y := (⟨"com/example/rows_over_order/rowsoverorder/models/Version", "<init>", "(J[B)V"⟩ : MethodName)) rfl hown (mvT hZ (hw _ (List.mem_of_getElem? (i := 3) rfl))) (mvT hZ (hw _ (List.mem_of_getElem? (i := 4) rfl))) (mvT hZ (hw _ (List.mem_of_getElem? (i := 5) rfl))) (by decide) (backOf (W := 1) (rm1N l Z a0 hw [] b1 q0 h1 n0 Z1 A1 F_timestamp_b1 F_packed_b1 g_b1) hZ (hw _ (List.mem_of_getElem? (i := 5) rfl)) (hw _ (List.mem_of_getElem? (i := 2) rfl)) (by decide) (by decide)) (g := (mkF m 48 #[.val (.long q0), .second, .val (.int p1), .val (.int p2), .val (.int p3), .val (.int (1 : Int32)), .val .null, .unset, .unset] [.null, (.long q0), (.ref b1), (.ref b1)])) rfl (by rw [hml]; rfl) (Steps.refl _) (a := b1) (argsL := [(.long q0), .null]) (rest := [(.ref b1)]) (lenOf pd_0_0 rfl) rfl (by show 2 * 0 + _ ≤ _; exact Nat.le_of_eq rfl) (hb hby at_48) (fun _ _ => ⟨rfl, e1, (by decide : 1 + 0 ≤ _), (by decide : 2 + 0 ≤ _)⟩)
    dsimp only [Pt.U, Pt.locs, Pt.cells, Pt.slots] at X2 l2 y2 z2 st2 hQ2
    subst l2 y2 z2
    obtain ⟨rfl, N2q, Kc2, G2_0, G2_1⟩ := hQ2
    have A1_w2 := A1.keep Kc2
    have K2 : Keep h0 T2.heap [] := (K1).trans Kc2 (allS (Or.inr sz_b1) all0)
    have Z2 : n0 ≤ T2.heap.size := Nat.le_trans Z1 Kc2.1
    have N2 := Fr.app N0 N2q
    refine OGo.st (fun _ k => st2.trans k) ?_
    show OGo p e below s _ _ _ (T2.setTop (mkF m 51 #[.val (.long q0), .second, .val (.int p1), .val (.int p2), .val (.int p3), .val (.int (1 : Int32)), .val .null, .unset, .unset] [(.ref b1)]))
    refine OGo.st (fun _ k => XS.astore X2.here hx rfl (hb hby at_51) rfl rfl (l' := #[.val (.long q0), .second, .val (.int p1), .val (.int p2), .val (.int p3), .val (.int (1 : Int32)), .val .null, .val (.ref b1), .unset]) rfl k) ?_
    show OGo p e below s _ _ _ (T2.setTop (mkF m 53 #[.val (.long q0), .second, .val (.int p1), .val (.int p2), .val (.int p3), .val (.int (1 : Int32)), .val .null, .val (.ref b1), .unset] []))
    refine OGo.st (fun _ k => XS.aload X2.here hx rfl (hb hby at_53) rfl rfl k) ?_
    show OGo p e below s _ _ _ (T2.setTop (mkF m 55 #[.val (.long q0), .second, .val (.int p1), .val (.int p2), .val (.int p3), .val (.int (1 : Int32)), .val .null, .val (.ref b1), .unset] [(.ref b1)]))
    obtain ⟨cq3, kq3, q3a, q3b, q3c⟩ := isOf hZ rfl A1_w2
    obtain ⟨_, _, ⟨T3, L3, k3, n3⟩, -, X3, ⟨Lc3, hQ3, l3, y3, z3⟩, st3⟩ := X2.virtualBack hx (y := (⟨"com/example/rows_over_order/rowsoverorder/models/Version", "isDeletion", "()Z"⟩ : MethodName)) (z := (⟨"com/example/rows_over_order/rowsoverorder/models/Version", "isDeletion", "()Z"⟩ : MethodName)) hown (mvT hZ (hw _ (List.mem_of_getElem? (i := 13) rfl))) (mvT hZ (hw _ (List.mem_of_getElem? (i := 14) rfl))) (notFace_of_selects (args := #[]) (mvT hZ (hw _ (List.mem_of_getElem? (i := 16) rfl)))) (mvT hZ (hw _ (List.mem_of_getElem? (i := 16) rfl))) (mvT hZ (hw _ (List.mem_of_getElem? (i := 15) rfl))) (by decide) (backOf (W := 0) (rm3N l Z a0 hw [] b1 T2.heap n0 Z2 G2_1) hZ (hw _ (List.mem_of_getElem? (i := 17) rfl)) (hw _ (List.mem_of_getElem? (i := 2) rfl)) (by decide) (by decide)) q3a q3c (g := (mkF m 55 #[.val (.long q0), .second, .val (.int p1), .val (.int p2), .val (.int p3), .val (.int (1 : Int32)), .val .null, .val (.ref b1), .unset] [(.ref b1)])) rfl (by rw [hml]; rfl) (Steps.refl _) (argsL := []) (rest := []) (lenOf pd_0_1 rfl) rfl (by show 2 * 0 + _ ≤ _; exact Nat.le_of_eq rfl) (hb hby at_55) (fun _ _ => ⟨rfl, rfl, (by decide : 1 + 0 ≤ _), (by decide : 2 + 0 ≤ _)⟩)
    dsimp only [Pt.U, Pt.locs, Pt.cells, Pt.slots] at X3 l3 y3 z3 st3 hQ3
    subst l3 y3 z3
    obtain ⟨rfl, N3q, e3⟩ := hQ3
    have N3 := Fr.app N2 N3q
    refine OGo.st (fun _ k => st3.trans k) ?_
    show OGo p e below s _ _ _ (T3.setTop (mkF m 58 #[.val (.long q0), .second, .val (.int p1), .val (.int p2), .val (.int p3), .val (.int (1 : Int32)), .val .null, .val (.ref b1), .unset] [(.int (f3N))]))
    refine OGo.st (fun _ k => XS.istore X3.here hx rfl (hb hby at_58) rfl (l' := #[.val (.long q0), .second, .val (.int p1), .val (.int p2), .val (.int p3), .val (.int (1 : Int32)), .val .null, .val (.ref b1), .val (.int (f3N))]) rfl k) ?_
    show OGo p e below s _ _ _ (T3.setTop (mkF m 60 #[.val (.long q0), .second, .val (.int p1), .val (.int p2), .val (.int p3), .val (.int (1 : Int32)), .val .null, .val (.ref b1), .val (.int (f3N))] []))
    refine OGo.st (fun _ k => XS.iload X3.here hx rfl (hb hby at_60) rfl k) ?_
    show OGo p e below s _ _ _ (T3.setTop (mkF m 62 #[.val (.long q0), .second, .val (.int p1), .val (.int p2), .val (.int p3), .val (.int (1 : Int32)), .val .null, .val (.ref b1), .val (.int (f3N))] [(.int (f3N))]))
    refine OGo.st (fun _ k => XS.iload X3.here hx rfl (hb hby at_62) rfl k) ?_
    show OGo p e below s _ _ _ (T3.setTop (mkF m 64 #[.val (.long q0), .second, .val (.int p1), .val (.int p2), .val (.int p3), .val (.int (1 : Int32)), .val .null, .val (.ref b1), .val (.int (f3N))] [(.int (1 : Int32)), (.int (f3N))]))
    by_cases hc64 : (f3N) = (1 : Int32)
    · refine OGo.st (fun _ k => XS.icmpNo X3.here hx rfl (hb hby at_64) rfl (teq hc64).2 k) ?_
      show OGo p e below s _ _ _ (T3.setTop (mkF m 67 #[.val (.long q0), .second, .val (.int p1), .val (.int p2), .val (.int p3), .val (.int (1 : Int32)), .val .null, .val (.ref b1), .val (.int (f3N))] []))
      refine OGo.st (fun _ k => XS.aload X3.here hx rfl (hb hby at_67) rfl rfl k) ?_
      show OGo p e below s _ _ _ (T3.setTop (mkF m 69 #[.val (.long q0), .second, .val (.int p1), .val (.int p2), .val (.int p3), .val (.int (1 : Int32)), .val .null, .val (.ref b1), .val (.int (f3N))] [(.ref b1)]))
      obtain ⟨cq4, kq4, q4a, q4b, q4c⟩ := isOf hZ e3 A1_w2
      obtain ⟨_, _, ⟨T4, L4, k4, n4⟩, -, X4, ⟨Lc4, hQ4, l4, y4, z4⟩, st4⟩ := X3.virtualBack hx (y := (⟨"com/example/rows_over_order/rowsoverorder/models/Version", "timestamp", "()J"⟩ : MethodName)) (z := (⟨"com/example/rows_over_order/rowsoverorder/models/Version", "timestamp", "()J"⟩ : MethodName)) hown (mvT hZ (hw _ (List.mem_of_getElem? (i := 18) rfl))) (mvT hZ (hw _ (List.mem_of_getElem? (i := 19) rfl))) (notFace_of_selects (args := #[]) (mvT hZ (hw _ (List.mem_of_getElem? (i := 21) rfl)))) (mvT hZ (hw _ (List.mem_of_getElem? (i := 21) rfl))) (mvT hZ (hw _ (List.mem_of_getElem? (i := 20) rfl))) (by decide) (backOf (W := 0) (rm4 l Z a0 hw [] b1 q0 T2.heap n0 Z2 G2_0) hZ (hw _ (List.mem_of_getElem? (i := 22) rfl)) (hw _ (List.mem_of_getElem? (i := 2) rfl)) (by decide) (by decide)) q4a q4c (g := (mkF m 69 #[.val (.long q0), .second, .val (.int p1), .val (.int p2), .val (.int p3), .val (.int (1 : Int32)), .val .null, .val (.ref b1), .val (.int (f3N))] [(.ref b1)])) rfl (by rw [hml]; rfl) (Steps.refl _) (argsL := []) (rest := []) (lenOf pd_0_2 rfl) rfl (by show 2 * 0 + _ ≤ _; exact Nat.le_of_eq rfl) (hb hby at_69) (fun _ _ => ⟨rfl, e3, (by decide : 1 + 0 ≤ _), (by decide : 2 + 0 ≤ _)⟩)
      dsimp only [Pt.U, Pt.locs, Pt.cells, Pt.slots] at X4 l4 y4 z4 st4 hQ4
      subst l4 y4 z4
      obtain ⟨rfl, N4q, e4⟩ := hQ4
      have N4 := Fr.app N3 N4q
      refine OGo.st (fun _ k => st4.trans k) ?_
      show OGo p e below s _ _ _ (T4.setTop (mkF m 72 #[.val (.long q0), .second, .val (.int p1), .val (.int p2), .val (.int p3), .val (.int (1 : Int32)), .val .null, .val (.ref b1), .val (.int (f3N))] [(.long (f4 q0))]))
      refine OGo.st (fun _ k => XS.lloadN X4.here hx rfl (hb hby at_72) rfl k) ?_
      show OGo p e below s _ _ _ (T4.setTop (mkF m 73 #[.val (.long q0), .second, .val (.int p1), .val (.int p2), .val (.int p3), .val (.int (1 : Int32)), .val .null, .val (.ref b1), .val (.int (f3N))] [(.long q0), (.long (f4 q0))]))
      refine OGo.st (fun _ k => XS.lcmp X4.here hx rfl (hb hby at_73) rfl k) ?_
      show OGo p e below s _ _ _ (T4.setTop (mkF m 74 #[.val (.long q0), .second, .val (.int p1), .val (.int p2), .val (.int p3), .val (.int (1 : Int32)), .val .null, .val (.ref b1), .val (.int (f3N))] [(.int (lcmpW (f4 q0) q0))]))
      by_cases hc74 : (f4 q0) = q0
      · refine OGo.st (fun _ k => XS.ifNo X4.here hx rfl (hb hby at_74) rfl ((if0 _ _).trans (teq ((olc_eq _ _).mpr hc74)).2) k) ?_
        show OGo p e below s _ _ _ (T4.setTop (mkF m 77 #[.val (.long q0), .second, .val (.int p1), .val (.int p2), .val (.int p3), .val (.int (1 : Int32)), .val .null, .val (.ref b1), .val (.int (f3N))] []))
        refine OGo.st (fun _ k => XS.iconst X4.here hx rfl (hb hby at_77) k) ?_
        show OGo p e below s _ _ _ (T4.setTop (mkF m 78 #[.val (.long q0), .second, .val (.int p1), .val (.int p2), .val (.int p3), .val (.int (1 : Int32)), .val .null, .val (.ref b1), .val (.int (f3N))] [(.int (1 : Int32))]))
        refine OGo.st (fun _ k => XS.goto X4.here hx rfl (pc0 := 78) (pc' := 82) rfl (hb hby at_78) (by decide) (by decide) k) ?_
        show OGo p e below s _ _ _ (T4.setTop (mkF m 82 #[.val (.long q0), .second, .val (.int p1), .val (.int p2), .val (.int p3), .val (.int (1 : Int32)), .val .null, .val (.ref b1), .val (.int (f3N))] [(.int (1 : Int32))]))
        exact oretN X4 hx Bd.notSynchronized (t := .boolean) Bd.returns (by simp) (hb hby at_82) (z' := (1 : Int32)) (by decide) e4 ⟨(congrArg (fun z => some (Value.int z)) (show (1 : Int32) = f0 q0 p1 p2 p3 from Eq.symm (by unfold f0; exact (if_pos hc3).trans ((if_pos hc64).trans (if_pos hc74))))), N4⟩ (by decide) (by decide)
      · refine OGo.st (fun _ k => XS.ifYes X4.here hx rfl (pc0 := 74) (pc' := 81) rfl (hb hby at_74) rfl ((if0 _ _).trans (feq (fun z => hc74 ((olc_eq _ _).mp z))).2) (by decide) (by decide) k) ?_
        show OGo p e below s _ _ _ (T4.setTop (mkF m 81 #[.val (.long q0), .second, .val (.int p1), .val (.int p2), .val (.int p3), .val (.int (1 : Int32)), .val .null, .val (.ref b1), .val (.int (f3N))] []))
        refine OGo.st (fun _ k => XS.iconst X4.here hx rfl (hb hby at_81) k) ?_
        show OGo p e below s _ _ _ (T4.setTop (mkF m 82 #[.val (.long q0), .second, .val (.int p1), .val (.int p2), .val (.int p3), .val (.int (1 : Int32)), .val .null, .val (.ref b1), .val (.int (f3N))] [(.int (0 : Int32))]))
        exact oretN X4 hx Bd.notSynchronized (t := .boolean) Bd.returns (by simp) (hb hby at_82) (z' := (0 : Int32)) (by decide) e4 ⟨(congrArg (fun z => some (Value.int z)) (show (0 : Int32) = f0 q0 p1 p2 p3 from Eq.symm (by unfold f0; exact (if_pos hc3).trans ((if_pos hc64).trans (if_neg hc74))))), N4⟩ (by decide) (by decide)
    · refine OGo.st (fun _ k => XS.icmpYes X3.here hx rfl (pc0 := 64) (pc' := 81) rfl (hb hby at_64) rfl (feq hc64).2 (by decide) (by decide) k) ?_
      show OGo p e below s _ _ _ (T3.setTop (mkF m 81 #[.val (.long q0), .second, .val (.int p1), .val (.int p2), .val (.int p3), .val (.int (1 : Int32)), .val .null, .val (.ref b1), .val (.int (f3N))] []))
      refine OGo.st (fun _ k => XS.iconst X3.here hx rfl (hb hby at_81) k) ?_
      show OGo p e below s _ _ _ (T3.setTop (mkF m 82 #[.val (.long q0), .second, .val (.int p1), .val (.int p2), .val (.int p3), .val (.int (1 : Int32)), .val .null, .val (.ref b1), .val (.int (f3N))] [(.int (0 : Int32))]))
      exact oretN X3 hx Bd.notSynchronized (t := .boolean) Bd.returns (by simp) (hb hby at_82) (z' := (0 : Int32)) (by decide) e3 ⟨(congrArg (fun z => some (Value.int z)) (show (0 : Int32) = f0 q0 p1 p2 p3 from Eq.symm (by unfold f0; exact (if_pos hc3).trans (if_neg hc64)))), N3⟩ (by decide) (by decide)
  · refine OGo.st (fun _ k => XS.ifYes X0.here hx rfl (pc0 := 3) (pc' := 10) rfl (hb hby at_3) rfl ((if0 _ _).trans (feq hc3).2) (by decide) (by decide) k) ?_
    show OGo p e below s _ _ _ (s₁.setTop (mkF m 10 #[.val (.long q0), .second, .val (.int p1), .val (.int p2), .val (.int p3), .unset, .unset, .unset, .unset] []))
    refine OGo.st (fun _ k => XS.iconst X0.here hx rfl (hb hby at_10) k) ?_
    show OGo p e below s _ _ _ (s₁.setTop (mkF m 11 #[.val (.long q0), .second, .val (.int p1), .val (.int p2), .val (.int p3), .unset, .unset, .unset, .unset] [(.int (0 : Int32))]))
    refine OGo.st (fun _ k => XS.istore X0.here hx rfl (hb hby at_11) rfl (l' := #[.val (.long q0), .second, .val (.int p1), .val (.int p2), .val (.int p3), .val (.int (0 : Int32)), .unset, .unset, .unset]) rfl k) ?_
    show OGo p e below s _ _ _ (s₁.setTop (mkF m 13 #[.val (.long q0), .second, .val (.int p1), .val (.int p2), .val (.int p3), .val (.int (0 : Int32)), .unset, .unset, .unset] []))
    refine OGo.st (fun _ k => XS.aconstNull X0.here hx rfl (hb hby at_13) k) ?_
    show OGo p e below s _ _ _ (s₁.setTop (mkF m 14 #[.val (.long q0), .second, .val (.int p1), .val (.int p2), .val (.int p3), .val (.int (0 : Int32)), .unset, .unset, .unset] [.null]))
    refine OGo.st (fun _ k => XS.astore X0.here hx rfl (hb hby at_14) rfl rfl (l' := #[.val (.long q0), .second, .val (.int p1), .val (.int p2), .val (.int p3), .val (.int (0 : Int32)), .val .null, .unset, .unset]) rfl k) ?_
    show OGo p e below s _ _ _ (s₁.setTop (mkF m 16 #[.val (.long q0), .second, .val (.int p1), .val (.int p2), .val (.int p3), .val (.int (0 : Int32)), .val .null, .unset, .unset] []))
    refine OGo.st (fun _ k => XS.iload X0.here hx rfl (hb hby at_16) rfl k) ?_
    show OGo p e below s _ _ _ (s₁.setTop (mkF m 18 #[.val (.long q0), .second, .val (.int p1), .val (.int p2), .val (.int p3), .val (.int (0 : Int32)), .val .null, .unset, .unset] [(.int (0 : Int32))]))
    refine OGo.st (fun _ k => XS.ifNo X0.here hx rfl (hb hby at_18) rfl ((if0 _ _).trans (teq (by decide : (0 : Int32) = (0 : Int32))).2) k) ?_
    show OGo p e below s _ _ _ (s₁.setTop (mkF m 21 #[.val (.long q0), .second, .val (.int p1), .val (.int p2), .val (.int p3), .val (.int (0 : Int32)), .val .null, .unset, .unset] []))
    refine OGo.st (fun _ k => XS.iloadN X0.here hx rfl (hb hby at_21) rfl k) ?_
    show OGo p e below s _ _ _ (s₁.setTop (mkF m 22 #[.val (.long q0), .second, .val (.int p1), .val (.int p2), .val (.int p3), .val (.int (0 : Int32)), .val .null, .unset, .unset] [(.int p2)]))
    refine OGo.st (fun _ k => XS.iconst X0.here hx rfl (hb hby at_22) k) ?_
    show OGo p e below s _ _ _ (s₁.setTop (mkF m 23 #[.val (.long q0), .second, .val (.int p1), .val (.int p2), .val (.int p3), .val (.int (0 : Int32)), .val .null, .unset, .unset] [(.int (3 : Int32)), (.int p2)]))
    refine OGo.st (fun _ k => XS.iand X0.here hx rfl (hb hby at_23) rfl k) ?_
    show OGo p e below s _ _ _ (s₁.setTop (mkF m 24 #[.val (.long q0), .second, .val (.int p1), .val (.int p2), .val (.int p3), .val (.int (0 : Int32)), .val .null, .unset, .unset] [(.int (p2 &&& (3 : Int32)))]))
    obtain ⟨T5, h5, k5, X5, e5, E5, A5, st5⟩ := newP X0 hx hZ (hw _ (List.mem_of_getElem? (i := 23) rfl)) e0 (g := (mkF m 24 #[.val (.long q0), .second, .val (.int p1), .val (.int p2), .val (.int p3), .val (.int (0 : Int32)), .val .null, .unset, .unset] [(.int (p2 &&& (3 : Int32)))])) rfl (hb hby at_24) rfl (own_nn3 _) (cap := 3) (own_le3 _) (by decide) (by decide) (by decide)
    obtain ⟨b5, g5⟩ : ∃ z, z = h0.size := ⟨_, rfl⟩
    rw [← g5] at A5 st5
    refine OGo.st st5 ?_
    have g_b5 : n0 ≤ b5 := Nat.le_trans Z0 (Nat.le_of_eq g5.symm)
    have sz_b5 : h0.size ≤ b5 := Nat.le_trans (Keep.refl h0 []).1 (Nat.le_of_eq g5.symm)
    have K5 : Keep h0 h5 [] := (Keep.refl h0 _).ext E5
    have Z5 : n0 ≤ h5.size := Nat.le_trans Z0 E5.1
    have V_b5 : Arv Z h5 b5 k5 .byte (p2 &&& (3 : Int32)) [(.int (0 : Int32)), (.int (0 : Int32)), (.int (0 : Int32))] (.int (0 : Int32)) := (Arv.new A5 (own_nn3 _)).pad (pad_rep [] (.int (0 : Int32)) 3)
    show OGo p e below s _ _ _ (T5.setTop (mkF m 26 #[.val (.long q0), .second, .val (.int p1), .val (.int p2), .val (.int p3), .val (.int (0 : Int32)), .val .null, .unset, .unset] [(.ref b5)]))
    refine OGo.st (fun _ k => XS.astore X5.here hx rfl (hb hby at_26) rfl rfl (l' := #[.val (.long q0), .second, .val (.int p1), .val (.int p2), .val (.int p3), .val (.int (0 : Int32)), .val (.ref b5), .unset, .unset]) rfl k) ?_
    show OGo p e below s _ _ _ (T5.setTop (mkF m 28 #[.val (.long q0), .second, .val (.int p1), .val (.int p2), .val (.int p3), .val (.int (0 : Int32)), .val (.ref b5), .unset, .unset] []))
    refine OGo.st (fun _ k => XS.aload X5.here hx rfl (hb hby at_28) rfl rfl k) ?_
    show OGo p e below s _ _ _ (T5.setTop (mkF m 30 #[.val (.long q0), .second, .val (.int p1), .val (.int p2), .val (.int p3), .val (.int (0 : Int32)), .val (.ref b5), .unset, .unset] [(.ref b5)]))
    obtain ⟨cl6, Ar6, -, Sz6, Nn6, -, -⟩ := id V_b5
    refine OGo.st (fun _ k => X5.arraylength hx (by rw [e5]; exact Ar6.1) (State.isArrayOf_alike hZ.alike Ar6.2.1) (g := (mkF m 30 #[.val (.long q0), .second, .val (.int p1), .val (.int p2), .val (.int p3), .val (.int (0 : Int32)), .val (.ref b5), .unset, .unset] [(.ref b5)])) rfl rfl (hb hby at_30) _ k) ?_
    rw [len_of Sz6 Nn6]
    show OGo p e below s _ _ _ (T5.setTop (mkF m 31 #[.val (.long q0), .second, .val (.int p1), .val (.int p2), .val (.int p3), .val (.int (0 : Int32)), .val (.ref b5), .unset, .unset] [(.int (p2 &&& (3 : Int32)))]))
    by_cases hc31 : (0 : Int32) < (p2 &&& (3 : Int32))
    · refine OGo.st (fun _ k => XS.ifNo X5.here hx rfl (hb hby at_31) rfl ((if0 _ _).trans (tlt hc31).2.2.2) k) ?_
      show OGo p e below s _ _ _ (T5.setTop (mkF m 34 #[.val (.long q0), .second, .val (.int p1), .val (.int p2), .val (.int p3), .val (.int (0 : Int32)), .val (.ref b5), .unset, .unset] []))
      refine OGo.st (fun _ k => XS.aload X5.here hx rfl (hb hby at_34) rfl rfl k) ?_
      show OGo p e below s _ _ _ (T5.setTop (mkF m 36 #[.val (.long q0), .second, .val (.int p1), .val (.int p2), .val (.int p3), .val (.int (0 : Int32)), .val (.ref b5), .unset, .unset] [(.ref b5)]))
      refine OGo.st (fun _ k => XS.iconst X5.here hx rfl (hb hby at_36) k) ?_
      show OGo p e below s _ _ _ (T5.setTop (mkF m 37 #[.val (.long q0), .second, .val (.int p1), .val (.int p2), .val (.int p3), .val (.int (0 : Int32)), .val (.ref b5), .unset, .unset] [(.int (0 : Int32)), (.ref b5)]))
      refine OGo.st (fun _ k => XS.iload X5.here hx rfl (hb hby at_37) rfl k) ?_
      show OGo p e below s _ _ _ (T5.setTop (mkF m 39 #[.val (.long q0), .second, .val (.int p1), .val (.int p2), .val (.int p3), .val (.int (0 : Int32)), .val (.ref b5), .unset, .unset] [(.int p3), (.int (0 : Int32)), (.ref b5)]))
      refine OGo.st (fun _ k => XS.i2b X5.here hx rfl (hb hby at_39) rfl k) ?_
      show OGo p e below s _ _ _ (T5.setTop (mkF m 40 #[.val (.long q0), .second, .val (.int p1), .val (.int p2), .val (.int p3), .val (.int (0 : Int32)), .val (.ref b5), .unset, .unset] [(.int (p3.toInt8.toInt32)), (.int (0 : Int32)), (.ref b5)]))
      obtain ⟨cl7, Ar7, q7, Sz7, Nn7, Hs7, Gs7⟩ := id V_b5
      have hin7 : ¬ ((0 : Int32) < 0 ∨ cl7.slots.size ≤ ((0 : Int32)).toNatClampNeg) := inb_of Sz7 ⟨by decide, hc31⟩
      obtain ⟨T7, h7, X7, e7, W7, st7⟩ := stB X5 hx hZ e5 Ar7 (j := (0 : Int32)) hin7 (g := (mkF m 40 #[.val (.long q0), .second, .val (.int p1), .val (.int p2), .val (.int p3), .val (.int (0 : Int32)), .val (.ref b5), .unset, .unset] [(.int (p3.toInt8.toInt32)), (.int (0 : Int32)), (.ref b5)])) rfl rfl (hb hby at_40)
      refine OGo.st st7 ?_
      have K7 : Keep h0 h7 [] := (K5).wr W7 (Or.inr sz_b5)
      have N7 := Fr.snoc X7 N0 g_b5
      have Z7 : n0 ≤ h7.size := Nat.le_trans Z5 (Keep.of_wr W7).1
      have V7 : Arv Z h7 b5 k5 .byte (p2 &&& (3 : Int32)) [(.int (nar .byte (p3.toInt8.toInt32))), (.int (0 : Int32)), (.int (0 : Int32))] (.int (0 : Int32)) := Arv.set Ar7 q7 Sz7 Nn7 Hs7 Gs7 (fits_nar_byte _) W7 0 rfl (Nat.le_of_ble_eq_true rfl)
      show OGo p e below s _ _ _ (T7.setTop (mkF m 41 #[.val (.long q0), .second, .val (.int p1), .val (.int p2), .val (.int p3), .val (.int (0 : Int32)), .val (.ref b5), .unset, .unset] []))
      obtain ⟨T8, h8, X8, e8, E8, A8, D8, U8, st8⟩ := newO X7 hx hZ hown (hw _ (List.mem_of_getElem? (i := 0) rfl)) (hw _ (List.mem_of_getElem? (i := 1) rfl)) (hw _ (List.mem_of_getElem? (i := 2) rfl)) e7 (g := (mkF m 41 #[.val (.long q0), .second, .val (.int p1), .val (.int p2), .val (.int p3), .val (.int (0 : Int32)), .val (.ref b5), .unset, .unset] [])) rfl (hb hby at_41) (by decide) (by decide)
      obtain ⟨b8, g8⟩ : ∃ z, z = h7.size := ⟨_, rfl⟩
      rw [← g8] at A8 D8 U8 st8
      refine OGo.st st8 ?_
      have V7_w8 := V7.ext E8
      have ne_b5_b8 : b5 ≠ b8 := Nat.ne_of_lt (Nat.lt_of_lt_of_le V7.lt (Nat.le_of_eq g8.symm))
      have g_b8 : n0 ≤ b8 := Nat.le_trans Z7 (Nat.le_of_eq g8.symm)
      have sz_b8 : h0.size ≤ b8 := Nat.le_trans (K7).1 (Nat.le_of_eq g8.symm)
      have K8 : Keep h0 h8 [] := (K7).ext E8
      have Z8 : n0 ≤ h8.size := Nat.le_trans Z7 E8.1
      have F_timestamp_b8 : Fld Z h8 b8 "com/example/rows_over_order/rowsoverorder/models/Version" "timestamp" "J" (.long (0 : Int64)) := D8 (Or.inr (hw _ (List.mem_of_getElem? (i := 10) rfl))) (ty := .long) (by decide)
      have F_packed_b8 : Fld Z h8 b8 "com/example/rows_over_order/rowsoverorder/models/Version" "packed" "[B" .null := D8 (Or.inr (hw _ (List.mem_of_getElem? (i := 12) rfl))) (ty := (.array .byte)) (by decide)
      show OGo p e below s _ _ _ (T8.setTop (mkF m 44 #[.val (.long q0), .second, .val (.int p1), .val (.int p2), .val (.int p3), .val (.int (0 : Int32)), .val (.ref b5), .unset, .unset] [(.ref b8)]))
      refine OGo.st (fun _ k => XS.dup X8.here hx rfl (hb hby at_44) rfl rfl k) ?_
      show OGo p e below s _ _ _ (T8.setTop (mkF m 45 #[.val (.long q0), .second, .val (.int p1), .val (.int p2), .val (.int p3), .val (.int (0 : Int32)), .val (.ref b5), .unset, .unset] [(.ref b8), (.ref b8)]))
      refine OGo.st (fun _ k => XS.lloadN X8.here hx rfl (hb hby at_45) rfl k) ?_
      show OGo p e below s _ _ _ (T8.setTop (mkF m 46 #[.val (.long q0), .second, .val (.int p1), .val (.int p2), .val (.int p3), .val (.int (0 : Int32)), .val (.ref b5), .unset, .unset] [(.long q0), (.ref b8), (.ref b8)]))
      refine OGo.st (fun _ k => XS.aload X8.here hx rfl (hb hby at_46) rfl rfl k) ?_
      show OGo p e below s _ _ _ (T8.setTop (mkF m 48 #[.val (.long q0), .second, .val (.int p1), .val (.int p2), .val (.int p3), .val (.int (0 : Int32)), .val (.ref b5), .unset, .unset] [(.ref b5), (.long q0), (.ref b8), (.ref b8)]))
      obtain ⟨_, _, ⟨T9, L9, k9, n9⟩, -, X9, ⟨Lc9, hQ9, l9, y9, z9⟩, st9⟩ := X8.specialBack hx (y := (⟨"com/example/rows_over_order/rowsoverorder/models/Version", "<init>", "(J[B)V"⟩ : MethodName)) rfl hown (mvT hZ (hw _ (List.mem_of_getElem? (i := 3) rfl))) (mvT hZ (hw _ (List.mem_of_getElem? (i := 4) rfl))) (mvT hZ (hw _ (List.mem_of_getElem? (i := 5) rfl))) (by decide) (backOf (W := 1) (rm1 l Z a0 hw [] b8 q0 b5 h8 n0 Z8 A8 F_timestamp_b8 F_packed_b8 g_b8) hZ (hw _ (List.mem_of_getElem? (i := 5) rfl)) (hw _ (List.mem_of_getElem? (i := 2) rfl)) (by decide) (by decide)) (g := (mkF m 48 #[.val (.long q0), .second, .val (.int p1), .val (.int p2), .val (.int p3), .val (.int (0 : Int32)), .val (.ref b5), .unset, .unset] [(.ref b5), (.long q0), (.ref b8), (.ref b8)])) rfl (by rw [hml]; rfl) (Steps.refl _) (a := b8) (argsL := [(.long q0), (.ref b5)]) (rest := [(.ref b8)]) (lenOf pd_0_0 rfl) rfl (by show 2 * 0 + _ ≤ _; exact Nat.le_of_eq rfl) (hb hby at_48) (fun _ _ => ⟨rfl, e8, (by decide : 2 + 0 ≤ _), (by decide : 5 + 0 ≤ _)⟩)
      dsimp only [Pt.U, Pt.locs, Pt.cells, Pt.slots] at X9 l9 y9 z9 st9 hQ9
      subst l9 y9 z9
      obtain ⟨rfl, N9q, Kc9, G9_0, G9_1⟩ := hQ9
      have V7_w9 := V7_w8.keep Kc9 (ninS ne_b5_b8 nin0)
      have A8_w9 := A8.keep Kc9
      have K9 : Keep h0 T9.heap [] := (K8).trans Kc9 (allS (Or.inr sz_b8) all0)
      have Z9 : n0 ≤ T9.heap.size := Nat.le_trans Z8 Kc9.1
      have N9 := Fr.app N7 N9q
      refine OGo.st (fun _ k => st9.trans k) ?_
      show OGo p e below s _ _ _ (T9.setTop (mkF m 51 #[.val (.long q0), .second, .val (.int p1), .val (.int p2), .val (.int p3), .val (.int (0 : Int32)), .val (.ref b5), .unset, .unset] [(.ref b8)]))
      refine OGo.st (fun _ k => XS.astore X9.here hx rfl (hb hby at_51) rfl rfl (l' := #[.val (.long q0), .second, .val (.int p1), .val (.int p2), .val (.int p3), .val (.int (0 : Int32)), .val (.ref b5), .val (.ref b8), .unset]) rfl k) ?_
      show OGo p e below s _ _ _ (T9.setTop (mkF m 53 #[.val (.long q0), .second, .val (.int p1), .val (.int p2), .val (.int p3), .val (.int (0 : Int32)), .val (.ref b5), .val (.ref b8), .unset] []))
      refine OGo.st (fun _ k => XS.aload X9.here hx rfl (hb hby at_53) rfl rfl k) ?_
      show OGo p e below s _ _ _ (T9.setTop (mkF m 55 #[.val (.long q0), .second, .val (.int p1), .val (.int p2), .val (.int p3), .val (.int (0 : Int32)), .val (.ref b5), .val (.ref b8), .unset] [(.ref b8)]))
      obtain ⟨cq10, kq10, q10a, q10b, q10c⟩ := isOf hZ rfl A8_w9
      obtain ⟨_, _, ⟨T10, L10, k10, n10⟩, -, X10, ⟨Lc10, hQ10, l10, y10, z10⟩, st10⟩ := X9.virtualBack hx (y := (⟨"com/example/rows_over_order/rowsoverorder/models/Version", "isDeletion", "()Z"⟩ : MethodName)) (z := (⟨"com/example/rows_over_order/rowsoverorder/models/Version", "isDeletion", "()Z"⟩ : MethodName)) hown (mvT hZ (hw _ (List.mem_of_getElem? (i := 13) rfl))) (mvT hZ (hw _ (List.mem_of_getElem? (i := 14) rfl))) (notFace_of_selects (args := #[]) (mvT hZ (hw _ (List.mem_of_getElem? (i := 16) rfl)))) (mvT hZ (hw _ (List.mem_of_getElem? (i := 16) rfl))) (mvT hZ (hw _ (List.mem_of_getElem? (i := 15) rfl))) (by decide) (backOf (W := 0) (rm3 l Z a0 hw [] b8 b5 T9.heap n0 Z9 G9_1) hZ (hw _ (List.mem_of_getElem? (i := 17) rfl)) (hw _ (List.mem_of_getElem? (i := 2) rfl)) (by decide) (by decide)) q10a q10c (g := (mkF m 55 #[.val (.long q0), .second, .val (.int p1), .val (.int p2), .val (.int p3), .val (.int (0 : Int32)), .val (.ref b5), .val (.ref b8), .unset] [(.ref b8)])) rfl (by rw [hml]; rfl) (Steps.refl _) (argsL := []) (rest := []) (lenOf pd_0_1 rfl) rfl (by show 2 * 0 + _ ≤ _; exact Nat.le_of_eq rfl) (hb hby at_55) (fun _ _ => ⟨rfl, rfl, (by decide : 2 + 0 ≤ _), (by decide : 5 + 0 ≤ _)⟩)
      dsimp only [Pt.U, Pt.locs, Pt.cells, Pt.slots] at X10 l10 y10 z10 st10 hQ10
      subst l10 y10 z10
      obtain ⟨rfl, N10q, e10⟩ := hQ10
      have N10 := Fr.app N9 N10q
      refine OGo.st (fun _ k => st10.trans k) ?_
      show OGo p e below s _ _ _ (T10.setTop (mkF m 58 #[.val (.long q0), .second, .val (.int p1), .val (.int p2), .val (.int p3), .val (.int (0 : Int32)), .val (.ref b5), .val (.ref b8), .unset] [(.int (f3))]))
      refine OGo.st (fun _ k => XS.istore X10.here hx rfl (hb hby at_58) rfl (l' := #[.val (.long q0), .second, .val (.int p1), .val (.int p2), .val (.int p3), .val (.int (0 : Int32)), .val (.ref b5), .val (.ref b8), .val (.int (f3))]) rfl k) ?_
      show OGo p e below s _ _ _ (T10.setTop (mkF m 60 #[.val (.long q0), .second, .val (.int p1), .val (.int p2), .val (.int p3), .val (.int (0 : Int32)), .val (.ref b5), .val (.ref b8), .val (.int (f3))] []))
      refine OGo.st (fun _ k => XS.iload X10.here hx rfl (hb hby at_60) rfl k) ?_
      show OGo p e below s _ _ _ (T10.setTop (mkF m 62 #[.val (.long q0), .second, .val (.int p1), .val (.int p2), .val (.int p3), .val (.int (0 : Int32)), .val (.ref b5), .val (.ref b8), .val (.int (f3))] [(.int (f3))]))
      refine OGo.st (fun _ k => XS.iload X10.here hx rfl (hb hby at_62) rfl k) ?_
      show OGo p e below s _ _ _ (T10.setTop (mkF m 64 #[.val (.long q0), .second, .val (.int p1), .val (.int p2), .val (.int p3), .val (.int (0 : Int32)), .val (.ref b5), .val (.ref b8), .val (.int (f3))] [(.int (0 : Int32)), (.int (f3))]))
      by_cases hc64 : (f3) = (0 : Int32)
      · refine OGo.st (fun _ k => XS.icmpNo X10.here hx rfl (hb hby at_64) rfl (teq hc64).2 k) ?_
        show OGo p e below s _ _ _ (T10.setTop (mkF m 67 #[.val (.long q0), .second, .val (.int p1), .val (.int p2), .val (.int p3), .val (.int (0 : Int32)), .val (.ref b5), .val (.ref b8), .val (.int (f3))] []))
        refine OGo.st (fun _ k => XS.aload X10.here hx rfl (hb hby at_67) rfl rfl k) ?_
        show OGo p e below s _ _ _ (T10.setTop (mkF m 69 #[.val (.long q0), .second, .val (.int p1), .val (.int p2), .val (.int p3), .val (.int (0 : Int32)), .val (.ref b5), .val (.ref b8), .val (.int (f3))] [(.ref b8)]))
        obtain ⟨cq11, kq11, q11a, q11b, q11c⟩ := isOf hZ e10 A8_w9
        obtain ⟨_, _, ⟨T11, L11, k11, n11⟩, -, X11, ⟨Lc11, hQ11, l11, y11, z11⟩, st11⟩ := X10.virtualBack hx (y := (⟨"com/example/rows_over_order/rowsoverorder/models/Version", "timestamp", "()J"⟩ : MethodName)) (z := (⟨"com/example/rows_over_order/rowsoverorder/models/Version", "timestamp", "()J"⟩ : MethodName)) hown (mvT hZ (hw _ (List.mem_of_getElem? (i := 18) rfl))) (mvT hZ (hw _ (List.mem_of_getElem? (i := 19) rfl))) (notFace_of_selects (args := #[]) (mvT hZ (hw _ (List.mem_of_getElem? (i := 21) rfl)))) (mvT hZ (hw _ (List.mem_of_getElem? (i := 21) rfl))) (mvT hZ (hw _ (List.mem_of_getElem? (i := 20) rfl))) (by decide) (backOf (W := 0) (rm4 l Z a0 hw [] b8 q0 T9.heap n0 Z9 G9_0) hZ (hw _ (List.mem_of_getElem? (i := 22) rfl)) (hw _ (List.mem_of_getElem? (i := 2) rfl)) (by decide) (by decide)) q11a q11c (g := (mkF m 69 #[.val (.long q0), .second, .val (.int p1), .val (.int p2), .val (.int p3), .val (.int (0 : Int32)), .val (.ref b5), .val (.ref b8), .val (.int (f3))] [(.ref b8)])) rfl (by rw [hml]; rfl) (Steps.refl _) (argsL := []) (rest := []) (lenOf pd_0_2 rfl) rfl (by show 2 * 0 + _ ≤ _; exact Nat.le_of_eq rfl) (hb hby at_69) (fun _ _ => ⟨rfl, e10, (by decide : 2 + 0 ≤ _), (by decide : 5 + 0 ≤ _)⟩)
        dsimp only [Pt.U, Pt.locs, Pt.cells, Pt.slots] at X11 l11 y11 z11 st11 hQ11
        subst l11 y11 z11
        obtain ⟨rfl, N11q, e11⟩ := hQ11
        have N11 := Fr.app N10 N11q
        refine OGo.st (fun _ k => st11.trans k) ?_
        show OGo p e below s _ _ _ (T11.setTop (mkF m 72 #[.val (.long q0), .second, .val (.int p1), .val (.int p2), .val (.int p3), .val (.int (0 : Int32)), .val (.ref b5), .val (.ref b8), .val (.int (f3))] [(.long (f4 q0))]))
        refine OGo.st (fun _ k => XS.lloadN X11.here hx rfl (hb hby at_72) rfl k) ?_
        show OGo p e below s _ _ _ (T11.setTop (mkF m 73 #[.val (.long q0), .second, .val (.int p1), .val (.int p2), .val (.int p3), .val (.int (0 : Int32)), .val (.ref b5), .val (.ref b8), .val (.int (f3))] [(.long q0), (.long (f4 q0))]))
        refine OGo.st (fun _ k => XS.lcmp X11.here hx rfl (hb hby at_73) rfl k) ?_
        show OGo p e below s _ _ _ (T11.setTop (mkF m 74 #[.val (.long q0), .second, .val (.int p1), .val (.int p2), .val (.int p3), .val (.int (0 : Int32)), .val (.ref b5), .val (.ref b8), .val (.int (f3))] [(.int (lcmpW (f4 q0) q0))]))
        by_cases hc74 : (f4 q0) = q0
        · refine OGo.st (fun _ k => XS.ifNo X11.here hx rfl (hb hby at_74) rfl ((if0 _ _).trans (teq ((olc_eq _ _).mpr hc74)).2) k) ?_
          show OGo p e below s _ _ _ (T11.setTop (mkF m 77 #[.val (.long q0), .second, .val (.int p1), .val (.int p2), .val (.int p3), .val (.int (0 : Int32)), .val (.ref b5), .val (.ref b8), .val (.int (f3))] []))
          refine OGo.st (fun _ k => XS.iconst X11.here hx rfl (hb hby at_77) k) ?_
          show OGo p e below s _ _ _ (T11.setTop (mkF m 78 #[.val (.long q0), .second, .val (.int p1), .val (.int p2), .val (.int p3), .val (.int (0 : Int32)), .val (.ref b5), .val (.ref b8), .val (.int (f3))] [(.int (1 : Int32))]))
          refine OGo.st (fun _ k => XS.goto X11.here hx rfl (pc0 := 78) (pc' := 82) rfl (hb hby at_78) (by decide) (by decide) k) ?_
          show OGo p e below s _ _ _ (T11.setTop (mkF m 82 #[.val (.long q0), .second, .val (.int p1), .val (.int p2), .val (.int p3), .val (.int (0 : Int32)), .val (.ref b5), .val (.ref b8), .val (.int (f3))] [(.int (1 : Int32))]))
          exact oretN X11 hx Bd.notSynchronized (t := .boolean) Bd.returns (by simp) (hb hby at_82) (z' := (1 : Int32)) (by decide) e11 ⟨(congrArg (fun z => some (Value.int z)) (show (1 : Int32) = f0 q0 p1 p2 p3 from Eq.symm (by unfold f0; exact (if_neg hc3).trans ((if_pos hc31).trans ((if_pos hc64).trans (if_pos hc74)))))), N11⟩ (by decide) (by decide)
        · refine OGo.st (fun _ k => XS.ifYes X11.here hx rfl (pc0 := 74) (pc' := 81) rfl (hb hby at_74) rfl ((if0 _ _).trans (feq (fun z => hc74 ((olc_eq _ _).mp z))).2) (by decide) (by decide) k) ?_
          show OGo p e below s _ _ _ (T11.setTop (mkF m 81 #[.val (.long q0), .second, .val (.int p1), .val (.int p2), .val (.int p3), .val (.int (0 : Int32)), .val (.ref b5), .val (.ref b8), .val (.int (f3))] []))
          refine OGo.st (fun _ k => XS.iconst X11.here hx rfl (hb hby at_81) k) ?_
          show OGo p e below s _ _ _ (T11.setTop (mkF m 82 #[.val (.long q0), .second, .val (.int p1), .val (.int p2), .val (.int p3), .val (.int (0 : Int32)), .val (.ref b5), .val (.ref b8), .val (.int (f3))] [(.int (0 : Int32))]))
          exact oretN X11 hx Bd.notSynchronized (t := .boolean) Bd.returns (by simp) (hb hby at_82) (z' := (0 : Int32)) (by decide) e11 ⟨(congrArg (fun z => some (Value.int z)) (show (0 : Int32) = f0 q0 p1 p2 p3 from Eq.symm (by unfold f0; exact (if_neg hc3).trans ((if_pos hc31).trans ((if_pos hc64).trans (if_neg hc74)))))), N11⟩ (by decide) (by decide)
      · refine OGo.st (fun _ k => XS.icmpYes X10.here hx rfl (pc0 := 64) (pc' := 81) rfl (hb hby at_64) rfl (feq hc64).2 (by decide) (by decide) k) ?_
        show OGo p e below s _ _ _ (T10.setTop (mkF m 81 #[.val (.long q0), .second, .val (.int p1), .val (.int p2), .val (.int p3), .val (.int (0 : Int32)), .val (.ref b5), .val (.ref b8), .val (.int (f3))] []))
        refine OGo.st (fun _ k => XS.iconst X10.here hx rfl (hb hby at_81) k) ?_
        show OGo p e below s _ _ _ (T10.setTop (mkF m 82 #[.val (.long q0), .second, .val (.int p1), .val (.int p2), .val (.int p3), .val (.int (0 : Int32)), .val (.ref b5), .val (.ref b8), .val (.int (f3))] [(.int (0 : Int32))]))
        exact oretN X10 hx Bd.notSynchronized (t := .boolean) Bd.returns (by simp) (hb hby at_82) (z' := (0 : Int32)) (by decide) e10 ⟨(congrArg (fun z => some (Value.int z)) (show (0 : Int32) = f0 q0 p1 p2 p3 from Eq.symm (by unfold f0; exact (if_neg hc3).trans ((if_pos hc31).trans (if_neg hc64))))), N10⟩ (by decide) (by decide)
    · refine OGo.st (fun _ k => XS.ifYes X5.here hx rfl (pc0 := 31) (pc' := 41) rfl (hb hby at_31) rfl ((if0 _ _).trans (flt hc31).2.2.2) (by decide) (by decide) k) ?_
      show OGo p e below s _ _ _ (T5.setTop (mkF m 41 #[.val (.long q0), .second, .val (.int p1), .val (.int p2), .val (.int p3), .val (.int (0 : Int32)), .val (.ref b5), .unset, .unset] []))
      obtain ⟨T12, h12, X12, e12, E12, A12, D12, U12, st12⟩ := newO X5 hx hZ hown (hw _ (List.mem_of_getElem? (i := 0) rfl)) (hw _ (List.mem_of_getElem? (i := 1) rfl)) (hw _ (List.mem_of_getElem? (i := 2) rfl)) e5 (g := (mkF m 41 #[.val (.long q0), .second, .val (.int p1), .val (.int p2), .val (.int p3), .val (.int (0 : Int32)), .val (.ref b5), .unset, .unset] [])) rfl (hb hby at_41) (by decide) (by decide)
      obtain ⟨b12, g12⟩ : ∃ z, z = h5.size := ⟨_, rfl⟩
      rw [← g12] at A12 D12 U12 st12
      refine OGo.st st12 ?_
      have V_b5_w12 := V_b5.ext E12
      have ne_b5_b12 : b5 ≠ b12 := Nat.ne_of_lt (Nat.lt_of_lt_of_le V_b5.lt (Nat.le_of_eq g12.symm))
      have g_b12 : n0 ≤ b12 := Nat.le_trans Z5 (Nat.le_of_eq g12.symm)
      have sz_b12 : h0.size ≤ b12 := Nat.le_trans (K5).1 (Nat.le_of_eq g12.symm)
      have K12 : Keep h0 h12 [] := (K5).ext E12
      have Z12 : n0 ≤ h12.size := Nat.le_trans Z5 E12.1
      have F_timestamp_b12 : Fld Z h12 b12 "com/example/rows_over_order/rowsoverorder/models/Version" "timestamp" "J" (.long (0 : Int64)) := D12 (Or.inr (hw _ (List.mem_of_getElem? (i := 10) rfl))) (ty := .long) (by decide)
      have F_packed_b12 : Fld Z h12 b12 "com/example/rows_over_order/rowsoverorder/models/Version" "packed" "[B" .null := D12 (Or.inr (hw _ (List.mem_of_getElem? (i := 12) rfl))) (ty := (.array .byte)) (by decide)
      show OGo p e below s _ _ _ (T12.setTop (mkF m 44 #[.val (.long q0), .second, .val (.int p1), .val (.int p2), .val (.int p3), .val (.int (0 : Int32)), .val (.ref b5), .unset, .unset] [(.ref b12)]))
      refine OGo.st (fun _ k => XS.dup X12.here hx rfl (hb hby at_44) rfl rfl k) ?_
      show OGo p e below s _ _ _ (T12.setTop (mkF m 45 #[.val (.long q0), .second, .val (.int p1), .val (.int p2), .val (.int p3), .val (.int (0 : Int32)), .val (.ref b5), .unset, .unset] [(.ref b12), (.ref b12)]))
      refine OGo.st (fun _ k => XS.lloadN X12.here hx rfl (hb hby at_45) rfl k) ?_
      show OGo p e below s _ _ _ (T12.setTop (mkF m 46 #[.val (.long q0), .second, .val (.int p1), .val (.int p2), .val (.int p3), .val (.int (0 : Int32)), .val (.ref b5), .unset, .unset] [(.long q0), (.ref b12), (.ref b12)]))
      refine OGo.st (fun _ k => XS.aload X12.here hx rfl (hb hby at_46) rfl rfl k) ?_
      show OGo p e below s _ _ _ (T12.setTop (mkF m 48 #[.val (.long q0), .second, .val (.int p1), .val (.int p2), .val (.int p3), .val (.int (0 : Int32)), .val (.ref b5), .unset, .unset] [(.ref b5), (.long q0), (.ref b12), (.ref b12)]))
      obtain ⟨_, _, ⟨T13, L13, k13, n13⟩, -, X13, ⟨Lc13, hQ13, l13, y13, z13⟩, st13⟩ := X12.specialBack hx (y := (⟨"com/example/rows_over_order/rowsoverorder/models/Version", "<init>", "(J[B)V"⟩ : MethodName)) rfl hown (mvT hZ (hw _ (List.mem_of_getElem? (i := 3) rfl))) (mvT hZ (hw _ (List.mem_of_getElem? (i := 4) rfl))) (mvT hZ (hw _ (List.mem_of_getElem? (i := 5) rfl))) (by decide) (backOf (W := 1) (rm1 l Z a0 hw [] b12 q0 b5 h12 n0 Z12 A12 F_timestamp_b12 F_packed_b12 g_b12) hZ (hw _ (List.mem_of_getElem? (i := 5) rfl)) (hw _ (List.mem_of_getElem? (i := 2) rfl)) (by decide) (by decide)) (g := (mkF m 48 #[.val (.long q0), .second, .val (.int p1), .val (.int p2), .val (.int p3), .val (.int (0 : Int32)), .val (.ref b5), .unset, .unset] [(.ref b5), (.long q0), (.ref b12), (.ref b12)])) rfl (by rw [hml]; rfl) (Steps.refl _) (a := b12) (argsL := [(.long q0), (.ref b5)]) (rest := [(.ref b12)]) (lenOf pd_0_0 rfl) rfl (by show 2 * 0 + _ ≤ _; exact Nat.le_of_eq rfl) (hb hby at_48) (fun _ _ => ⟨rfl, e12, (by decide : 2 + 0 ≤ _), (by decide : 5 + 0 ≤ _)⟩)
      dsimp only [Pt.U, Pt.locs, Pt.cells, Pt.slots] at X13 l13 y13 z13 st13 hQ13
      subst l13 y13 z13
      obtain ⟨rfl, N13q, Kc13, G13_0, G13_1⟩ := hQ13
      have V_b5_w13 := V_b5_w12.keep Kc13 (ninS ne_b5_b12 nin0)
      have A12_w13 := A12.keep Kc13
      have K13 : Keep h0 T13.heap [] := (K12).trans Kc13 (allS (Or.inr sz_b12) all0)
      have Z13 : n0 ≤ T13.heap.size := Nat.le_trans Z12 Kc13.1
      have N13 := Fr.app N0 N13q
      refine OGo.st (fun _ k => st13.trans k) ?_
      show OGo p e below s _ _ _ (T13.setTop (mkF m 51 #[.val (.long q0), .second, .val (.int p1), .val (.int p2), .val (.int p3), .val (.int (0 : Int32)), .val (.ref b5), .unset, .unset] [(.ref b12)]))
      refine OGo.st (fun _ k => XS.astore X13.here hx rfl (hb hby at_51) rfl rfl (l' := #[.val (.long q0), .second, .val (.int p1), .val (.int p2), .val (.int p3), .val (.int (0 : Int32)), .val (.ref b5), .val (.ref b12), .unset]) rfl k) ?_
      show OGo p e below s _ _ _ (T13.setTop (mkF m 53 #[.val (.long q0), .second, .val (.int p1), .val (.int p2), .val (.int p3), .val (.int (0 : Int32)), .val (.ref b5), .val (.ref b12), .unset] []))
      refine OGo.st (fun _ k => XS.aload X13.here hx rfl (hb hby at_53) rfl rfl k) ?_
      show OGo p e below s _ _ _ (T13.setTop (mkF m 55 #[.val (.long q0), .second, .val (.int p1), .val (.int p2), .val (.int p3), .val (.int (0 : Int32)), .val (.ref b5), .val (.ref b12), .unset] [(.ref b12)]))
      obtain ⟨cq14, kq14, q14a, q14b, q14c⟩ := isOf hZ rfl A12_w13
      obtain ⟨_, _, ⟨T14, L14, k14, n14⟩, -, X14, ⟨Lc14, hQ14, l14, y14, z14⟩, st14⟩ := X13.virtualBack hx (y := (⟨"com/example/rows_over_order/rowsoverorder/models/Version", "isDeletion", "()Z"⟩ : MethodName)) (z := (⟨"com/example/rows_over_order/rowsoverorder/models/Version", "isDeletion", "()Z"⟩ : MethodName)) hown (mvT hZ (hw _ (List.mem_of_getElem? (i := 13) rfl))) (mvT hZ (hw _ (List.mem_of_getElem? (i := 14) rfl))) (notFace_of_selects (args := #[]) (mvT hZ (hw _ (List.mem_of_getElem? (i := 16) rfl)))) (mvT hZ (hw _ (List.mem_of_getElem? (i := 16) rfl))) (mvT hZ (hw _ (List.mem_of_getElem? (i := 15) rfl))) (by decide) (backOf (W := 0) (rm3 l Z a0 hw [] b12 b5 T13.heap n0 Z13 G13_1) hZ (hw _ (List.mem_of_getElem? (i := 17) rfl)) (hw _ (List.mem_of_getElem? (i := 2) rfl)) (by decide) (by decide)) q14a q14c (g := (mkF m 55 #[.val (.long q0), .second, .val (.int p1), .val (.int p2), .val (.int p3), .val (.int (0 : Int32)), .val (.ref b5), .val (.ref b12), .unset] [(.ref b12)])) rfl (by rw [hml]; rfl) (Steps.refl _) (argsL := []) (rest := []) (lenOf pd_0_1 rfl) rfl (by show 2 * 0 + _ ≤ _; exact Nat.le_of_eq rfl) (hb hby at_55) (fun _ _ => ⟨rfl, rfl, (by decide : 2 + 0 ≤ _), (by decide : 5 + 0 ≤ _)⟩)
      dsimp only [Pt.U, Pt.locs, Pt.cells, Pt.slots] at X14 l14 y14 z14 st14 hQ14
      subst l14 y14 z14
      obtain ⟨rfl, N14q, e14⟩ := hQ14
      have N14 := Fr.app N13 N14q
      refine OGo.st (fun _ k => st14.trans k) ?_
      show OGo p e below s _ _ _ (T14.setTop (mkF m 58 #[.val (.long q0), .second, .val (.int p1), .val (.int p2), .val (.int p3), .val (.int (0 : Int32)), .val (.ref b5), .val (.ref b12), .unset] [(.int (f3))]))
      refine OGo.st (fun _ k => XS.istore X14.here hx rfl (hb hby at_58) rfl (l' := #[.val (.long q0), .second, .val (.int p1), .val (.int p2), .val (.int p3), .val (.int (0 : Int32)), .val (.ref b5), .val (.ref b12), .val (.int (f3))]) rfl k) ?_
      show OGo p e below s _ _ _ (T14.setTop (mkF m 60 #[.val (.long q0), .second, .val (.int p1), .val (.int p2), .val (.int p3), .val (.int (0 : Int32)), .val (.ref b5), .val (.ref b12), .val (.int (f3))] []))
      refine OGo.st (fun _ k => XS.iload X14.here hx rfl (hb hby at_60) rfl k) ?_
      show OGo p e below s _ _ _ (T14.setTop (mkF m 62 #[.val (.long q0), .second, .val (.int p1), .val (.int p2), .val (.int p3), .val (.int (0 : Int32)), .val (.ref b5), .val (.ref b12), .val (.int (f3))] [(.int (f3))]))
      refine OGo.st (fun _ k => XS.iload X14.here hx rfl (hb hby at_62) rfl k) ?_
      show OGo p e below s _ _ _ (T14.setTop (mkF m 64 #[.val (.long q0), .second, .val (.int p1), .val (.int p2), .val (.int p3), .val (.int (0 : Int32)), .val (.ref b5), .val (.ref b12), .val (.int (f3))] [(.int (0 : Int32)), (.int (f3))]))
      by_cases hc64 : (f3) = (0 : Int32)
      · refine OGo.st (fun _ k => XS.icmpNo X14.here hx rfl (hb hby at_64) rfl (teq hc64).2 k) ?_
        show OGo p e below s _ _ _ (T14.setTop (mkF m 67 #[.val (.long q0), .second, .val (.int p1), .val (.int p2), .val (.int p3), .val (.int (0 : Int32)), .val (.ref b5), .val (.ref b12), .val (.int (f3))] []))
        refine OGo.st (fun _ k => XS.aload X14.here hx rfl (hb hby at_67) rfl rfl k) ?_
        show OGo p e below s _ _ _ (T14.setTop (mkF m 69 #[.val (.long q0), .second, .val (.int p1), .val (.int p2), .val (.int p3), .val (.int (0 : Int32)), .val (.ref b5), .val (.ref b12), .val (.int (f3))] [(.ref b12)]))
        obtain ⟨cq15, kq15, q15a, q15b, q15c⟩ := isOf hZ e14 A12_w13
        obtain ⟨_, _, ⟨T15, L15, k15, n15⟩, -, X15, ⟨Lc15, hQ15, l15, y15, z15⟩, st15⟩ := X14.virtualBack hx (y := (⟨"com/example/rows_over_order/rowsoverorder/models/Version", "timestamp", "()J"⟩ : MethodName)) (z := (⟨"com/example/rows_over_order/rowsoverorder/models/Version", "timestamp", "()J"⟩ : MethodName)) hown (mvT hZ (hw _ (List.mem_of_getElem? (i := 18) rfl))) (mvT hZ (hw _ (List.mem_of_getElem? (i := 19) rfl))) (notFace_of_selects (args := #[]) (mvT hZ (hw _ (List.mem_of_getElem? (i := 21) rfl)))) (mvT hZ (hw _ (List.mem_of_getElem? (i := 21) rfl))) (mvT hZ (hw _ (List.mem_of_getElem? (i := 20) rfl))) (by decide) (backOf (W := 0) (rm4 l Z a0 hw [] b12 q0 T13.heap n0 Z13 G13_0) hZ (hw _ (List.mem_of_getElem? (i := 22) rfl)) (hw _ (List.mem_of_getElem? (i := 2) rfl)) (by decide) (by decide)) q15a q15c (g := (mkF m 69 #[.val (.long q0), .second, .val (.int p1), .val (.int p2), .val (.int p3), .val (.int (0 : Int32)), .val (.ref b5), .val (.ref b12), .val (.int (f3))] [(.ref b12)])) rfl (by rw [hml]; rfl) (Steps.refl _) (argsL := []) (rest := []) (lenOf pd_0_2 rfl) rfl (by show 2 * 0 + _ ≤ _; exact Nat.le_of_eq rfl) (hb hby at_69) (fun _ _ => ⟨rfl, e14, (by decide : 2 + 0 ≤ _), (by decide : 5 + 0 ≤ _)⟩)
        dsimp only [Pt.U, Pt.locs, Pt.cells, Pt.slots] at X15 l15 y15 z15 st15 hQ15
        subst l15 y15 z15
        obtain ⟨rfl, N15q, e15⟩ := hQ15
        have N15 := Fr.app N14 N15q
        refine OGo.st (fun _ k => st15.trans k) ?_
        show OGo p e below s _ _ _ (T15.setTop (mkF m 72 #[.val (.long q0), .second, .val (.int p1), .val (.int p2), .val (.int p3), .val (.int (0 : Int32)), .val (.ref b5), .val (.ref b12), .val (.int (f3))] [(.long (f4 q0))]))
        refine OGo.st (fun _ k => XS.lloadN X15.here hx rfl (hb hby at_72) rfl k) ?_
        show OGo p e below s _ _ _ (T15.setTop (mkF m 73 #[.val (.long q0), .second, .val (.int p1), .val (.int p2), .val (.int p3), .val (.int (0 : Int32)), .val (.ref b5), .val (.ref b12), .val (.int (f3))] [(.long q0), (.long (f4 q0))]))
        refine OGo.st (fun _ k => XS.lcmp X15.here hx rfl (hb hby at_73) rfl k) ?_
        show OGo p e below s _ _ _ (T15.setTop (mkF m 74 #[.val (.long q0), .second, .val (.int p1), .val (.int p2), .val (.int p3), .val (.int (0 : Int32)), .val (.ref b5), .val (.ref b12), .val (.int (f3))] [(.int (lcmpW (f4 q0) q0))]))
        by_cases hc74 : (f4 q0) = q0
        · refine OGo.st (fun _ k => XS.ifNo X15.here hx rfl (hb hby at_74) rfl ((if0 _ _).trans (teq ((olc_eq _ _).mpr hc74)).2) k) ?_
          show OGo p e below s _ _ _ (T15.setTop (mkF m 77 #[.val (.long q0), .second, .val (.int p1), .val (.int p2), .val (.int p3), .val (.int (0 : Int32)), .val (.ref b5), .val (.ref b12), .val (.int (f3))] []))
          refine OGo.st (fun _ k => XS.iconst X15.here hx rfl (hb hby at_77) k) ?_
          show OGo p e below s _ _ _ (T15.setTop (mkF m 78 #[.val (.long q0), .second, .val (.int p1), .val (.int p2), .val (.int p3), .val (.int (0 : Int32)), .val (.ref b5), .val (.ref b12), .val (.int (f3))] [(.int (1 : Int32))]))
          refine OGo.st (fun _ k => XS.goto X15.here hx rfl (pc0 := 78) (pc' := 82) rfl (hb hby at_78) (by decide) (by decide) k) ?_
          show OGo p e below s _ _ _ (T15.setTop (mkF m 82 #[.val (.long q0), .second, .val (.int p1), .val (.int p2), .val (.int p3), .val (.int (0 : Int32)), .val (.ref b5), .val (.ref b12), .val (.int (f3))] [(.int (1 : Int32))]))
          exact oretN X15 hx Bd.notSynchronized (t := .boolean) Bd.returns (by simp) (hb hby at_82) (z' := (1 : Int32)) (by decide) e15 ⟨(congrArg (fun z => some (Value.int z)) (show (1 : Int32) = f0 q0 p1 p2 p3 from Eq.symm (by unfold f0; exact (if_neg hc3).trans ((if_neg hc31).trans ((if_pos hc64).trans (if_pos hc74)))))), N15⟩ (by decide) (by decide)
        · refine OGo.st (fun _ k => XS.ifYes X15.here hx rfl (pc0 := 74) (pc' := 81) rfl (hb hby at_74) rfl ((if0 _ _).trans (feq (fun z => hc74 ((olc_eq _ _).mp z))).2) (by decide) (by decide) k) ?_
          show OGo p e below s _ _ _ (T15.setTop (mkF m 81 #[.val (.long q0), .second, .val (.int p1), .val (.int p2), .val (.int p3), .val (.int (0 : Int32)), .val (.ref b5), .val (.ref b12), .val (.int (f3))] []))
          refine OGo.st (fun _ k => XS.iconst X15.here hx rfl (hb hby at_81) k) ?_
          show OGo p e below s _ _ _ (T15.setTop (mkF m 82 #[.val (.long q0), .second, .val (.int p1), .val (.int p2), .val (.int p3), .val (.int (0 : Int32)), .val (.ref b5), .val (.ref b12), .val (.int (f3))] [(.int (0 : Int32))]))
          exact oretN X15 hx Bd.notSynchronized (t := .boolean) Bd.returns (by simp) (hb hby at_82) (z' := (0 : Int32)) (by decide) e15 ⟨(congrArg (fun z => some (Value.int z)) (show (0 : Int32) = f0 q0 p1 p2 p3 from Eq.symm (by unfold f0; exact (if_neg hc3).trans ((if_neg hc31).trans ((if_pos hc64).trans (if_neg hc74)))))), N15⟩ (by decide) (by decide)
      · refine OGo.st (fun _ k => XS.icmpYes X14.here hx rfl (pc0 := 64) (pc' := 81) rfl (hb hby at_64) rfl (feq hc64).2 (by decide) (by decide) k) ?_
        show OGo p e below s _ _ _ (T14.setTop (mkF m 81 #[.val (.long q0), .second, .val (.int p1), .val (.int p2), .val (.int p3), .val (.int (0 : Int32)), .val (.ref b5), .val (.ref b12), .val (.int (f3))] []))
        refine OGo.st (fun _ k => XS.iconst X14.here hx rfl (hb hby at_81) k) ?_
        show OGo p e below s _ _ _ (T14.setTop (mkF m 82 #[.val (.long q0), .second, .val (.int p1), .val (.int p2), .val (.int p3), .val (.int (0 : Int32)), .val (.ref b5), .val (.ref b12), .val (.int (f3))] [(.int (0 : Int32))]))
        exact oretN X14 hx Bd.notSynchronized (t := .boolean) Bd.returns (by simp) (hb hby at_82) (z' := (0 : Int32)) (by decide) e14 ⟨(congrArg (fun z => some (Value.int z)) (show (0 : Int32) = f0 q0 p1 p2 p3 from Eq.symm (by unfold f0; exact (if_neg hc3).trans ((if_neg hc31).trans (if_neg hc64))))), N14⟩ (by decide) (by decide)
theorem own_plain (q0 : Int64) (p1 p2 p3 : Int32) : f0 q0 p1 p2 p3 = 1 := by
  unfold f0 f3 f3N f4; simp
set_option maxRecDepth 65536 in
set_option maxHeartbeats 40000000 in
theorem comes_1 {Post : Tables → Env → Array Value → State → Outcome → State → Prop} (hpost : ∀ tb e args s v u, (limb_1_1.after args s (.returned v) u = true ∧ limb_1_2.after args s (.returned v) u = true ∧ True) → FrameEnd s (.returned v) u (Jvm.fieldLocs frame_1_writes args s ++ Jvm.arrayLocs frame_1_arrays args s ++ Jvm.staticLocs frame_1_statics s) 16 128 → Post tb e args s (.returned v) u) :
    ArmFor flags0 classFile x code maxLocals ret World_1 tables_1 room_1 Calls_1 rest_1 Pre_1 Post := by
  intro l hfl _ _ p e ha hc hk s m args below hf hA hF happ hP
  obtain ⟨hcalls, hrest, hpre⟩ := hP
  obtain ⟨-, -, -, hnamed, -, -, -, hat⟩ := (Spec.applies_iff hf).mp happ
  obtain ⟨hg, hn⟩ := and_e (Cond.before_iff.mp (show (Jvm.Cond.and given_1 narrow_1).before args s = true from hpre))
  obtain ⟨gv1, gv2⟩ := and_e hg
  obtain ⟨gv3, gv4⟩ := and_e gv2
  obtain ⟨gv5, gv6⟩ := and_e gv4
  obtain ⟨gv7, gv8⟩ := and_e gv6
  obtain ⟨w0, w1, w2, w3, rfl⟩ : ∃ w0 w1 w2 w3 : Value, args = #[w0, w1, w2, w3] := by
    have hs : args.size = 4 := by simpa [Cond.value, given_1] using gv1
    obtain ⟨L⟩ := args
    match L, hs with
    | [w0, w1, w2, w3], _ => exact ⟨w0, w1, w2, w3, rfl⟩
  have hw := fun d (hd : d ∈ tables_1) => atoms_spec (ws := Jvm.Cond.code x code maxLocals ret :: tables_1) hat d (List.mem_cons_of_mem _ hd)
  have hfit : Fit s := fun {y c} hc i hi => by
    obtain ⟨ha, rfl⟩ := Array.getElem?_eq_some_iff.mp hc
    have q := List.all_eq_true.mp ((Array.all_eq_true_iff_forall_mem.mp hF) _ (Array.getElem_mem ha)) i (List.mem_range.mpr hi)
    simpa [Array.getElem?_eq_getElem hi] using q
  obtain ⟨i0, ei0⟩ := isL_v gv3
  obtain rfl : w0 = (.long i0) := Option.some.inj ei0
  obtain ⟨i1, ei1⟩ := is_v gv5
  obtain rfl : w1 = (.int i1) := Option.some.inj ei1
  obtain ⟨i2, ei2⟩ := is_v gv7
  obtain rfl : w2 = (.int i2) := Option.some.inj ei2
  obtain ⟨i3, ei3⟩ := is_v gv8
  obtain rfl : w3 = (.int i3) := Option.some.inj ei3
  have hpl := own_plain i0 i1 i2 i3
  obtain ⟨n, o, h1, h2, h3, _, L, rfl, ⟨rfl, N⟩, hq⟩ := rm0 l s _ hw tables_1 i0 i1 i2 i3 s.heap s.heap.size (Nat.le_refl _) p e ha hc hk s m _ below hf ((Spec.applies_iff_loose hf).mp happ).1 ⟨rfl, State.Warmed39.refl s, rfl⟩ trivial
  refine ⟨n, _, h1, h2, h3, hpost _ _ _ _ _ _ ⟨Cond.after_iff.mpr rfl, Cond.after_iff.mpr (eq_i res_at (Term.int_eval (1)) (congrArg Value.int hpl)), trivial⟩ ⟨hq.1, hq.2.1, (hq.2.2.sift fun y hy => Or.inr (N y hy)).mono (by decide) (by decide)⟩⟩
theorem main_1_1 : Claimed_1_1 := comes_1 fun _ _ _ _ _ _ h hF => ⟨h.1, hF⟩
theorem main_1_2 : Claimed_1_2 := comes_1 fun _ _ _ _ _ _ h hF => ⟨h.2.1, hF⟩
end Jvm.Pilot.@@N@@
namespace Jvm.Pilot.@@N@@
open Jvm Jvm.ClassFile Sem Op Lib Jvm.Free Jvm.Stand Jvm.Pilot.@@N@@.Jvm.D
/-! MADE BY PROGRAM (witnessworld.py) out of the Statement's table words and the real class files: 9 classes; the members and pool entries that the words name. The judged class is class 1, her method 1. -/
namespace start1
open Jvm.ClassFile
def u (s : String) : CpInfo := .utf8 (stringToUtf16 s)
/-- a pool by its gaps: so many unusable entries, then the entry; so many at the end -/
def gap : Nat → List CpInfo → List CpInfo
  | 0, r => r
  | n + 1, r => .unusable :: gap n r
def poolList (es : List (Nat × CpInfo)) (last : Nat) : List CpInfo := es.foldr (fun e r => gap e.1 (e.2 :: r)) (gap last [])
def pool (es : List (Nat × CpInfo)) (last : Nat) : Array CpInfo := ⟨poolList es last⟩
def fileOf (pool : Array CpInfo) (this : Nat) (attrs : Array Attribute := #[]) (ms : Array MethodInfo := #[]) (fl : Nat := 33) (sup : Nat := 0) (ifs : Array Nat := #[]) (fds : Array FieldInfo := #[]) : ClassFile where
  minorVersion := 0
  majorVersion := 65
  constantPool := pool
  accessFlags := fl
  thisClass := this
  superClass := sup
  interfaces := ifs
  fields := fds
  methods := ms
  attributes := attrs
def plain (name : String) (sup : Option ClassId) : Class where
  name := name
  kind := .ordinary
  loader := none
  accessFlags := 33
  super := sup
  interfaces := #[]
  cf := none
  fields := #[]
  methods := #[]
  instanceTypes := #[]
  staticTypes := #[]
  resolved := #[]
  callSites := []
  init := .initialized
  statics := none
  mirror := none

def pool0 : Array CpInfo := pool [(5, u "<init>"), (0, u "()V"), (1, .class_ 10), (1, u "java/lang/Object")] 113

def k0c0 : Code := { maxStack := 0, maxLocals := 1, code := object_method_1_code, exceptionTable := #[], attributes := #[] }
def k0m0 : Method := { name := "<init>", desc := "()V", sig := { parameters := [], returnType := none }, accessFlags := 1, code := some k0c0 }
/-- java/lang/Object -/
def k0 : Class := { plain "java/lang/Object" none with
  accessFlags := 33
  interfaces := #[]
  cf := some (fileOf pool0 8 #[] #[{ accessFlags := 1, nameIndex := 5, descriptorIndex := 6, attributes := #[] }] 33 0 #[] #[])
  fields := #[]
  methods := #[k0m0]
  instanceTypes := #[]
  staticTypes := #[]
  resolved := Array.replicate 124 none
  statics := none }

def pool1 : Array CpInfo := pool [(2, .class_ 4), (1, u "java/lang/Object"), (0, u "<init>"), (0, u "()V"), (0, .class_ 8), (0, u "com/example/rows_over_order/rowsoverorder/models/Version"), (0, .methodref 7 10), (0, .nameAndType 5 11), (0, u "(J[B)V"), (0, .methodref 7 13), (0, .nameAndType 14 15), (0, u "isDeletion"), (0, u "()Z"), (0, .methodref 7 17), (0, .nameAndType 18 19), (0, u "timestamp"), (0, u "()J"), (0, .class_ 21), (0, u "com/example/rows_over_order/rowsoverorder/models/VersionIsDeletionPinLaw"), (2, u "law"), (0, u "(JIII)Z")] 5

def k1m0 : Method := { name := "<init>", desc := "()V", sig := { parameters := [], returnType := none }, accessFlags := 2, code := none }
def k1c1 : Code := { maxStack := 5, maxLocals := 9, code := code, exceptionTable := #[], attributes := #[] }
def k1m1 : Method := { name := "law", desc := "(JIII)Z", sig := { parameters := [.long, .int, .int, .int], returnType := some .boolean }, accessFlags := 9, code := some k1c1 }
/-- com/example/rows_over_order/rowsoverorder/models/VersionIsDeletionPinLaw -/
def k1 : Class := { plain "com/example/rows_over_order/rowsoverorder/models/VersionIsDeletionPinLaw" (some 0) with
  accessFlags := 49
  interfaces := #[]
  cf := some (fileOf pool1 20 #[] #[{ accessFlags := 2, nameIndex := 5, descriptorIndex := 6, attributes := #[] }, { accessFlags := 9, nameIndex := 24, descriptorIndex := 25, attributes := #[] }] 49 2 #[] #[])
  fields := #[]
  methods := #[k1m0, k1m1]
  instanceTypes := #[]
  staticTypes := #[]
  resolved := Array.replicate 31 none
  statics := none }

def pool2 : Array CpInfo := pool [(1, .methodref 2 3), (0, .class_ 4), (0, .nameAndType 5 6), (0, u "java/lang/Object"), (0, u "<init>"), (0, u "()V"), (0, .fieldref 8 9), (0, .class_ 10), (0, .nameAndType 11 12), (0, u "com/example/rows_over_order/rowsoverorder/models/Version"), (0, u "timestamp"), (0, u "J"), (0, .fieldref 8 14), (0, .nameAndType 15 16), (0, u "packed"), (0, u "[B"), (36, u "(J[B)V"), (2, u "()J"), (4, u "isDeletion"), (0, u "()Z")] 21

def k2c0 : Code := { maxStack := 3, maxLocals := 4, code := prog_31_method_1_code, exceptionTable := #[], attributes := #[] }
def k2m0 : Method := { name := "<init>", desc := "(J[B)V", sig := { parameters := [.long, (.array .byte)], returnType := none }, accessFlags := 0, code := some k2c0 }
def k2c1 : Code := { maxStack := 2, maxLocals := 1, code := prog_31_method_2_code, exceptionTable := #[], attributes := #[] }
def k2m1 : Method := { name := "timestamp", desc := "()J", sig := { parameters := [], returnType := some .long }, accessFlags := 1, code := some k2c1 }
def k2c2 : Code := { maxStack := 1, maxLocals := 1, code := prog_31_method_4_code, exceptionTable := #[], attributes := #[] }
def k2m2 : Method := { name := "isDeletion", desc := "()Z", sig := { parameters := [], returnType := some .boolean }, accessFlags := 0, code := some k2c2 }
/-- com/example/rows_over_order/rowsoverorder/models/Version -/
def k2 : Class := { plain "com/example/rows_over_order/rowsoverorder/models/Version" (some 0) with
  accessFlags := 49
  interfaces := #[]
  cf := some (fileOf pool2 8 #[] #[{ accessFlags := 0, nameIndex := 5, descriptorIndex := 53, attributes := #[] }, { accessFlags := 1, nameIndex := 11, descriptorIndex := 56, attributes := #[] }, { accessFlags := 0, nameIndex := 61, descriptorIndex := 62, attributes := #[] }] 49 2 #[] #[{ accessFlags := 18, nameIndex := 11, descriptorIndex := 12, attributes := #[] }, { accessFlags := 18, nameIndex := 15, descriptorIndex := 16, attributes := #[] }])
  fields := #[{ name := "timestamp", type := .long, accessFlags := 18, slot := 0, constantValue := 0 }, { name := "packed", type := (.array .byte), accessFlags := 18, slot := 1, constantValue := 0 }]
  methods := #[k2m0, k2m1, k2m2]
  instanceTypes := #[.long, (.array .byte)]
  staticTypes := #[]
  resolved := Array.replicate 84 none
  statics := none }

def pool3 : Array CpInfo := pool [(1, u "java/lang/Cloneable"), (0, .class_ 1), (0, u "java/lang/Object"), (0, .class_ 3)] 3

/-- java/lang/Cloneable -/
def k3 : Class := { plain "java/lang/Cloneable" (some 0) with
  accessFlags := 1537
  interfaces := #[]
  cf := some (fileOf pool3 2 #[] #[] 1537 4 #[] #[])
  fields := #[]
  methods := #[]
  instanceTypes := #[]
  staticTypes := #[]
  resolved := Array.replicate 8 none
  statics := none }

def pool4 : Array CpInfo := pool [(1, u "java/io/Serializable"), (0, .class_ 1), (0, u "java/lang/Object"), (0, .class_ 3)] 3

/-- java/io/Serializable -/
def k4 : Class := { plain "java/io/Serializable" (some 0) with
  accessFlags := 1537
  interfaces := #[]
  cf := some (fileOf pool4 2 #[] #[] 1537 4 #[] #[])
  fields := #[]
  methods := #[]
  instanceTypes := #[]
  staticTypes := #[]
  resolved := Array.replicate 8 none
  statics := none }

/-- the primitive byte -/
def k5 : Class := { plain "byte" none with kind := .primitive 'B', accessFlags := 0x411 }
/-- [B -/
def k6 : Class := { plain "[B" (some 0) with kind := .array 5 .byte, interfaces := #[3, 4], accessFlags := 1041 }

/-- the primitive int -/
def k7 : Class := { plain "int" none with kind := .primitive 'I', accessFlags := 0x411 }
/-- [I -/
def k8 : Class := { plain "[I" (some 0) with kind := .array 7 .int, interfaces := #[3, 4], accessFlags := 1041 }

def heap : Heap := #[]
def classes : Array Class := #[k0, k1, k2, k3, k4, k5, k6, k7, k8]
def interned : List (Array UInt16 × Addr) := []
def slotsUsed : Nat := 0
def theMethod : MethodId := ⟨1, 1⟩
def args0 : Array Value := #[.long 5, .int 7, .int 7, .int 7]
def aboutOver (below : List Frame) : State where
  vm := { classes := classes, interned := interned.toArray }
  heap := heap
  slotsUsed := slotsUsed
  threads := #[{ frames := .invoking theMethod args0 :: below }]
def below0 : List Frame := [.native { method := ⟨0, 0⟩, args := #[] }]
def about1 : State := aboutOver below0
def p0 : Program := .bare "" "" ""
def e0 : Env := launch0.env 0 0 0
theorem w_frames : about1.frames = Frame.invoking theMethod args0 :: below0 := rfl
set_option maxRecDepth 65536 in
theorem w_args : argsFit about1.vm theMethod args0 = true := by decide +kernel
set_option maxRecDepth 65536 in
theorem w_heap : heapFits about1 = true := by decide +kernel
set_option maxRecDepth 65536 in
theorem w_runnable : about1.curStatus? = some .runnable := by decide +kernel
set_option maxRecDepth 65536 in
theorem w_alone : about1.alone = true := by decide +kernel
set_option maxRecDepth 65536 in
theorem w_named : about1.methodNamed? x = some theMethod := by decide +kernel
set_option maxRecDepth 65536 in
theorem w_hears : about1.hears theMethod below0 = true := by decide +kernel
set_option maxRecDepth 65536 in
theorem w_ripe : about1.ripe theMethod args0 below0 = true := by decide +kernel
theorem w_running : about1.status = .running := rfl
set_option maxRecDepth 65536 in
theorem w_room : about1.hasRoom e0.platform room_1 = true :=
  launch0.hasRoom_least _ room_1 (by decide +kernel) (by decide +kernel) (by decide +kernel) (by decide +kernel) (by decide +kernel) (by decide +kernel)
theorem allAtoms_all (ts : List Jvm.Cond) (a : Array Jvm.Value) (st : Jvm.State) : (allAtoms ts).before a st = ts.all (fun c => c.before a st) := by
  induction ts with
  | nil => rfl
  | cons c t ih =>
    show (Jvm.Cond.and c (allAtoms t)).before a st = _
    rw [Jvm.Cond.before_and, ih, List.all_cons]
def words1 : List Jvm.Cond := Jvm.Cond.code x code maxLocals ret :: tables_1
/-- a 'code' word, met by the world's own term for the bytes: nothing is compared byte by byte -/
theorem code_word {y : MethodName} {bytes : ByteArray} {mx : Nat} {rt : Option FieldType} {a : Array Value} {s : State} {m : MethodId} {meth : Method} {c : Code} (h1 : s.methodNamed? y = some m) (h2 : s.vm.method? m = some meth) (h3 : meth.code = some c) (h4 : c.code = bytes)
    (h5 : (c.maxLocals == mx && c.exceptionTable.isEmpty && decide (c.maxStack ≤ mostOperands) && decide (meth.sig.returnType = rt) && !meth.locks && decide (parseMethodDescriptor y.desc = some meth.sig)) = true) : (Jvm.Cond.code y bytes mx rt).before a s = true := by
  simp only [Bool.and_eq_true, beq_iff_eq, Bool.not_eq_true', decide_eq_true_eq] at h5
  obtain ⟨⟨⟨⟨⟨g1, g2⟩, g3⟩, g4⟩, g5⟩, g6⟩ := h5
  simp [Cond.before, Cond.holds, Cond.value, h1, h2, h3, h4, g1, g2, g3, g4, g5, g6]
def isCode : Jvm.Cond → Bool
  | .code _ _ _ _ => true
  | _ => false
theorem all_split {L : List Jvm.Cond} {P : Jvm.Cond → Bool} (h1 : L.all (fun c => isCode c || P c) = true) (h2 : ∀ c ∈ L.filter isCode, P c = true) : L.all P = true := by
  refine List.all_eq_true.mpr fun c hc => ?_
  have h := List.all_eq_true.mp h1 c hc
  rcases Bool.eq_false_or_eq_true (isCode c) with hi | hi
  · exact h2 c (List.mem_filter.mpr ⟨hc, hi⟩)
  · simpa [hi] using h
set_option maxRecDepth 65536 in
theorem w_c0 : (Jvm.Cond.code x code maxLocals ret).before args0 about1 = true := code_word (m := ⟨1, 1⟩) (meth := k1m1) (c := k1c1) (by decide +kernel) rfl rfl rfl (by decide +kernel)
set_option maxRecDepth 65536 in
theorem w_c1 : (Jvm.Cond.code ({ cls := "com/example/rows_over_order/rowsoverorder/models/Version", name := "<init>", desc := "(J[B)V" } : Jvm.MethodName) prog_31_method_1_code (4 : Nat) (Option.none : Option Jvm.ClassFile.FieldType)).before args0 about1 = true := code_word (m := ⟨2, 0⟩) (meth := k2m0) (c := k2c0) (by decide +kernel) rfl rfl rfl (by decide +kernel)
set_option maxRecDepth 65536 in
theorem w_c2 : (Jvm.Cond.code ({ cls := "java/lang/Object", name := "<init>", desc := "()V" } : Jvm.MethodName) object_method_1_code (1 : Nat) (Option.none : Option Jvm.ClassFile.FieldType)).before args0 about1 = true := code_word (m := ⟨0, 0⟩) (meth := k0m0) (c := k0c0) (by decide +kernel) rfl rfl rfl (by decide +kernel)
set_option maxRecDepth 65536 in
theorem w_c3 : (Jvm.Cond.code ({ cls := "com/example/rows_over_order/rowsoverorder/models/Version", name := "isDeletion", desc := "()Z" } : Jvm.MethodName) prog_31_method_4_code (1 : Nat) (Option.some Jvm.ClassFile.FieldType.boolean)).before args0 about1 = true := code_word (m := ⟨2, 2⟩) (meth := k2m2) (c := k2c2) (by decide +kernel) rfl rfl rfl (by decide +kernel)
set_option maxRecDepth 65536 in
theorem w_c4 : (Jvm.Cond.code ({ cls := "com/example/rows_over_order/rowsoverorder/models/Version", name := "timestamp", desc := "()J" } : Jvm.MethodName) prog_31_method_2_code (1 : Nat) (Option.some Jvm.ClassFile.FieldType.long)).before args0 about1 = true := code_word (m := ⟨2, 1⟩) (meth := k2m1) (c := k2c1) (by decide +kernel) rfl rfl rfl (by decide +kernel)
def codes1 : List Jvm.Cond := [Jvm.Cond.code x code maxLocals ret, Jvm.Cond.code ({ cls := "com/example/rows_over_order/rowsoverorder/models/Version", name := "<init>", desc := "(J[B)V" } : Jvm.MethodName) prog_31_method_1_code (4 : Nat) (Option.none : Option Jvm.ClassFile.FieldType), Jvm.Cond.code ({ cls := "java/lang/Object", name := "<init>", desc := "()V" } : Jvm.MethodName) object_method_1_code (1 : Nat) (Option.none : Option Jvm.ClassFile.FieldType), Jvm.Cond.code ({ cls := "com/example/rows_over_order/rowsoverorder/models/Version", name := "isDeletion", desc := "()Z" } : Jvm.MethodName) prog_31_method_4_code (1 : Nat) (Option.some Jvm.ClassFile.FieldType.boolean), Jvm.Cond.code ({ cls := "com/example/rows_over_order/rowsoverorder/models/Version", name := "timestamp", desc := "()J" } : Jvm.MethodName) prog_31_method_2_code (1 : Nat) (Option.some Jvm.ClassFile.FieldType.long)]
set_option maxRecDepth 65536 in
theorem codes_eq : words1.filter isCode = codes1 := rfl
theorem w_codes : ∀ c ∈ words1.filter isCode, c.before args0 about1 = true := by
  rw [codes_eq]
  intro c hc
  simp only [codes1, List.mem_cons, List.not_mem_nil, or_false] at hc
  rcases hc with rfl | rfl | rfl | rfl | rfl
  · exact w_c0
  · exact w_c1
  · exact w_c2
  · exact w_c3
  · exact w_c4
set_option maxRecDepth 65536 in
theorem w_t1 : (words1.take 24).all (fun c => isCode c || c.before args0 about1) = true := by decide +kernel
set_option maxRecDepth 65536 in
theorem w_t2 : (words1.drop 24).all (fun c => isCode c || c.before args0 about1) = true := by decide +kernel
theorem w_tables : (allAtoms (Jvm.Cond.code x code maxLocals ret :: tables_1)).before args0 about1 = true := by
  rw [allAtoms_all]
  show words1.all (fun c => c.before args0 about1) = true
  refine all_split ?_ w_codes
  rw [← List.take_append_drop 24 words1, List.all_append, w_t1, w_t2]
  rfl
set_option maxRecDepth 65536 in
theorem w_case : (Jvm.Cond.and given_1 narrow_1).before args0 about1 = true := by decide +kernel
theorem w_applies : (headSpec (Jvm.Cond.code x code maxLocals ret :: tables_1) room_1).applies x e0.platform about1 = true :=
  (Spec.applies_iff w_frames).mpr ⟨w_running, w_runnable, w_alone, w_named, w_hears, w_ripe, w_room, w_tables⟩
theorem atStart : AtStart classFile x code maxLocals ret World_1 tables_1 room_1 Calls_1 rest_1 Pre_1 launch0 p0 e0 about1 theMethod args0 below0 :=
  ⟨lists_1, trivial, launch0.admits_env _ _ _, launch0.least_env, fairChoices_fair.cas, fairChoices_fair.clock, w_frames, w_args, w_heap, w_applies, trivial, trivial, w_case⟩
end start1
theorem witness_1 : WitnessClaimed_1 := ⟨start1.p0, start1.e0, start1.about1, start1.theMethod, start1.args0, start1.below0, start1.atStart⟩
end Jvm.Pilot.@@N@@
