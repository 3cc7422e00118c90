import JvmDerived
import JvmDerived.Pilot.@@N@@Statement
import JvmDerived.Pilot.@@N@@Code
set_option linter.unusedVariables false
set_option linter.unusedSimpArgs false
@@BLOCK:NumsL.lean.txt@@
namespace Jvm.RoadKit
open Sem ClassFile Op Lib Jvm.Stand Jvm.Free Jvm.LawKit
section Own
variable {p : Program} {l : Launch} {e : Env} {R : Room} {s : State} {m : MethodId} {args : Array Value} {below : List Frame} {meth : Method} {c : Code} {T : State} {locs : List Loc} {cells slots : Nat}
/-- from t the run ends in a return of which Q holds -/
def OGo (p : Program) (e : Env) (below : List Frame) (s : State) (Q : Option Value → Heap → List Loc → Prop) (C N : Nat) (t : State) : Prop :=
  ∃ s₂ o, Steps p.tables e below t s₂ ∧ s₂.status = .running ∧ Ended s₂ below o ∧ ∃ v L, o = .returned v ∧ Q v s₂.heap L ∧ FrameEnd s o s₂ L C N
theorem OGo.st {Q : Option Value → Heap → List Loc → Prop} {C N : Nat} {t t' : State} (k : ∀ target, Steps p.tables e below t' target → Steps p.tables e below t target) (h : OGo p e below s Q C N t') : OGo p e below s Q C N t := by
  obtain ⟨s₂, o, a, r⟩ := h; exact ⟨s₂, o, k _ a, r⟩
theorem oretW {Q : Option Value → Heap → List Loc → Prop} {C N : Nat} (X : Stand p l e R s m args below meth c T locs cells slots) (hx : p.tables.exec = Jvm.exec) (hlk : meth.locks = false) {pc : Nat} {Ls : Array Slot} {w : Value} {t : FieldType} {i : Instr} {rest : List Value} (hret : meth.sig.returnType = some t) (hn : narrow t w = w)
    (hi : (i = .ireturn ∧ (t = .int ∨ t = .boolean ∨ t = .byte ∨ t = .char ∨ t = .short) ∧ ∃ z, w = .int z) ∨ (i = .lreturn ∧ t = .long ∧ ∃ z, w = .long z) ∨ (i = .dreturn ∧ t = .double ∧ ∃ z, w = .double z) ∨ (i = .freturn ∧ t = .float ∧ ∃ z, w = .float z) ∨ (i = .areturn ∧ t.isReference = true ∧ w.isRef = true))
    (hd : decode c.code pc = .ok (i, 1)) {h : Heap} (hh : T.heap = h) (hq : Q (some w) h locs) (hC : cells ≤ C) (hN : slots ≤ N) : OGo p e below s Q C N (T.setTop (mkF m pc Ls (w :: rest))) := by
  obtain ⟨fs, hr, hrun, hended, hW, hsame⟩ := X.leave (v := some w) (fun h => by rw [hret] at h; cases h) hlk
  exact ⟨_, _, retOut X hx hret hn hi hd hr, hrun, hended, _, _, rfl, hh ▸ hq, ⟨_, rfl⟩, hW, hsame.mono hC hN⟩
theorem oretI {Q : Option Value → Heap → List Loc → Prop} {C N : Nat} (X : Stand p l e R s m args below meth c T locs cells slots) (hx : p.tables.exec = Jvm.exec) (hlk : meth.locks = false) {pc : Nat} {Ls : Array Slot} {z : Int32} {rest : List Value} (hret : meth.sig.returnType = some .int)
    (hd : decode c.code pc = .ok (.ireturn, 1)) {h : Heap} (hh : T.heap = h) (hq : Q (some (.int z)) h locs) (hC : cells ≤ C) (hN : slots ≤ N) : OGo p e below s Q C N (T.setTop (mkF m pc Ls (.int z :: rest))) :=
  oretW X hx hlk hret rfl (Or.inl ⟨rfl, Or.inl rfl, _, rfl⟩) hd hh hq hC hN
theorem oretJ {Q : Option Value → Heap → List Loc → Prop} {C N : Nat} (X : Stand p l e R s m args below meth c T locs cells slots) (hx : p.tables.exec = Jvm.exec) (hlk : meth.locks = false) {pc : Nat} {Ls : Array Slot} {z : Int64} {rest : List Value} (hret : meth.sig.returnType = some .long)
    (hd : decode c.code pc = .ok (.lreturn, 1)) {h : Heap} (hh : T.heap = h) (hq : Q (some (.long z)) h locs) (hC : cells ≤ C) (hN : slots ≤ N) : OGo p e below s Q C N (T.setTop (mkF m pc Ls (.long z :: rest))) :=
  oretW X hx hlk hret rfl (Or.inr (Or.inl ⟨rfl, rfl, _, rfl⟩)) hd hh hq hC hN
theorem onarR {t : FieldType} {w : Value} (ht : t.isReference = true) (hw : w.isRef = true) : narrow t w = w := by
  cases t <;> first | (cases ht; done) | (cases w <;> first | rfl | (cases hw; done))
theorem ofitR {t : FieldType} {w : Value} (ht : t.isReference = true) (hw : w.isRef = true) : fits t w = true := by
  cases t <;> first | (cases ht; done) | (cases w <;> first | rfl | (cases hw; done))
theorem oretA {Q : Option Value → Heap → List Loc → Prop} {C N : Nat} (X : Stand p l e R s m args below meth c T locs cells slots) (hx : p.tables.exec = Jvm.exec) (hlk : meth.locks = false) {pc : Nat} {Ls : Array Slot} {w : Value} {t : FieldType} {rest : List Value} (hret : meth.sig.returnType = some t) (ht : t.isReference = true) (hw : w.isRef = true)
    (hd : decode c.code pc = .ok (.areturn, 1)) {h : Heap} (hh : T.heap = h) (hq : Q (some w) h locs) (hC : cells ≤ C) (hN : slots ≤ N) : OGo p e below s Q C N (T.setTop (mkF m pc Ls (w :: rest))) :=
  oretW X hx hlk hret (onarR ht hw) (Or.inr (Or.inr (Or.inr (Or.inr ⟨rfl, ht, hw⟩)))) hd hh hq hC hN
theorem oretN {Q : Option Value → Heap → List Loc → Prop} {C N : Nat} (X : Stand p l e R s m args below meth c T locs cells slots) (hx : p.tables.exec = Jvm.exec) (hlk : meth.locks = false) {pc : Nat} {Ls : Array Slot} {z z' : Int32} {t : FieldType} {rest : List Value} (hret : meth.sig.returnType = some t) (ht : t = .boolean ∨ t = .byte ∨ t = .char ∨ t = .short)
    (hd : decode c.code pc = .ok (.ireturn, 1)) (hz : nar t z = z') {h : Heap} (hh : T.heap = h) (hq : Q (some (.int z')) h locs) (hC : cells ≤ C) (hN : slots ≤ N) : OGo p e below s Q C N (T.setTop (mkF m pc Ls (.int z :: rest))) := by
  subst hz
  obtain ⟨fs, hr, hrun, hended, hW, hsame⟩ := X.leave (v := some (.int (nar t z))) (fun h => by rw [hret] at h; cases h) hlk
  exact ⟨_, _, retN X hx hret ht hd hr, hrun, hended, _, _, rfl, hh ▸ hq, ⟨_, rfl⟩, hW, hsame.mono hC hN⟩
theorem oret0 {Q : Option Value → Heap → List Loc → Prop} {C N : Nat} (X : Stand p l e R s m args below meth c T locs cells slots) (hx : p.tables.exec = Jvm.exec) (hlk : meth.locks = false) {pc : Nat} {Ls : Array Slot} (hret : meth.sig.returnType = none)
    (hd : decode c.code pc = .ok (.return_, 1)) {h : Heap} (hh : T.heap = h) (hq : Q none h locs) (hC : cells ≤ C) (hN : slots ≤ N) : OGo p e below s Q C N (T.setTop (mkF m pc Ls [])) := by
  obtain ⟨fs, hr, hrun, hended, hW, hsame⟩ := X.leave (v := none) (fun _ => rfl) hlk
  exact ⟨_, _, X.returnOut hx hret hd hr, hrun, hended, _, _, rfl, hh ▸ hq, ⟨_, rfl⟩, hW, hsame.mono hC hN⟩
theorem olrem {tb : Tables} [Ours tb] {target : State} {g : JFrame} (h : At T m c below) (hx : tb.exec = Jvm.exec) (hg : g.method = m) {x y : Int64} {rest : List Value} (hd : decode c.code g.pc = .ok (.lrem, 1)) (hs : g.stack = .long y :: .long x :: rest) (hy : y ≠ 0)
    (hr : Steps tb e below (T.setTop { g with pc := g.pc + 1, stack := .long (x % y) :: rest }) target) : Steps tb e below (T.setTop g) target :=
  XS.lrem h hx hg hd hs hy (by rw [lrem_mod]; exact hr)
theorem olc_lt (x y : Int64) : lcmpW x y < 0 ↔ x < y := by rw [lcW]; exact lc_lt x y
theorem olc_gt (x y : Int64) : 0 < lcmpW x y ↔ y < x := by rw [lcW]; exact lc_gt x y
theorem olc_eq (x y : Int64) : lcmpW x y = 0 ↔ x = y := by rw [lcW]; exact lc_eq x y
theorem onilP {v : Int} : ∀ q ∈ ([] : List (Int × Int)), q.1 ≠ v := fun _ q => nomatch q
theorem oconsP {v a b : Int} {l : List (Int × Int)} (h : a ≠ v) (t : ∀ q ∈ l, q.1 ≠ v) : ∀ q ∈ (a, b) :: l, q.1 ≠ v := fun q hq => (List.mem_cons.mp hq).elim (fun u => by rw [u]; exact h) (t q)
theorem oint_ne {z k : Int32} {K : Int} (h : ¬ z = k) (hk : k.toInt = K) : K ≠ z.toInt := fun q => h (Int32.toInt_inj.mp (by rw [hk, q]))
theorem ofld_eq {Z : State} {t : Term} {C n d : String} {a : Addr} {k : Int32} (h : (Cond.eq (Term.field t C n d) (Term.int k)).value args Z none Z [] = some true) (ev : t.eval args Z none [] Z = some (.ref a)) : Fld Z Z.heap a C n d (.int k) := by
  apply Fld.start
  have q := fld_at (args := args) (first := Z) (o := none) (idx := []) (s := Z) (C := C) (n := n) (dd := d) ev
  simp only [Cond.value, q, Term.int_eval] at h
  cases hv : Z.fieldOf? a C n d with
  | none => simp [hv] at h
  | some v => cases v <;> simp [hv] at h <;> simp [h]
section Imp
variable {E a b : Int32}
theorem oLL (h : E < a) (k : a.toInt ≤ b.toInt) : E < b := by rw [Int32.lt_iff_toInt_lt] at *; omega
theorem oLnG (h : E < a) (k : a.toInt ≤ b.toInt + 1) : ¬ b < E := by rw [Int32.lt_iff_toInt_lt] at *; omega
theorem oLnE (h : E < a) (k : a.toInt ≤ b.toInt) : ¬ E = b := fun q => by subst q; rw [Int32.lt_iff_toInt_lt] at h; omega
theorem oGG (h : a < E) (k : b.toInt ≤ a.toInt) : b < E := by rw [Int32.lt_iff_toInt_lt] at *; omega
theorem oGnL (h : a < E) (k : b.toInt ≤ a.toInt + 1) : ¬ E < b := by rw [Int32.lt_iff_toInt_lt] at *; omega
theorem oGnE (h : a < E) (k : b.toInt ≤ a.toInt) : ¬ E = b := fun q => by subst q; rw [Int32.lt_iff_toInt_lt] at h; omega
theorem onLnL (h : ¬ E < a) (k : b.toInt ≤ a.toInt) : ¬ E < b := by rw [Int32.lt_iff_toInt_lt] at *; omega
theorem onLG (h : ¬ E < a) (k : b.toInt < a.toInt) : b < E := by rw [Int32.lt_iff_toInt_lt] at *; omega
theorem onLnE (h : ¬ E < a) (k : b.toInt < a.toInt) : ¬ E = b := fun q => by subst q; rw [Int32.lt_iff_toInt_lt] at h; omega
theorem onGnG (h : ¬ a < E) (k : a.toInt ≤ b.toInt) : ¬ b < E := by rw [Int32.lt_iff_toInt_lt] at *; omega
theorem onGL (h : ¬ a < E) (k : a.toInt < b.toInt) : E < b := by rw [Int32.lt_iff_toInt_lt] at *; omega
theorem onGnE (h : ¬ a < E) (k : a.toInt < b.toInt) : ¬ E = b := fun q => by subst q; rw [Int32.lt_iff_toInt_lt] at h; omega
end Imp
end Own
end Jvm.RoadKit
namespace Jvm.Pilot.@@N@@
open Jvm Jvm.ClassFile Sem Op Lib Jvm.Free Jvm.Stand Jvm.LawKit Jvm.RoadKit Bundle Jvm.Pilot.@@N@@.Jvm.D

theorem d1_0 : decode prog_72_method_1_code 0 = .ok (.aload_n 0, 1) := by decide +kernel
theorem d1_1 : decode prog_72_method_1_code 1 = .ok (.invokespecial 1, 3) := by decide +kernel
theorem d1_4 : decode prog_72_method_1_code 4 = .ok (.lload_n 1, 1) := by decide +kernel
theorem d1_5 : decode prog_72_method_1_code 5 = .ok (.lconst 0, 1) := by decide +kernel
theorem d1_6 : decode prog_72_method_1_code 6 = .ok (.lcmp, 1) := by decide +kernel
theorem d1_7 : decode prog_72_method_1_code 7 = .ok (.ifCond .ge 17, 3) := by decide +kernel
theorem d1_24 : decode prog_72_method_1_code 24 = .ok (.aload_n 0, 1) := by decide +kernel
theorem d1_25 : decode prog_72_method_1_code 25 = .ok (.lload_n 1, 1) := by decide +kernel
theorem d1_26 : decode prog_72_method_1_code 26 = .ok (.putfield 16, 3) := by decide +kernel
theorem d1_29 : decode prog_72_method_1_code 29 = .ok (.return_, 1) := by decide +kernel
theorem pn_1 : plainName "com/example/pushout_bench/pushoutbench/matcher/Effort" = true := by first | (simp [plainName, overriddenIn]; done) | decide +kernel
theorem ef_1 (m : MethodId) (o0 : Addr) (q1 : Int64) : entryFrame m #[(.ref o0), (.long q1)] 3 = mkF m 0 #[.val (.ref o0), .val (.long q1), .second] [] := by first | (simp [entryFrame, mkF, argsToLocals, Value.category]; done) | rfl
def Q1 (Z : State) (o0 : Addr) (q1 : Int64) (h0 : Heap) (n0 : Nat) (v : Option Value) (h : Heap) (L : List Loc) : Prop := v = none ∧ Fr n0 L ∧ Keep h0 h [o0] ∧ Fld Z h o0 "com/example/pushout_bench/pushoutbench/matcher/Effort" "limit" "J" (.long q1) ∧ Fld Z h o0 "com/example/pushout_bench/pushoutbench/matcher/Effort" "spent" "J" (.long (0 : Int64)) ∧ Fld Z h o0 "com/example/pushout_bench/pushoutbench/matcher/Effort" "ranOut" "Z" (.int (0 : Int32))
set_option maxRecDepth 65536 in
set_option maxHeartbeats 40000000 in
theorem rm1 (l : Launch) (Z : State) (a0 : Array Value) (hw : ∀ d ∈ tables_1, d.before a0 Z = true) (ws : List Jvm.Cond) (o0 : Addr) (q1 : Int64) (h0 : Heap) (n0 : Nat) (Z0 : n0 ≤ h0.size) (E_o0 : Exa Z h0 o0 "com/example/pushout_bench/pushoutbench/matcher/Effort") (F_limit : Fld Z h0 o0 "com/example/pushout_bench/pushoutbench/matcher/Effort" "limit" "J" (.long (0 : Int64))) (F_spent : Fld Z h0 o0 "com/example/pushout_bench/pushoutbench/matcher/Effort" "spent" "J" (.long (0 : Int64))) (F_ranOut : Fld Z h0 o0 "com/example/pushout_bench/pushoutbench/matcher/Effort" "ranOut" "Z" (.int (0 : Int32))) (g_o0 : n0 ≤ o0) (hp : ¬ (q1 < (0 : Int64))) :
    MetFree l (⟨"com/example/pushout_bench/pushoutbench/matcher/Effort", "<init>", "(J)V"⟩ : MethodName) (head1 (Jvm.Cond.code (⟨"com/example/pushout_bench/pushoutbench/matcher/Effort", "<init>", "(J)V"⟩ : MethodName) prog_72_method_1_code 3 none :: ws) ({ frames := 1, cells := 0, slots := 0, locals := 12 } : Room)) (fun a U => a = #[(.ref o0), (.long q1)] ∧ Z.Warmed39 U.vm ∧ U.heap = h0) (fun _ _ _ _ _ => True) (fun _ U o U' => ∃ v L, o = .returned v ∧ Q1 Z o0 q1 h0 n0 v U'.heap L ∧ FrameEnd U o U' L ({ frames := 1, cells := 0, slots := 0, locals := 12 } : Room).cells ({ frames := 1, cells := 0, slots := 0, locals := 12 } : Room).slots) := by
  refine MetFree.of_bodySF (plainFor_of_name pn_1) hisR ?_
  intro p e s m args below meth c s₁ Bd hml0 hP hK
  obtain ⟨rfl, hZ, hh⟩ := hP
  have hx := Bd.exec
  have hby := Bd.bytes
  have hml : c.maxLocals = 3 := hml0
  have hown : s.vm.findClass "com/example/pushout_bench/pushoutbench/matcher/Effort" = some m.cls := findClass_of_methodNamed Bd.named
  have hnm := (name_of_methodNamed Bd.named Bd.method).1
  have X0 : Stand p l e ({ frames := 1, cells := 0, slots := 0, locals := 12 } : Room) s m #[(.ref o0), (.long q1)] below meth c s₁ [] 0 0 := Stand.of_body Bd
  have e0 : s₁.heap = h0 := by rw [← hh, Bd.state]; rfl
  have N0 := Fr.nil n0
  show OGo p e below s (Q1 Z o0 q1 h0 n0) ({ frames := 1, cells := 0, slots := 0, locals := 12 } : Room).cells ({ frames := 1, cells := 0, slots := 0, locals := 12 } : Room).slots _
  refine OGo.st (fun _ k => castTop (ef_1 m o0 q1) k) ?_
  show OGo p e below s _ _ _ (s₁.setTop (mkF m 0 #[.val (.ref o0), .val (.long q1), .second] []))
  refine OGo.st (fun _ k => XS.aloadN X0.here hx rfl (hb hby d1_0) rfl rfl k) ?_
  show OGo p e below s _ _ _ (s₁.setTop (mkF m 1 #[.val (.ref o0), .val (.long q1), .second] [(.ref o0)]))
  obtain ⟨T1, X1, e1, st1⟩ := initO X0 hx hZ hown (hw _ (List.mem_of_getElem? (i := 7) rfl)) (hw _ (List.mem_of_getElem? (i := 8) rfl)) (hw _ (List.mem_of_getElem? (i := 9) rfl)) e0 (g := (mkF m 1 #[.val (.ref o0), .val (.long q1), .second] [(.ref o0)])) rfl (by rw [hml]; rfl) rfl (hb hby d1_1) (by decide) (W := 0) (by show 2 * 0 + _ ≤ _; exact Nat.le_of_eq rfl) (by decide)
  refine OGo.st st1 ?_
  show OGo p e below s _ _ _ (T1.setTop (mkF m 4 #[.val (.ref o0), .val (.long q1), .second] []))
  refine OGo.st (fun _ k => XS.lloadN X1.here hx rfl (hb hby d1_4) rfl k) ?_
  show OGo p e below s _ _ _ (T1.setTop (mkF m 5 #[.val (.ref o0), .val (.long q1), .second] [(.long q1)]))
  refine OGo.st (fun _ k => XS.lconst X1.here hx rfl (hb hby d1_5) k) ?_
  show OGo p e below s _ _ _ (T1.setTop (mkF m 6 #[.val (.ref o0), .val (.long q1), .second] [(.long (0 : Int64)), (.long q1)]))
  refine OGo.st (fun _ k => XS.lcmp X1.here hx rfl (hb hby d1_6) rfl k) ?_
  show OGo p e below s _ _ _ (T1.setTop (mkF m 7 #[.val (.ref o0), .val (.long q1), .second] [(.int (lcmpW q1 (0 : Int64)))]))
  by_cases hc7 : q1 < (0 : Int64)
  · refine OGo.st (fun _ k => XS.ifNo X1.here hx rfl (hb hby d1_7) rfl ((if0 _ _).trans (tlt ((olc_lt _ _).mpr hc7)).2.1) k) ?_
    show OGo p e below s _ _ _ (T1.setTop (mkF m 10 #[.val (.ref o0), .val (.long q1), .second] []))
    exact absurd hc7 hp
  · refine OGo.st (fun _ k => XS.ifYes X1.here hx rfl (pc0 := 7) (pc' := 24) rfl (hb hby d1_7) rfl ((if0 _ _).trans (flt (fun z => hc7 ((olc_lt _ _).mp z))).2.1) (by decide) (by decide) k) ?_
    show OGo p e below s _ _ _ (T1.setTop (mkF m 24 #[.val (.ref o0), .val (.long q1), .second] []))
    refine OGo.st (fun _ k => XS.aloadN X1.here hx rfl (hb hby d1_24) rfl rfl k) ?_
    show OGo p e below s _ _ _ (T1.setTop (mkF m 25 #[.val (.ref o0), .val (.long q1), .second] [(.ref o0)]))
    refine OGo.st (fun _ k => XS.lloadN X1.here hx rfl (hb hby d1_25) rfl k) ?_
    show OGo p e below s _ _ _ (T1.setTop (mkF m 26 #[.val (.ref o0), .val (.long q1), .second] [(.long q1), (.ref o0)]))
    obtain ⟨T2, h2, X2, e2, W2, st2⟩ := putF X1 hx hZ hown (host := "") (Or.inl (hw _ (List.mem_of_getElem? (i := 10) rfl))) Via.refl e1 F_limit E_o0 (Or.inr ⟨(hw _ (List.mem_of_getElem? (i := 11) rfl)), rfl, hnm⟩) (hw _ (List.mem_of_getElem? (i := 2) rfl)) (ty := .long) (by decide) rfl rfl (g := (mkF m 26 #[.val (.ref o0), .val (.long q1), .second] [(.long q1), (.ref o0)])) rfl rfl (hb hby d1_26)
    refine OGo.st st2 ?_
    have E_o0_w2 := E_o0.wr W2
    have F_spent_w2 := F_spent.other W2 (Or.inr (slot_ne (a0 := a0) (Or.inl (hw _ (List.mem_of_getElem? (i := 22) rfl))) (Or.inr (hw _ (List.mem_of_getElem? (i := 11) rfl))) (by decide) (t := .long) (t' := .long) (by decide) (by decide)))
    have F_ranOut_w2 := F_ranOut.other W2 (Or.inr (slot_ne (a0 := a0) (Or.inl (hw _ (List.mem_of_getElem? (i := 34) rfl))) (Or.inr (hw _ (List.mem_of_getElem? (i := 11) rfl))) (by decide) (t := .boolean) (t' := .long) (by decide) (by decide)))
    have K2 : Keep h0 h2 [o0] := (Keep.refl h0 _).wr W2 (Or.inl (List.mem_of_getElem? (i := 0) rfl))
    have N2 := Fr.snoc X2 N0 g_o0
    have Z2 : n0 ≤ h2.size := Nat.le_trans Z0 (Keep.of_wr W2).1
    have F2 : Fld Z h2 o0 "com/example/pushout_bench/pushoutbench/matcher/Effort" "limit" "J" (.long q1) := F_limit.same W2
    show OGo p e below s _ _ _ (T2.setTop (mkF m 29 #[.val (.ref o0), .val (.long q1), .second] []))
    exact oret0 X2 hx Bd.notSynchronized Bd.returns (hb hby d1_29) e2 ⟨rfl, N2, K2, F2, F_spent_w2, F_ranOut_w2⟩ (by decide) (by decide)
theorem d4_0 : decode prog_72_method_5_code 0 = .ok (.aload_n 0, 1) := by decide +kernel
theorem d4_1 : decode prog_72_method_5_code 1 = .ok (.getfield 29, 3) := by decide +kernel
theorem d4_4 : decode prog_72_method_5_code 4 = .ok (.aload_n 0, 1) := by decide +kernel
theorem d4_5 : decode prog_72_method_5_code 5 = .ok (.getfield 16, 3) := by decide +kernel
theorem d4_8 : decode prog_72_method_5_code 8 = .ok (.lcmp, 1) := by decide +kernel
theorem d4_9 : decode prog_72_method_5_code 9 = .ok (.ifCond .ne 10, 3) := by decide +kernel
theorem d4_12 : decode prog_72_method_5_code 12 = .ok (.aload_n 0, 1) := by decide +kernel
theorem d4_13 : decode prog_72_method_5_code 13 = .ok (.iconst 1, 1) := by decide +kernel
theorem d4_14 : decode prog_72_method_5_code 14 = .ok (.putfield 32, 3) := by decide +kernel
theorem d4_17 : decode prog_72_method_5_code 17 = .ok (.iconst 0, 1) := by decide +kernel
theorem d4_18 : decode prog_72_method_5_code 18 = .ok (.ireturn, 1) := by decide +kernel
theorem d4_19 : decode prog_72_method_5_code 19 = .ok (.aload_n 0, 1) := by decide +kernel
theorem d4_20 : decode prog_72_method_5_code 20 = .ok (.dup, 1) := by decide +kernel
theorem d4_21 : decode prog_72_method_5_code 21 = .ok (.getfield 29, 3) := by decide +kernel
theorem d4_24 : decode prog_72_method_5_code 24 = .ok (.lconst 1, 1) := by decide +kernel
theorem d4_25 : decode prog_72_method_5_code 25 = .ok (.ladd, 1) := by decide +kernel
theorem d4_26 : decode prog_72_method_5_code 26 = .ok (.putfield 29, 3) := by decide +kernel
theorem d4_29 : decode prog_72_method_5_code 29 = .ok (.iconst 1, 1) := by decide +kernel
theorem d4_30 : decode prog_72_method_5_code 30 = .ok (.ireturn, 1) := by decide +kernel
theorem pn_4 : plainName "com/example/pushout_bench/pushoutbench/matcher/Effort" = true := by first | (simp [plainName, overriddenIn]; done) | decide +kernel
theorem ef_4 (m : MethodId) (o0 : Addr) : entryFrame m #[(.ref o0)] 1 = mkF m 0 #[.val (.ref o0)] [] := by first | (simp [entryFrame, mkF, argsToLocals, Value.category]; done) | rfl
def f4 (u_limit : Int64) (u_spent : Int64) (u_ranOut : Int32) : Int32 := (if u_spent = u_limit then (0 : Int32) else (1 : Int32))
def f4a (u_limit : Int64) (u_spent : Int64) (u_ranOut : Int32) : Int64 := (if u_spent = u_limit then u_spent else (u_spent + (1 : Int64)))
def f4b (u_limit : Int64) (u_spent : Int64) (u_ranOut : Int32) : Int32 := (if u_spent = u_limit then (1 : Int32) else u_ranOut)
def Q4 (Z : State) (o0 : Addr) (u_limit : Int64) (u_spent : Int64) (u_ranOut : Int32) (h0 : Heap) (n0 : Nat) (v : Option Value) (h : Heap) (L : List Loc) : Prop := v = some (.int (f4 u_limit u_spent u_ranOut)) ∧ Fr n0 L ∧ Keep h0 h [o0] ∧ Fld Z h o0 "com/example/pushout_bench/pushoutbench/matcher/Effort" "limit" "J" (.long u_limit) ∧ Fld Z h o0 "com/example/pushout_bench/pushoutbench/matcher/Effort" "spent" "J" (.long (f4a u_limit u_spent u_ranOut)) ∧ Fld Z h o0 "com/example/pushout_bench/pushoutbench/matcher/Effort" "ranOut" "Z" (.int (f4b u_limit u_spent u_ranOut))
set_option maxRecDepth 65536 in
set_option maxHeartbeats 40000000 in
theorem rm4 (l : Launch) (Z : State) (a0 : Array Value) (hw : ∀ d ∈ tables_1, d.before a0 Z = true) (ws : List Jvm.Cond) (o0 : Addr) (u_limit : Int64) (u_spent : Int64) (u_ranOut : Int32) (h0 : Heap) (n0 : Nat) (Z0 : n0 ≤ h0.size) (E_o0 : Exa Z h0 o0 "com/example/pushout_bench/pushoutbench/matcher/Effort") (F_limit : Fld Z h0 o0 "com/example/pushout_bench/pushoutbench/matcher/Effort" "limit" "J" (.long u_limit)) (F_spent : Fld Z h0 o0 "com/example/pushout_bench/pushoutbench/matcher/Effort" "spent" "J" (.long u_spent)) (F_ranOut : Fld Z h0 o0 "com/example/pushout_bench/pushoutbench/matcher/Effort" "ranOut" "Z" (.int u_ranOut)) (g_o0 : n0 ≤ o0) :
    MetFree l (⟨"com/example/pushout_bench/pushoutbench/matcher/Effort", "spend", "()Z"⟩ : MethodName) (head1 (Jvm.Cond.code (⟨"com/example/pushout_bench/pushoutbench/matcher/Effort", "spend", "()Z"⟩ : MethodName) prog_72_method_5_code 1 (some .boolean) :: ws) ({ frames := 0, cells := 0, slots := 0, locals := 0 } : Room)) (fun a U => a = #[(.ref o0)] ∧ Z.Warmed39 U.vm ∧ U.heap = h0) (fun _ _ _ _ _ => True) (fun _ U o U' => ∃ v L, o = .returned v ∧ Q4 Z o0 u_limit u_spent u_ranOut h0 n0 v U'.heap L ∧ FrameEnd U o U' L ({ frames := 0, cells := 0, slots := 0, locals := 0 } : Room).cells ({ frames := 0, cells := 0, slots := 0, locals := 0 } : Room).slots) := by
  refine MetFree.of_bodySF (plainFor_of_name pn_4) hisR ?_
  intro p e s m args below meth c s₁ Bd hml0 hP hK
  obtain ⟨rfl, hZ, hh⟩ := hP
  have hx := Bd.exec
  have hby := Bd.bytes
  have hml : c.maxLocals = 1 := hml0
  have hown : s.vm.findClass "com/example/pushout_bench/pushoutbench/matcher/Effort" = some m.cls := findClass_of_methodNamed Bd.named
  have hnm := (name_of_methodNamed Bd.named Bd.method).1
  have X0 : Stand p l e ({ frames := 0, cells := 0, slots := 0, locals := 0 } : Room) s m #[(.ref o0)] below meth c s₁ [] 0 0 := Stand.of_body Bd
  have e0 : s₁.heap = h0 := by rw [← hh, Bd.state]; rfl
  have N0 := Fr.nil n0
  show OGo p e below s (Q4 Z o0 u_limit u_spent u_ranOut h0 n0) ({ frames := 0, cells := 0, slots := 0, locals := 0 } : Room).cells ({ frames := 0, cells := 0, slots := 0, locals := 0 } : Room).slots _
  refine OGo.st (fun _ k => castTop (ef_4 m o0) k) ?_
  show OGo p e below s _ _ _ (s₁.setTop (mkF m 0 #[.val (.ref o0)] []))
  refine OGo.st (fun _ k => XS.aloadN X0.here hx rfl (hb hby d4_0) rfl rfl k) ?_
  show OGo p e below s _ _ _ (s₁.setTop (mkF m 1 #[.val (.ref o0)] [(.ref o0)]))
  obtain ⟨T1, X1, e1, st1⟩ := getF X0 hx hZ hown (host := "") (Or.inl (hw _ (List.mem_of_getElem? (i := 21) rfl))) Via.refl e0 F_spent (g := (mkF m 1 #[.val (.ref o0)] [(.ref o0)])) rfl rfl (hb hby d4_1)
  refine OGo.st st1 ?_
  show OGo p e below s _ _ _ (T1.setTop (mkF m 4 #[.val (.ref o0)] [(.long u_spent)]))
  refine OGo.st (fun _ k => XS.aloadN X1.here hx rfl (hb hby d4_4) rfl rfl k) ?_
  show OGo p e below s _ _ _ (T1.setTop (mkF m 5 #[.val (.ref o0)] [(.ref o0), (.long u_spent)]))
  obtain ⟨T2, X2, e2, st2⟩ := getF X1 hx hZ hown (host := "") (Or.inl (hw _ (List.mem_of_getElem? (i := 10) rfl))) Via.refl e1 F_limit (g := (mkF m 5 #[.val (.ref o0)] [(.ref o0), (.long u_spent)])) rfl rfl (hb hby d4_5)
  refine OGo.st st2 ?_
  show OGo p e below s _ _ _ (T2.setTop (mkF m 8 #[.val (.ref o0)] [(.long u_limit), (.long u_spent)]))
  refine OGo.st (fun _ k => XS.lcmp X2.here hx rfl (hb hby d4_8) rfl k) ?_
  show OGo p e below s _ _ _ (T2.setTop (mkF m 9 #[.val (.ref o0)] [(.int (lcmpW u_spent u_limit))]))
  by_cases hc9 : u_spent = u_limit
  · refine OGo.st (fun _ k => XS.ifNo X2.here hx rfl (hb hby d4_9) rfl ((if0 _ _).trans (teq ((olc_eq _ _).mpr hc9)).2) k) ?_
    show OGo p e below s _ _ _ (T2.setTop (mkF m 12 #[.val (.ref o0)] []))
    refine OGo.st (fun _ k => XS.aloadN X2.here hx rfl (hb hby d4_12) rfl rfl k) ?_
    show OGo p e below s _ _ _ (T2.setTop (mkF m 13 #[.val (.ref o0)] [(.ref o0)]))
    refine OGo.st (fun _ k => XS.iconst X2.here hx rfl (hb hby d4_13) k) ?_
    show OGo p e below s _ _ _ (T2.setTop (mkF m 14 #[.val (.ref o0)] [(.int (1 : Int32)), (.ref o0)]))
    obtain ⟨T3, h3, X3, e3, W3, st3⟩ := putFN X2 hx hZ hown (hw _ (List.mem_of_getElem? (i := 33) rfl)) Via.refl e2 F_ranOut E_o0 (Or.inl (hw _ (List.mem_of_getElem? (i := 34) rfl))) (hw _ (List.mem_of_getElem? (i := 2) rfl)) (ty := .boolean) (v := (.int (1 : Int32))) (v' := (.int (1 : Int32))) (by decide) rfl (by decide) (g := (mkF m 14 #[.val (.ref o0)] [(.int (1 : Int32)), (.ref o0)])) rfl rfl (hb hby d4_14)
    refine OGo.st st3 ?_
    have E_o0_w3 := E_o0.wr W3
    have F_limit_w3 := F_limit.other W3 (Or.inr (slot_ne (a0 := a0) (Or.inr (hw _ (List.mem_of_getElem? (i := 11) rfl))) (Or.inl (hw _ (List.mem_of_getElem? (i := 34) rfl))) (by decide) (t := .long) (t' := .boolean) (by decide) (by decide)))
    have F_spent_w3 := F_spent.other W3 (Or.inr (slot_ne (a0 := a0) (Or.inl (hw _ (List.mem_of_getElem? (i := 22) rfl))) (Or.inl (hw _ (List.mem_of_getElem? (i := 34) rfl))) (by decide) (t := .long) (t' := .boolean) (by decide) (by decide)))
    have K3 : Keep h0 h3 [o0] := (Keep.refl h0 _).wr W3 (Or.inl (List.mem_of_getElem? (i := 0) rfl))
    have N3 := Fr.snoc X3 N0 g_o0
    have Z3 : n0 ≤ h3.size := Nat.le_trans Z0 (Keep.of_wr W3).1
    have F3 : Fld Z h3 o0 "com/example/pushout_bench/pushoutbench/matcher/Effort" "ranOut" "Z" (.int (1 : Int32)) := F_ranOut.same W3
    show OGo p e below s _ _ _ (T3.setTop (mkF m 17 #[.val (.ref o0)] []))
    refine OGo.st (fun _ k => XS.iconst X3.here hx rfl (hb hby d4_17) k) ?_
    show OGo p e below s _ _ _ (T3.setTop (mkF m 18 #[.val (.ref o0)] [(.int (0 : Int32))]))
    exact oretN X3 hx Bd.notSynchronized (t := .boolean) Bd.returns (by simp) (hb hby d4_18) (z' := (0 : Int32)) (by decide) e3 ⟨(congrArg (fun z => some (Value.int z)) (show (0 : Int32) = f4 u_limit u_spent u_ranOut from Eq.symm (by unfold f4; exact if_pos hc9))), N3, K3, F_limit_w3, (by rw [show f4a u_limit u_spent u_ranOut = u_spent from (by unfold f4a; exact if_pos hc9)]; exact F_spent_w3), (by rw [show f4b u_limit u_spent u_ranOut = (1 : Int32) from (by unfold f4b; exact if_pos hc9)]; exact F3)⟩ (by decide) (by decide)
  · refine OGo.st (fun _ k => XS.ifYes X2.here hx rfl (pc0 := 9) (pc' := 19) rfl (hb hby d4_9) rfl ((if0 _ _).trans (feq (fun z => hc9 ((olc_eq _ _).mp z))).2) (by decide) (by decide) k) ?_
    show OGo p e below s _ _ _ (T2.setTop (mkF m 19 #[.val (.ref o0)] []))
    refine OGo.st (fun _ k => XS.aloadN X2.here hx rfl (hb hby d4_19) rfl rfl k) ?_
    show OGo p e below s _ _ _ (T2.setTop (mkF m 20 #[.val (.ref o0)] [(.ref o0)]))
    refine OGo.st (fun _ k => XS.dup X2.here hx rfl (hb hby d4_20) rfl rfl k) ?_
    show OGo p e below s _ _ _ (T2.setTop (mkF m 21 #[.val (.ref o0)] [(.ref o0), (.ref o0)]))
    obtain ⟨T4, X4, e4, st4⟩ := getF X2 hx hZ hown (host := "") (Or.inl (hw _ (List.mem_of_getElem? (i := 21) rfl))) Via.refl e2 F_spent (g := (mkF m 21 #[.val (.ref o0)] [(.ref o0), (.ref o0)])) rfl rfl (hb hby d4_21)
    refine OGo.st st4 ?_
    show OGo p e below s _ _ _ (T4.setTop (mkF m 24 #[.val (.ref o0)] [(.long u_spent), (.ref o0)]))
    refine OGo.st (fun _ k => XS.lconst X4.here hx rfl (hb hby d4_24) k) ?_
    show OGo p e below s _ _ _ (T4.setTop (mkF m 25 #[.val (.ref o0)] [(.long (1 : Int64)), (.long u_spent), (.ref o0)]))
    refine OGo.st (fun _ k => XS.ladd X4.here hx rfl (hb hby d4_25) rfl k) ?_
    show OGo p e below s _ _ _ (T4.setTop (mkF m 26 #[.val (.ref o0)] [(.long (u_spent + (1 : Int64))), (.ref o0)]))
    obtain ⟨T5, h5, X5, e5, W5, st5⟩ := putF X4 hx hZ hown (host := "") (Or.inl (hw _ (List.mem_of_getElem? (i := 21) rfl))) Via.refl e4 F_spent E_o0 (Or.inl (hw _ (List.mem_of_getElem? (i := 22) rfl))) (hw _ (List.mem_of_getElem? (i := 2) rfl)) (ty := .long) (by decide) rfl rfl (g := (mkF m 26 #[.val (.ref o0)] [(.long (u_spent + (1 : Int64))), (.ref o0)])) rfl rfl (hb hby d4_26)
    refine OGo.st st5 ?_
    have E_o0_w5 := E_o0.wr W5
    have F_limit_w5 := F_limit.other W5 (Or.inr (slot_ne (a0 := a0) (Or.inr (hw _ (List.mem_of_getElem? (i := 11) rfl))) (Or.inl (hw _ (List.mem_of_getElem? (i := 22) rfl))) (by decide) (t := .long) (t' := .long) (by decide) (by decide)))
    have F_ranOut_w5 := F_ranOut.other W5 (Or.inr (slot_ne (a0 := a0) (Or.inl (hw _ (List.mem_of_getElem? (i := 34) rfl))) (Or.inl (hw _ (List.mem_of_getElem? (i := 22) rfl))) (by decide) (t := .boolean) (t' := .long) (by decide) (by decide)))
    have K5 : Keep h0 h5 [o0] := (Keep.refl h0 _).wr W5 (Or.inl (List.mem_of_getElem? (i := 0) rfl))
    have N5 := Fr.snoc X5 N0 g_o0
    have Z5 : n0 ≤ h5.size := Nat.le_trans Z0 (Keep.of_wr W5).1
    have F5 : Fld Z h5 o0 "com/example/pushout_bench/pushoutbench/matcher/Effort" "spent" "J" (.long (u_spent + (1 : Int64))) := F_spent.same W5
    show OGo p e below s _ _ _ (T5.setTop (mkF m 29 #[.val (.ref o0)] []))
    refine OGo.st (fun _ k => XS.iconst X5.here hx rfl (hb hby d4_29) k) ?_
    show OGo p e below s _ _ _ (T5.setTop (mkF m 30 #[.val (.ref o0)] [(.int (1 : Int32))]))
    exact oretN X5 hx Bd.notSynchronized (t := .boolean) Bd.returns (by simp) (hb hby d4_30) (z' := (1 : Int32)) (by decide) e5 ⟨(congrArg (fun z => some (Value.int z)) (show (1 : Int32) = f4 u_limit u_spent u_ranOut from Eq.symm (by unfold f4; exact if_neg hc9))), N5, K5, F_limit_w5, (by rw [show f4a u_limit u_spent u_ranOut = (u_spent + (1 : Int64)) from (by unfold f4a; exact if_neg hc9)]; exact F5), (by rw [show f4b u_limit u_spent u_ranOut = u_ranOut from (by unfold f4b; exact if_neg hc9)]; exact F_ranOut_w5)⟩ (by decide) (by decide)
theorem d5_0 : decode prog_72_method_3_code 0 = .ok (.aload_n 0, 1) := by decide +kernel
theorem d5_1 : decode prog_72_method_3_code 1 = .ok (.getfield 29, 3) := by decide +kernel
theorem d5_4 : decode prog_72_method_3_code 4 = .ok (.lreturn, 1) := by decide +kernel
theorem pn_5 : plainName "com/example/pushout_bench/pushoutbench/matcher/Effort" = true := by first | (simp [plainName, overriddenIn]; done) | decide +kernel
theorem ef_5 (m : MethodId) (o0 : Addr) : entryFrame m #[(.ref o0)] 1 = mkF m 0 #[.val (.ref o0)] [] := by first | (simp [entryFrame, mkF, argsToLocals, Value.category]; done) | rfl
def f5 (u_spent : Int64) : Int64 := u_spent
def Q5 (Z : State) (o0 : Addr) (u_limit : Int64) (u_spent : Int64) (u_ranOut : Int32) (h0 : Heap) (n0 : Nat) (v : Option Value) (h : Heap) (L : List Loc) : Prop := v = some (.long (f5 u_spent)) ∧ Fr n0 L ∧ h = h0
set_option maxRecDepth 65536 in
set_option maxHeartbeats 40000000 in
theorem rm5 (l : Launch) (Z : State) (a0 : Array Value) (hw : ∀ d ∈ tables_1, d.before a0 Z = true) (ws : List Jvm.Cond) (o0 : Addr) (u_limit : Int64) (u_spent : Int64) (u_ranOut : Int32) (h0 : Heap) (n0 : Nat) (Z0 : n0 ≤ h0.size) (E_o0 : Exa Z h0 o0 "com/example/pushout_bench/pushoutbench/matcher/Effort") (F_limit : Fld Z h0 o0 "com/example/pushout_bench/pushoutbench/matcher/Effort" "limit" "J" (.long u_limit)) (F_spent : Fld Z h0 o0 "com/example/pushout_bench/pushoutbench/matcher/Effort" "spent" "J" (.long u_spent)) (F_ranOut : Fld Z h0 o0 "com/example/pushout_bench/pushoutbench/matcher/Effort" "ranOut" "Z" (.int u_ranOut)) :
    MetFree l (⟨"com/example/pushout_bench/pushoutbench/matcher/Effort", "spent", "()J"⟩ : MethodName) (head1 (Jvm.Cond.code (⟨"com/example/pushout_bench/pushoutbench/matcher/Effort", "spent", "()J"⟩ : MethodName) prog_72_method_3_code 1 (some .long) :: ws) ({ frames := 0, cells := 0, slots := 0, locals := 0 } : Room)) (fun a U => a = #[(.ref o0)] ∧ Z.Warmed39 U.vm ∧ U.heap = h0) (fun _ _ _ _ _ => True) (fun _ U o U' => ∃ v L, o = .returned v ∧ Q5 Z o0 u_limit u_spent u_ranOut h0 n0 v U'.heap L ∧ FrameEnd U o U' L ({ frames := 0, cells := 0, slots := 0, locals := 0 } : Room).cells ({ frames := 0, cells := 0, slots := 0, locals := 0 } : Room).slots) := by
  refine MetFree.of_bodySF (plainFor_of_name pn_5) hisR ?_
  intro p e s m args below meth c s₁ Bd hml0 hP hK
  obtain ⟨rfl, hZ, hh⟩ := hP
  have hx := Bd.exec
  have hby := Bd.bytes
  have hml : c.maxLocals = 1 := hml0
  have hown : s.vm.findClass "com/example/pushout_bench/pushoutbench/matcher/Effort" = some m.cls := findClass_of_methodNamed Bd.named
  have hnm := (name_of_methodNamed Bd.named Bd.method).1
  have X0 : Stand p l e ({ frames := 0, cells := 0, slots := 0, locals := 0 } : Room) s m #[(.ref o0)] below meth c s₁ [] 0 0 := Stand.of_body Bd
  have e0 : s₁.heap = h0 := by rw [← hh, Bd.state]; rfl
  have N0 := Fr.nil n0
  show OGo p e below s (Q5 Z o0 u_limit u_spent u_ranOut h0 n0) ({ frames := 0, cells := 0, slots := 0, locals := 0 } : Room).cells ({ frames := 0, cells := 0, slots := 0, locals := 0 } : Room).slots _
  refine OGo.st (fun _ k => castTop (ef_5 m o0) k) ?_
  show OGo p e below s _ _ _ (s₁.setTop (mkF m 0 #[.val (.ref o0)] []))
  refine OGo.st (fun _ k => XS.aloadN X0.here hx rfl (hb hby d5_0) rfl rfl k) ?_
  show OGo p e below s _ _ _ (s₁.setTop (mkF m 1 #[.val (.ref o0)] [(.ref o0)]))
  obtain ⟨T1, X1, e1, st1⟩ := getF X0 hx hZ hown (host := "") (Or.inl (hw _ (List.mem_of_getElem? (i := 21) rfl))) Via.refl e0 F_spent (g := (mkF m 1 #[.val (.ref o0)] [(.ref o0)])) rfl rfl (hb hby d5_1)
  refine OGo.st st1 ?_
  show OGo p e below s _ _ _ (T1.setTop (mkF m 4 #[.val (.ref o0)] [(.long u_spent)]))
  exact oretJ X1 hx Bd.notSynchronized Bd.returns (hb hby d5_4) e1 ⟨(congrArg (fun z => some (Value.long z)) (show u_spent = f5 u_spent from Eq.symm (by unfold f5; exact rfl))), N0, rfl⟩ (by decide) (by decide)
theorem d6_0 : decode prog_72_method_4_code 0 = .ok (.aload_n 0, 1) := by decide +kernel
theorem d6_1 : decode prog_72_method_4_code 1 = .ok (.getfield 32, 3) := by decide +kernel
theorem d6_4 : decode prog_72_method_4_code 4 = .ok (.ireturn, 1) := by decide +kernel
theorem pn_6 : plainName "com/example/pushout_bench/pushoutbench/matcher/Effort" = true := by first | (simp [plainName, overriddenIn]; done) | decide +kernel
theorem ef_6 (m : MethodId) (o0 : Addr) : entryFrame m #[(.ref o0)] 1 = mkF m 0 #[.val (.ref o0)] [] := by first | (simp [entryFrame, mkF, argsToLocals, Value.category]; done) | rfl
def f6 (u_ranOut : Int32) : Int32 := (nar .boolean u_ranOut)
def Q6 (Z : State) (o0 : Addr) (u_limit : Int64) (u_spent : Int64) (u_ranOut : Int32) (h0 : Heap) (n0 : Nat) (v : Option Value) (h : Heap) (L : List Loc) : Prop := v = some (.int (f6 u_ranOut)) ∧ Fr n0 L ∧ h = h0
set_option maxRecDepth 65536 in
set_option maxHeartbeats 40000000 in
theorem rm6 (l : Launch) (Z : State) (a0 : Array Value) (hw : ∀ d ∈ tables_1, d.before a0 Z = true) (ws : List Jvm.Cond) (o0 : Addr) (u_limit : Int64) (u_spent : Int64) (u_ranOut : Int32) (h0 : Heap) (n0 : Nat) (Z0 : n0 ≤ h0.size) (E_o0 : Exa Z h0 o0 "com/example/pushout_bench/pushoutbench/matcher/Effort") (F_limit : Fld Z h0 o0 "com/example/pushout_bench/pushoutbench/matcher/Effort" "limit" "J" (.long u_limit)) (F_spent : Fld Z h0 o0 "com/example/pushout_bench/pushoutbench/matcher/Effort" "spent" "J" (.long u_spent)) (F_ranOut : Fld Z h0 o0 "com/example/pushout_bench/pushoutbench/matcher/Effort" "ranOut" "Z" (.int u_ranOut)) :
    MetFree l (⟨"com/example/pushout_bench/pushoutbench/matcher/Effort", "ranOut", "()Z"⟩ : MethodName) (head1 (Jvm.Cond.code (⟨"com/example/pushout_bench/pushoutbench/matcher/Effort", "ranOut", "()Z"⟩ : MethodName) prog_72_method_4_code 1 (some .boolean) :: ws) ({ frames := 0, cells := 0, slots := 0, locals := 0 } : Room)) (fun a U => a = #[(.ref o0)] ∧ Z.Warmed39 U.vm ∧ U.heap = h0) (fun _ _ _ _ _ => True) (fun _ U o U' => ∃ v L, o = .returned v ∧ Q6 Z o0 u_limit u_spent u_ranOut h0 n0 v U'.heap L ∧ FrameEnd U o U' L ({ frames := 0, cells := 0, slots := 0, locals := 0 } : Room).cells ({ frames := 0, cells := 0, slots := 0, locals := 0 } : Room).slots) := by
  refine MetFree.of_bodySF (plainFor_of_name pn_6) hisR ?_
  intro p e s m args below meth c s₁ Bd hml0 hP hK
  obtain ⟨rfl, hZ, hh⟩ := hP
  have hx := Bd.exec
  have hby := Bd.bytes
  have hml : c.maxLocals = 1 := hml0
  have hown : s.vm.findClass "com/example/pushout_bench/pushoutbench/matcher/Effort" = some m.cls := findClass_of_methodNamed Bd.named
  have hnm := (name_of_methodNamed Bd.named Bd.method).1
  have X0 : Stand p l e ({ frames := 0, cells := 0, slots := 0, locals := 0 } : Room) s m #[(.ref o0)] below meth c s₁ [] 0 0 := Stand.of_body Bd
  have e0 : s₁.heap = h0 := by rw [← hh, Bd.state]; rfl
  have N0 := Fr.nil n0
  show OGo p e below s (Q6 Z o0 u_limit u_spent u_ranOut h0 n0) ({ frames := 0, cells := 0, slots := 0, locals := 0 } : Room).cells ({ frames := 0, cells := 0, slots := 0, locals := 0 } : Room).slots _
  refine OGo.st (fun _ k => castTop (ef_6 m o0) k) ?_
  show OGo p e below s _ _ _ (s₁.setTop (mkF m 0 #[.val (.ref o0)] []))
  refine OGo.st (fun _ k => XS.aloadN X0.here hx rfl (hb hby d6_0) rfl rfl k) ?_
  show OGo p e below s _ _ _ (s₁.setTop (mkF m 1 #[.val (.ref o0)] [(.ref o0)]))
  obtain ⟨T1, X1, e1, st1⟩ := getF X0 hx hZ hown (host := "") (Or.inl (hw _ (List.mem_of_getElem? (i := 33) rfl))) Via.refl e0 F_ranOut (g := (mkF m 1 #[.val (.ref o0)] [(.ref o0)])) rfl rfl (hb hby d6_1)
  refine OGo.st st1 ?_
  show OGo p e below s _ _ _ (T1.setTop (mkF m 4 #[.val (.ref o0)] [(.int u_ranOut)]))
  exact oretN X1 hx Bd.notSynchronized (t := .boolean) Bd.returns (by simp) (hb hby d6_4) rfl e1 ⟨(congrArg (fun z => some (Value.int z)) (show (nar .boolean u_ranOut) = f6 u_ranOut from Eq.symm (by unfold f6; exact rfl))), N0, rfl⟩ (by decide) (by decide)
theorem d7_0 : decode jdk_29_method_70_code 0 = .ok (.lload_n 0, 1) := by decide +kernel
theorem d7_1 : decode jdk_29_method_70_code 1 = .ok (.lload_n 2, 1) := by decide +kernel
theorem d7_2 : decode jdk_29_method_70_code 2 = .ok (.lcmp, 1) := by decide +kernel
theorem d7_3 : decode jdk_29_method_70_code 3 = .ok (.ifCond .gt 7, 3) := by decide +kernel
theorem d7_6 : decode jdk_29_method_70_code 6 = .ok (.lload_n 0, 1) := by decide +kernel
theorem d7_7 : decode jdk_29_method_70_code 7 = .ok (.goto 4, 3) := by decide +kernel
theorem d7_10 : decode jdk_29_method_70_code 10 = .ok (.lload_n 2, 1) := by decide +kernel
theorem d7_11 : decode jdk_29_method_70_code 11 = .ok (.lreturn, 1) := by decide +kernel
theorem ef_7 (m : MethodId) (q0 : Int64) (q1 : Int64) : entryFrame m #[(.long q0), (.long q1)] 4 = mkF m 0 #[.val (.long q0), .second, .val (.long q1), .second] [] := by first | (simp [entryFrame, mkF, argsToLocals, Value.category]; done) | rfl
def f7 (q0 : Int64) (q1 : Int64) : Int64 := (if q1 < q0 then q1 else q0)
def Q7 (Z : State) (q0 : Int64) (q1 : Int64) (h0 : Heap) (n0 : Nat) (v : Option Value) (h : Heap) (L : List Loc) : Prop := v = some (.long (f7 q0 q1)) ∧ Fr n0 L ∧ h = h0
set_option maxRecDepth 65536 in
set_option maxHeartbeats 40000000 in
theorem rm7 (l : Launch) (Z : State) (a0 : Array Value) (hw : ∀ d ∈ tables_1, d.before a0 Z = true) (ws : List Jvm.Cond) (q0 : Int64) (q1 : Int64) (h0 : Heap) (n0 : Nat) (Z0 : n0 ≤ h0.size) :
    MetFree l (⟨"java/lang/Math", "min", "(JJ)J"⟩ : MethodName) (head1 (Jvm.Cond.code (⟨"java/lang/Math", "min", "(JJ)J"⟩ : MethodName) jdk_29_method_70_code 4 (some .long) :: ws) ({ frames := 0, cells := 0, slots := 0, locals := 0 } : Room)) (fun a U => a = #[(.long q0), (.long q1)] ∧ Z.Warmed39 U.vm ∧ U.heap = h0) (fun _ _ _ _ _ => True) (fun _ U o U' => ∃ v L, o = .returned v ∧ Q7 Z q0 q1 h0 n0 v U'.heap L ∧ FrameEnd U o U' L ({ frames := 0, cells := 0, slots := 0, locals := 0 } : Room).cells ({ frames := 0, cells := 0, slots := 0, locals := 0 } : Room).slots) := by
  refine MetFree.of_bodySF (Jvm.Free.JP.mathPlain rfl (by decide +kernel)) hisR ?_
  intro p e s m args below meth c s₁ Bd hml0 hP hK
  obtain ⟨rfl, hZ, hh⟩ := hP
  have hx := Bd.exec
  have hby := Bd.bytes
  have hml : c.maxLocals = 4 := hml0
  have hown : s.vm.findClass "java/lang/Math" = some m.cls := findClass_of_methodNamed Bd.named
  have hnm := (name_of_methodNamed Bd.named Bd.method).1
  have X0 : Stand p l e ({ frames := 0, cells := 0, slots := 0, locals := 0 } : Room) s m #[(.long q0), (.long q1)] below meth c s₁ [] 0 0 := Stand.of_body Bd
  have e0 : s₁.heap = h0 := by rw [← hh, Bd.state]; rfl
  have N0 := Fr.nil n0
  show OGo p e below s (Q7 Z q0 q1 h0 n0) ({ frames := 0, cells := 0, slots := 0, locals := 0 } : Room).cells ({ frames := 0, cells := 0, slots := 0, locals := 0 } : Room).slots _
  refine OGo.st (fun _ k => castTop (ef_7 m q0 q1) k) ?_
  show OGo p e below s _ _ _ (s₁.setTop (mkF m 0 #[.val (.long q0), .second, .val (.long q1), .second] []))
  refine OGo.st (fun _ k => XS.lloadN X0.here hx rfl (hb hby d7_0) rfl k) ?_
  show OGo p e below s _ _ _ (s₁.setTop (mkF m 1 #[.val (.long q0), .second, .val (.long q1), .second] [(.long q0)]))
  refine OGo.st (fun _ k => XS.lloadN X0.here hx rfl (hb hby d7_1) rfl k) ?_
  show OGo p e below s _ _ _ (s₁.setTop (mkF m 2 #[.val (.long q0), .second, .val (.long q1), .second] [(.long q1), (.long q0)]))
  refine OGo.st (fun _ k => XS.lcmp X0.here hx rfl (hb hby d7_2) rfl k) ?_
  show OGo p e below s _ _ _ (s₁.setTop (mkF m 3 #[.val (.long q0), .second, .val (.long q1), .second] [(.int (lcmpW q0 q1))]))
  by_cases hc3 : q1 < q0
  · refine OGo.st (fun _ k => XS.ifYes X0.here hx rfl (pc0 := 3) (pc' := 10) rfl (hb hby d7_3) rfl ((if0 _ _).trans (tlt ((olc_gt _ _).mpr hc3)).2.2.1) (by decide) (by decide) k) ?_
    show OGo p e below s _ _ _ (s₁.setTop (mkF m 10 #[.val (.long q0), .second, .val (.long q1), .second] []))
    refine OGo.st (fun _ k => XS.lloadN X0.here hx rfl (hb hby d7_10) rfl k) ?_
    show OGo p e below s _ _ _ (s₁.setTop (mkF m 11 #[.val (.long q0), .second, .val (.long q1), .second] [(.long q1)]))
    exact oretJ X0 hx Bd.notSynchronized Bd.returns (hb hby d7_11) e0 ⟨(congrArg (fun z => some (Value.long z)) (show q1 = f7 q0 q1 from Eq.symm (by unfold f7; exact if_pos hc3))), N0, rfl⟩ (by decide) (by decide)
  · refine OGo.st (fun _ k => XS.ifNo X0.here hx rfl (hb hby d7_3) rfl ((if0 _ _).trans (flt (fun z => hc3 ((olc_gt _ _).mp z))).2.2.1) k) ?_
    show OGo p e below s _ _ _ (s₁.setTop (mkF m 6 #[.val (.long q0), .second, .val (.long q1), .second] []))
    refine OGo.st (fun _ k => XS.lloadN X0.here hx rfl (hb hby d7_6) rfl k) ?_
    show OGo p e below s _ _ _ (s₁.setTop (mkF m 7 #[.val (.long q0), .second, .val (.long q1), .second] [(.long q0)]))
    refine OGo.st (fun _ k => XS.goto X0.here hx rfl (pc0 := 7) (pc' := 11) rfl (hb hby d7_7) (by decide) (by decide) k) ?_
    show OGo p e below s _ _ _ (s₁.setTop (mkF m 11 #[.val (.long q0), .second, .val (.long q1), .second] [(.long q0)]))
    exact oretJ X0 hx Bd.notSynchronized Bd.returns (hb hby d7_11) e0 ⟨(congrArg (fun z => some (Value.long z)) (show q0 = f7 q0 q1 from Eq.symm (by unfold f7; exact if_neg hc3))), N0, rfl⟩ (by decide) (by decide)
theorem d3_0 : decode method_2_code 0 = .ok (.aload_n 0, 1) := by decide +kernel
theorem d3_1 : decode method_2_code 1 = .ok (.invokevirtual 7, 3) := by decide +kernel
theorem d3_4 : decode method_2_code 4 = .ok (.istore 5, 2) := by decide +kernel
theorem d3_6 : decode method_2_code 6 = .ok (.aload_n 0, 1) := by decide +kernel
theorem d3_7 : decode method_2_code 7 = .ok (.invokevirtual 13, 3) := by decide +kernel
theorem d3_10 : decode method_2_code 10 = .ok (.lstore 6, 2) := by decide +kernel
theorem d3_12 : decode method_2_code 12 = .ok (.aload_n 0, 1) := by decide +kernel
theorem d3_13 : decode method_2_code 13 = .ok (.invokevirtual 17, 3) := by decide +kernel
theorem d3_16 : decode method_2_code 16 = .ok (.istore 8, 2) := by decide +kernel
theorem d3_18 : decode method_2_code 18 = .ok (.iload 5, 2) := by decide +kernel
theorem d3_20 : decode method_2_code 20 = .ok (.lload_n 1, 1) := by decide +kernel
theorem d3_21 : decode method_2_code 21 = .ok (.lload_n 3, 1) := by decide +kernel
theorem d3_22 : decode method_2_code 22 = .ok (.lcmp, 1) := by decide +kernel
theorem d3_23 : decode method_2_code 23 = .ok (.ifCond .gt 7, 3) := by decide +kernel
theorem d3_26 : decode method_2_code 26 = .ok (.iconst 1, 1) := by decide +kernel
theorem d3_27 : decode method_2_code 27 = .ok (.goto 4, 3) := by decide +kernel
theorem d3_30 : decode method_2_code 30 = .ok (.iconst 0, 1) := by decide +kernel
theorem d3_31 : decode method_2_code 31 = .ok (.if_icmp .ne 34, 3) := by decide +kernel
theorem d3_34 : decode method_2_code 34 = .ok (.lload 6, 2) := by decide +kernel
theorem d3_36 : decode method_2_code 36 = .ok (.lload_n 1, 1) := by decide +kernel
theorem d3_37 : decode method_2_code 37 = .ok (.lload_n 3, 1) := by decide +kernel
theorem d3_38 : decode method_2_code 38 = .ok (.invokestatic 20, 3) := by decide +kernel
theorem d3_41 : decode method_2_code 41 = .ok (.lcmp, 1) := by decide +kernel
theorem d3_42 : decode method_2_code 42 = .ok (.ifCond .ne 23, 3) := by decide +kernel
theorem d3_45 : decode method_2_code 45 = .ok (.iload 8, 2) := by decide +kernel
theorem d3_47 : decode method_2_code 47 = .ok (.lload_n 1, 1) := by decide +kernel
theorem d3_48 : decode method_2_code 48 = .ok (.lload_n 3, 1) := by decide +kernel
theorem d3_49 : decode method_2_code 49 = .ok (.lcmp, 1) := by decide +kernel
theorem d3_50 : decode method_2_code 50 = .ok (.ifCond .le 7, 3) := by decide +kernel
theorem d3_53 : decode method_2_code 53 = .ok (.iconst 1, 1) := by decide +kernel
theorem d3_54 : decode method_2_code 54 = .ok (.goto 4, 3) := by decide +kernel
theorem d3_57 : decode method_2_code 57 = .ok (.iconst 0, 1) := by decide +kernel
theorem d3_58 : decode method_2_code 58 = .ok (.if_icmp .ne 7, 3) := by decide +kernel
theorem d3_61 : decode method_2_code 61 = .ok (.iconst 1, 1) := by decide +kernel
theorem d3_62 : decode method_2_code 62 = .ok (.goto 4, 3) := by decide +kernel
theorem d3_65 : decode method_2_code 65 = .ok (.iconst 0, 1) := by decide +kernel
theorem d3_66 : decode method_2_code 66 = .ok (.ireturn, 1) := by decide +kernel
theorem pn_3 : plainName "com/example/pushout_bench/pushoutbench/matcher/EffortSpendPinLaw" = true := by first | (simp [plainName, overriddenIn]; done) | decide +kernel
theorem pd_3_0 : parseMethodDescriptor "()Z" = some ⟨[], some .boolean⟩ := by decide +kernel
theorem pd_3_1 : parseMethodDescriptor "()J" = some ⟨[], some .long⟩ := by decide +kernel
theorem pd_3_2 : parseMethodDescriptor "(JJ)J" = some ⟨[.long, .long], some .long⟩ := by decide +kernel
theorem ef_3 (m : MethodId) (o0 : Addr) (q1 : Int64) (q2 : Int64) : entryFrame m #[(.ref o0), (.long q1), (.long q2)] 9 = mkF m 0 #[.val (.ref o0), .val (.long q1), .second, .val (.long q2), .second, .unset, .unset, .unset, .unset] [] := by first | (simp [entryFrame, mkF, argsToLocals, Value.category]; done) | rfl
def f3_58 (q1 : Int64) (q2 : Int64) (u_limit : Int64) (u_spent : Int64) (u_ranOut : Int32) (j31_0 : Int32) (j58_0 : Int32) : Int32 := (if (f6 (f4b u_limit u_spent u_ranOut)) = j58_0 then (1 : Int32) else (0 : Int32))
def f3_31 (q1 : Int64) (q2 : Int64) (u_limit : Int64) (u_spent : Int64) (u_ranOut : Int32) (j31_0 : Int32) : Int32 := (if (f4 u_limit u_spent u_ranOut) = j31_0 then (if (f5 (f4a u_limit u_spent u_ranOut)) = (f7 q1 q2) then (if q2 < q1 then (f3_58 q1 q2 u_limit u_spent u_ranOut j31_0 (1 : Int32)) else (f3_58 q1 q2 u_limit u_spent u_ranOut j31_0 (0 : Int32))) else (0 : Int32)) else (0 : Int32))
def f3 (q1 : Int64) (q2 : Int64) (u_limit : Int64) (u_spent : Int64) (u_ranOut : Int32) : Int32 := (if q2 < q1 then (f3_31 q1 q2 u_limit u_spent u_ranOut (0 : Int32)) else (f3_31 q1 q2 u_limit u_spent u_ranOut (1 : Int32)))
def Q3 (Z : State) (o0 : Addr) (q1 : Int64) (q2 : Int64) (u_limit : Int64) (u_spent : Int64) (u_ranOut : Int32) (h0 : Heap) (n0 : Nat) (v : Option Value) (h : Heap) (L : List Loc) : Prop := v = some (.int (f3 q1 q2 u_limit u_spent u_ranOut)) ∧ Fr n0 L ∧ Keep h0 h [o0] ∧ Fld Z h o0 "com/example/pushout_bench/pushoutbench/matcher/Effort" "limit" "J" (.long u_limit) ∧ Fld Z h o0 "com/example/pushout_bench/pushoutbench/matcher/Effort" "spent" "J" (.long (f4a u_limit u_spent u_ranOut)) ∧ Fld Z h o0 "com/example/pushout_bench/pushoutbench/matcher/Effort" "ranOut" "Z" (.int (f4b u_limit u_spent u_ranOut))
set_option maxRecDepth 65536 in
set_option maxHeartbeats 40000000 in
theorem rm3 (l : Launch) (Z : State) (a0 : Array Value) (hw : ∀ d ∈ tables_1, d.before a0 Z = true) (ws : List Jvm.Cond) (o0 : Addr) (q1 : Int64) (q2 : Int64) (u_limit : Int64) (u_spent : Int64) (u_ranOut : Int32) (h0 : Heap) (n0 : Nat) (Z0 : n0 ≤ h0.size) (E_o0 : Exa Z h0 o0 "com/example/pushout_bench/pushoutbench/matcher/Effort") (F_limit : Fld Z h0 o0 "com/example/pushout_bench/pushoutbench/matcher/Effort" "limit" "J" (.long u_limit)) (F_spent : Fld Z h0 o0 "com/example/pushout_bench/pushoutbench/matcher/Effort" "spent" "J" (.long u_spent)) (F_ranOut : Fld Z h0 o0 "com/example/pushout_bench/pushoutbench/matcher/Effort" "ranOut" "Z" (.int u_ranOut)) (g_o0 : n0 ≤ o0) :
    MetFree l (⟨"com/example/pushout_bench/pushoutbench/matcher/EffortSpendPinLaw", "step", "(Lcom/example/pushout_bench/pushoutbench/matcher/Effort;JJ)Z"⟩ : MethodName) (head1 (Jvm.Cond.code (⟨"com/example/pushout_bench/pushoutbench/matcher/EffortSpendPinLaw", "step", "(Lcom/example/pushout_bench/pushoutbench/matcher/Effort;JJ)Z"⟩ : MethodName) method_2_code 9 (some .boolean) :: ws) ({ frames := 1, cells := 0, slots := 0, locals := 17 } : Room)) (fun a U => a = #[(.ref o0), (.long q1), (.long q2)] ∧ Z.Warmed39 U.vm ∧ U.heap = h0) (fun _ _ _ _ _ => True) (fun _ U o U' => ∃ v L, o = .returned v ∧ Q3 Z o0 q1 q2 u_limit u_spent u_ranOut h0 n0 v U'.heap L ∧ FrameEnd U o U' L ({ frames := 1, cells := 0, slots := 0, locals := 17 } : Room).cells ({ frames := 1, cells := 0, slots := 0, locals := 17 } : Room).slots) := by
  refine MetFree.of_bodySF (plainFor_of_name pn_3) hisR ?_
  intro p e s m args below meth c s₁ Bd hml0 hP hK
  obtain ⟨rfl, hZ, hh⟩ := hP
  have hx := Bd.exec
  have hby := Bd.bytes
  have hml : c.maxLocals = 9 := hml0
  have hown : s.vm.findClass "com/example/pushout_bench/pushoutbench/matcher/EffortSpendPinLaw" = some m.cls := findClass_of_methodNamed Bd.named
  have hnm := (name_of_methodNamed Bd.named Bd.method).1
  have X0 : Stand p l e ({ frames := 1, cells := 0, slots := 0, locals := 17 } : Room) s m #[(.ref o0), (.long q1), (.long q2)] below meth c s₁ [] 0 0 := Stand.of_body Bd
  have e0 : s₁.heap = h0 := by rw [← hh, Bd.state]; rfl
  have N0 := Fr.nil n0
  show OGo p e below s (Q3 Z o0 q1 q2 u_limit u_spent u_ranOut h0 n0) ({ frames := 1, cells := 0, slots := 0, locals := 17 } : Room).cells ({ frames := 1, cells := 0, slots := 0, locals := 17 } : Room).slots _
  refine OGo.st (fun _ k => castTop (ef_3 m o0 q1 q2) k) ?_
  show OGo p e below s _ _ _ (s₁.setTop (mkF m 0 #[.val (.ref o0), .val (.long q1), .second, .val (.long q2), .second, .unset, .unset, .unset, .unset] []))
  refine OGo.st (fun _ k => XS.aloadN X0.here hx rfl (hb hby d3_0) rfl rfl k) ?_
  show OGo p e below s _ _ _ (s₁.setTop (mkF m 1 #[.val (.ref o0), .val (.long q1), .second, .val (.long q2), .second, .unset, .unset, .unset, .unset] [(.ref o0)]))
  obtain ⟨cq1, kq1, q1a, q1b, q1c⟩ := isOf hZ e0 E_o0
  obtain ⟨_, _, ⟨T1, L1, k1, n1⟩, -, X1, ⟨Lc1, hQ1, l1, y1, z1⟩, st1⟩ := X0.virtualBack hx (y := (⟨"com/example/pushout_bench/pushoutbench/matcher/Effort", "spend", "()Z"⟩ : MethodName)) (z := (⟨"com/example/pushout_bench/pushoutbench/matcher/Effort", "spend", "()Z"⟩ : MethodName)) hown (mvT hZ (hw _ (List.mem_of_getElem? (i := 16) rfl))) (mvT hZ (hw _ (List.mem_of_getElem? (i := 17) rfl))) (notFace_of_selects (args := #[]) (mvT hZ (hw _ (List.mem_of_getElem? (i := 19) rfl)))) (mvT hZ (hw _ (List.mem_of_getElem? (i := 19) rfl))) (mvT hZ (hw _ (List.mem_of_getElem? (i := 18) rfl))) (by decide) (backOf (W := 0) (rm4 l Z a0 hw [] o0 u_limit u_spent u_ranOut h0 n0 Z0 E_o0 F_limit F_spent F_ranOut g_o0) hZ (hw _ (List.mem_of_getElem? (i := 20) rfl)) (hw _ (List.mem_of_getElem? (i := 3) rfl)) (by decide) (by decide)) q1a q1c (g := (mkF m 1 #[.val (.ref o0), .val (.long q1), .second, .val (.long q2), .second, .unset, .unset, .unset, .unset] [(.ref o0)])) rfl (by rw [hml]; rfl) (Steps.refl _) (argsL := []) (rest := []) (lenOf pd_3_0 rfl) rfl (by show 2 * 0 + _ ≤ _; exact Nat.le_of_eq rfl) (hb hby d3_1) (fun _ _ => ⟨rfl, e0, (by decide : 0 + 0 ≤ _), (by decide : 0 + 0 ≤ _)⟩)
  dsimp only [Pt.U, Pt.locs, Pt.cells, Pt.slots] at X1 l1 y1 z1 st1 hQ1
  subst l1 y1 z1
  obtain ⟨rfl, N1q, Kc1, G1_0, G1_1, G1_2⟩ := hQ1
  have E_o0_w1 := E_o0.keep Kc1
  have K1 : Keep h0 T1.heap [o0] := (Keep.refl h0 _).trans Kc1 (allS (Or.inl (List.mem_of_getElem? (i := 0) rfl)) all0)
  have Z1 : n0 ≤ T1.heap.size := Nat.le_trans Z0 Kc1.1
  have N1 := Fr.app N0 N1q
  refine OGo.st (fun _ k => st1.trans k) ?_
  show OGo p e below s _ _ _ (T1.setTop (mkF m 4 #[.val (.ref o0), .val (.long q1), .second, .val (.long q2), .second, .unset, .unset, .unset, .unset] [(.int (f4 u_limit u_spent u_ranOut))]))
  refine OGo.st (fun _ k => XS.istore X1.here hx rfl (hb hby d3_4) rfl (l' := #[.val (.ref o0), .val (.long q1), .second, .val (.long q2), .second, .val (.int (f4 u_limit u_spent u_ranOut)), .unset, .unset, .unset]) rfl k) ?_
  show OGo p e below s _ _ _ (T1.setTop (mkF m 6 #[.val (.ref o0), .val (.long q1), .second, .val (.long q2), .second, .val (.int (f4 u_limit u_spent u_ranOut)), .unset, .unset, .unset] []))
  refine OGo.st (fun _ k => XS.aloadN X1.here hx rfl (hb hby d3_6) rfl rfl k) ?_
  show OGo p e below s _ _ _ (T1.setTop (mkF m 7 #[.val (.ref o0), .val (.long q1), .second, .val (.long q2), .second, .val (.int (f4 u_limit u_spent u_ranOut)), .unset, .unset, .unset] [(.ref o0)]))
  obtain ⟨cq2, kq2, q2a, q2b, q2c⟩ := isOf hZ rfl E_o0_w1
  obtain ⟨_, _, ⟨T2, L2, k2, n2⟩, -, X2, ⟨Lc2, hQ2, l2, y2, z2⟩, st2⟩ := X1.virtualBack hx (y := (⟨"com/example/pushout_bench/pushoutbench/matcher/Effort", "spent", "()J"⟩ : MethodName)) (z := (⟨"com/example/pushout_bench/pushoutbench/matcher/Effort", "spent", "()J"⟩ : MethodName)) hown (mvT hZ (hw _ (List.mem_of_getElem? (i := 23) rfl))) (mvT hZ (hw _ (List.mem_of_getElem? (i := 24) rfl))) (notFace_of_selects (args := #[]) (mvT hZ (hw _ (List.mem_of_getElem? (i := 26) rfl)))) (mvT hZ (hw _ (List.mem_of_getElem? (i := 26) rfl))) (mvT hZ (hw _ (List.mem_of_getElem? (i := 25) rfl))) (by decide) (backOf (W := 0) (rm5 l Z a0 hw [] o0 u_limit (f4a u_limit u_spent u_ranOut) (f4b u_limit u_spent u_ranOut) T1.heap n0 Z1 E_o0_w1 G1_0 G1_1 G1_2) hZ (hw _ (List.mem_of_getElem? (i := 27) rfl)) (hw _ (List.mem_of_getElem? (i := 3) rfl)) (by decide) (by decide)) q2a q2c (g := (mkF m 7 #[.val (.ref o0), .val (.long q1), .second, .val (.long q2), .second, .val (.int (f4 u_limit u_spent u_ranOut)), .unset, .unset, .unset] [(.ref o0)])) rfl (by rw [hml]; rfl) (Steps.refl _) (argsL := []) (rest := []) (lenOf pd_3_1 rfl) rfl (by show 2 * 0 + _ ≤ _; exact Nat.le_of_eq rfl) (hb hby d3_7) (fun _ _ => ⟨rfl, rfl, (by decide : 0 + 0 ≤ _), (by decide : 0 + 0 ≤ _)⟩)
  dsimp only [Pt.U, Pt.locs, Pt.cells, Pt.slots] at X2 l2 y2 z2 st2 hQ2
  subst l2 y2 z2
  obtain ⟨rfl, N2q, e2⟩ := hQ2
  have N2 := Fr.app N1 N2q
  refine OGo.st (fun _ k => st2.trans k) ?_
  show OGo p e below s _ _ _ (T2.setTop (mkF m 10 #[.val (.ref o0), .val (.long q1), .second, .val (.long q2), .second, .val (.int (f4 u_limit u_spent u_ranOut)), .unset, .unset, .unset] [(.long (f5 (f4a u_limit u_spent u_ranOut)))]))
  refine OGo.st (fun _ k => XS.lstore X2.here hx rfl (hb hby d3_10) rfl (l' := #[.val (.ref o0), .val (.long q1), .second, .val (.long q2), .second, .val (.int (f4 u_limit u_spent u_ranOut)), .val (.long (f5 (f4a u_limit u_spent u_ranOut))), .second, .unset]) rfl k) ?_
  show OGo p e below s _ _ _ (T2.setTop (mkF m 12 #[.val (.ref o0), .val (.long q1), .second, .val (.long q2), .second, .val (.int (f4 u_limit u_spent u_ranOut)), .val (.long (f5 (f4a u_limit u_spent u_ranOut))), .second, .unset] []))
  refine OGo.st (fun _ k => XS.aloadN X2.here hx rfl (hb hby d3_12) rfl rfl k) ?_
  show OGo p e below s _ _ _ (T2.setTop (mkF m 13 #[.val (.ref o0), .val (.long q1), .second, .val (.long q2), .second, .val (.int (f4 u_limit u_spent u_ranOut)), .val (.long (f5 (f4a u_limit u_spent u_ranOut))), .second, .unset] [(.ref o0)]))
  obtain ⟨cq3, kq3, q3a, q3b, q3c⟩ := isOf hZ e2 E_o0_w1
  obtain ⟨_, _, ⟨T3, L3, k3, n3⟩, -, X3, ⟨Lc3, hQ3, l3, y3, z3⟩, st3⟩ := X2.virtualBack hx (y := (⟨"com/example/pushout_bench/pushoutbench/matcher/Effort", "ranOut", "()Z"⟩ : MethodName)) (z := (⟨"com/example/pushout_bench/pushoutbench/matcher/Effort", "ranOut", "()Z"⟩ : MethodName)) hown (mvT hZ (hw _ (List.mem_of_getElem? (i := 28) rfl))) (mvT hZ (hw _ (List.mem_of_getElem? (i := 29) rfl))) (notFace_of_selects (args := #[]) (mvT hZ (hw _ (List.mem_of_getElem? (i := 31) rfl)))) (mvT hZ (hw _ (List.mem_of_getElem? (i := 31) rfl))) (mvT hZ (hw _ (List.mem_of_getElem? (i := 30) rfl))) (by decide) (backOf (W := 0) (rm6 l Z a0 hw [] o0 u_limit (f4a u_limit u_spent u_ranOut) (f4b u_limit u_spent u_ranOut) T1.heap n0 Z1 E_o0_w1 G1_0 G1_1 G1_2) hZ (hw _ (List.mem_of_getElem? (i := 32) rfl)) (hw _ (List.mem_of_getElem? (i := 3) rfl)) (by decide) (by decide)) q3a q3c (g := (mkF m 13 #[.val (.ref o0), .val (.long q1), .second, .val (.long q2), .second, .val (.int (f4 u_limit u_spent u_ranOut)), .val (.long (f5 (f4a u_limit u_spent u_ranOut))), .second, .unset] [(.ref o0)])) rfl (by rw [hml]; rfl) (Steps.refl _) (argsL := []) (rest := []) (lenOf pd_3_0 rfl) rfl (by show 2 * 0 + _ ≤ _; exact Nat.le_of_eq rfl) (hb hby d3_13) (fun _ _ => ⟨rfl, e2, (by decide : 0 + 0 ≤ _), (by decide : 0 + 0 ≤ _)⟩)
  dsimp only [Pt.U, Pt.locs, Pt.cells, Pt.slots] at X3 l3 y3 z3 st3 hQ3
  subst l3 y3 z3
  obtain ⟨rfl, N3q, e3⟩ := hQ3
  have N3 := Fr.app N2 N3q
  refine OGo.st (fun _ k => st3.trans k) ?_
  show OGo p e below s _ _ _ (T3.setTop (mkF m 16 #[.val (.ref o0), .val (.long q1), .second, .val (.long q2), .second, .val (.int (f4 u_limit u_spent u_ranOut)), .val (.long (f5 (f4a u_limit u_spent u_ranOut))), .second, .unset] [(.int (f6 (f4b u_limit u_spent u_ranOut)))]))
  refine OGo.st (fun _ k => XS.istore X3.here hx rfl (hb hby d3_16) rfl (l' := #[.val (.ref o0), .val (.long q1), .second, .val (.long q2), .second, .val (.int (f4 u_limit u_spent u_ranOut)), .val (.long (f5 (f4a u_limit u_spent u_ranOut))), .second, .val (.int (f6 (f4b u_limit u_spent u_ranOut)))]) rfl k) ?_
  show OGo p e below s _ _ _ (T3.setTop (mkF m 18 #[.val (.ref o0), .val (.long q1), .second, .val (.long q2), .second, .val (.int (f4 u_limit u_spent u_ranOut)), .val (.long (f5 (f4a u_limit u_spent u_ranOut))), .second, .val (.int (f6 (f4b u_limit u_spent u_ranOut)))] []))
  refine OGo.st (fun _ k => XS.iload X3.here hx rfl (hb hby d3_18) rfl k) ?_
  show OGo p e below s _ _ _ (T3.setTop (mkF m 20 #[.val (.ref o0), .val (.long q1), .second, .val (.long q2), .second, .val (.int (f4 u_limit u_spent u_ranOut)), .val (.long (f5 (f4a u_limit u_spent u_ranOut))), .second, .val (.int (f6 (f4b u_limit u_spent u_ranOut)))] [(.int (f4 u_limit u_spent u_ranOut))]))
  refine OGo.st (fun _ k => XS.lloadN X3.here hx rfl (hb hby d3_20) rfl k) ?_
  show OGo p e below s _ _ _ (T3.setTop (mkF m 21 #[.val (.ref o0), .val (.long q1), .second, .val (.long q2), .second, .val (.int (f4 u_limit u_spent u_ranOut)), .val (.long (f5 (f4a u_limit u_spent u_ranOut))), .second, .val (.int (f6 (f4b u_limit u_spent u_ranOut)))] [(.long q1), (.int (f4 u_limit u_spent u_ranOut))]))
  refine OGo.st (fun _ k => XS.lloadN X3.here hx rfl (hb hby d3_21) rfl k) ?_
  show OGo p e below s _ _ _ (T3.setTop (mkF m 22 #[.val (.ref o0), .val (.long q1), .second, .val (.long q2), .second, .val (.int (f4 u_limit u_spent u_ranOut)), .val (.long (f5 (f4a u_limit u_spent u_ranOut))), .second, .val (.int (f6 (f4b u_limit u_spent u_ranOut)))] [(.long q2), (.long q1), (.int (f4 u_limit u_spent u_ranOut))]))
  refine OGo.st (fun _ k => XS.lcmp X3.here hx rfl (hb hby d3_22) rfl k) ?_
  show OGo p e below s _ _ _ (T3.setTop (mkF m 23 #[.val (.ref o0), .val (.long q1), .second, .val (.long q2), .second, .val (.int (f4 u_limit u_spent u_ranOut)), .val (.long (f5 (f4a u_limit u_spent u_ranOut))), .second, .val (.int (f6 (f4b u_limit u_spent u_ranOut)))] [(.int (lcmpW q1 q2)), (.int (f4 u_limit u_spent u_ranOut))]))
  have hj31 : ∀ (j31_0 : Int32) (hf31_0 : f3 q1 q2 u_limit u_spent u_ranOut = f3_31 q1 q2 u_limit u_spent u_ranOut j31_0), OGo p e below s (Q3 Z o0 q1 q2 u_limit u_spent u_ranOut h0 n0) ({ frames := 1, cells := 0, slots := 0, locals := 17 } : Room).cells ({ frames := 1, cells := 0, slots := 0, locals := 17 } : Room).slots (T3.setTop (mkF m 31 #[.val (.ref o0), .val (.long q1), .second, .val (.long q2), .second, .val (.int (f4 u_limit u_spent u_ranOut)), .val (.long (f5 (f4a u_limit u_spent u_ranOut))), .second, .val (.int (f6 (f4b u_limit u_spent u_ranOut)))] [(.int j31_0), (.int (f4 u_limit u_spent u_ranOut))])) := by
    intro j31_0 hf31_0
    by_cases hc31 : (f4 u_limit u_spent u_ranOut) = j31_0
    · refine OGo.st (fun _ k => XS.icmpNo X3.here hx rfl (hb hby d3_31) rfl (teq hc31).2 k) ?_
      show OGo p e below s _ _ _ (T3.setTop (mkF m 34 #[.val (.ref o0), .val (.long q1), .second, .val (.long q2), .second, .val (.int (f4 u_limit u_spent u_ranOut)), .val (.long (f5 (f4a u_limit u_spent u_ranOut))), .second, .val (.int (f6 (f4b u_limit u_spent u_ranOut)))] []))
      refine OGo.st (fun _ k => XS.lload X3.here hx rfl (hb hby d3_34) rfl k) ?_
      show OGo p e below s _ _ _ (T3.setTop (mkF m 36 #[.val (.ref o0), .val (.long q1), .second, .val (.long q2), .second, .val (.int (f4 u_limit u_spent u_ranOut)), .val (.long (f5 (f4a u_limit u_spent u_ranOut))), .second, .val (.int (f6 (f4b u_limit u_spent u_ranOut)))] [(.long (f5 (f4a u_limit u_spent u_ranOut)))]))
      refine OGo.st (fun _ k => XS.lloadN X3.here hx rfl (hb hby d3_36) rfl k) ?_
      show OGo p e below s _ _ _ (T3.setTop (mkF m 37 #[.val (.ref o0), .val (.long q1), .second, .val (.long q2), .second, .val (.int (f4 u_limit u_spent u_ranOut)), .val (.long (f5 (f4a u_limit u_spent u_ranOut))), .second, .val (.int (f6 (f4b u_limit u_spent u_ranOut)))] [(.long q1), (.long (f5 (f4a u_limit u_spent u_ranOut)))]))
      refine OGo.st (fun _ k => XS.lloadN X3.here hx rfl (hb hby d3_37) rfl k) ?_
      show OGo p e below s _ _ _ (T3.setTop (mkF m 38 #[.val (.ref o0), .val (.long q1), .second, .val (.long q2), .second, .val (.int (f4 u_limit u_spent u_ranOut)), .val (.long (f5 (f4a u_limit u_spent u_ranOut))), .second, .val (.int (f6 (f4b u_limit u_spent u_ranOut)))] [(.long q2), (.long q1), (.long (f5 (f4a u_limit u_spent u_ranOut)))]))
      obtain ⟨_, _, ⟨T5, L5, k5, n5⟩, -, X5, ⟨Lc5, hQ5, l5, y5, z5⟩, st5⟩ := Jvm.LawKit.callS X3 hx (y := (⟨"java/lang/Math", "min", "(JJ)J"⟩ : MethodName)) hown (mvT hZ (hw _ (List.mem_of_getElem? (i := 35) rfl))) (mvT hZ (hw _ (List.mem_of_getElem? (i := 36) rfl))) (mvT hZ (hw _ (List.mem_of_getElem? (i := 37) rfl))) (mvT hZ (hw _ (List.mem_of_getElem? (i := 38) rfl))) (by decide) (backOf (W := 2) (rm7 l Z a0 hw [] q1 q2 T1.heap n0 Z1) hZ (hw _ (List.mem_of_getElem? (i := 38) rfl)) (hw _ (List.mem_of_getElem? (i := 37) rfl)) (by decide) (by decide)) (g := (mkF m 38 #[.val (.ref o0), .val (.long q1), .second, .val (.long q2), .second, .val (.int (f4 u_limit u_spent u_ranOut)), .val (.long (f5 (f4a u_limit u_spent u_ranOut))), .second, .val (.int (f6 (f4b u_limit u_spent u_ranOut)))] [(.long q2), (.long q1), (.long (f5 (f4a u_limit u_spent u_ranOut)))])) rfl (by rw [hml]; rfl) (argsL := [(.long q1), (.long q2)]) (rest := [(.long (f5 (f4a u_limit u_spent u_ranOut)))]) (lenOf pd_3_2 rfl) rfl (by show 2 * 0 + _ ≤ _; exact Nat.le_of_eq rfl) (hb hby d3_38) (fun _ _ => ⟨rfl, e3, (by decide : 0 + 0 ≤ _), (by decide : 0 + 0 ≤ _)⟩)
      dsimp only [Pt.U, Pt.locs, Pt.cells, Pt.slots] at X5 l5 y5 z5 st5 hQ5
      subst l5 y5 z5
      obtain ⟨rfl, N5q, e5⟩ := hQ5
      have N5 := Fr.app N3 N5q
      refine OGo.st st5 ?_
      show OGo p e below s _ _ _ (T5.setTop (mkF m 41 #[.val (.ref o0), .val (.long q1), .second, .val (.long q2), .second, .val (.int (f4 u_limit u_spent u_ranOut)), .val (.long (f5 (f4a u_limit u_spent u_ranOut))), .second, .val (.int (f6 (f4b u_limit u_spent u_ranOut)))] [(.long (f7 q1 q2)), (.long (f5 (f4a u_limit u_spent u_ranOut)))]))
      refine OGo.st (fun _ k => XS.lcmp X5.here hx rfl (hb hby d3_41) rfl k) ?_
      show OGo p e below s _ _ _ (T5.setTop (mkF m 42 #[.val (.ref o0), .val (.long q1), .second, .val (.long q2), .second, .val (.int (f4 u_limit u_spent u_ranOut)), .val (.long (f5 (f4a u_limit u_spent u_ranOut))), .second, .val (.int (f6 (f4b u_limit u_spent u_ranOut)))] [(.int (lcmpW (f5 (f4a u_limit u_spent u_ranOut)) (f7 q1 q2)))]))
      by_cases hc42 : (f5 (f4a u_limit u_spent u_ranOut)) = (f7 q1 q2)
      · refine OGo.st (fun _ k => XS.ifNo X5.here hx rfl (hb hby d3_42) rfl ((if0 _ _).trans (teq ((olc_eq _ _).mpr hc42)).2) k) ?_
        show OGo p e below s _ _ _ (T5.setTop (mkF m 45 #[.val (.ref o0), .val (.long q1), .second, .val (.long q2), .second, .val (.int (f4 u_limit u_spent u_ranOut)), .val (.long (f5 (f4a u_limit u_spent u_ranOut))), .second, .val (.int (f6 (f4b u_limit u_spent u_ranOut)))] []))
        refine OGo.st (fun _ k => XS.iload X5.here hx rfl (hb hby d3_45) rfl k) ?_
        show OGo p e below s _ _ _ (T5.setTop (mkF m 47 #[.val (.ref o0), .val (.long q1), .second, .val (.long q2), .second, .val (.int (f4 u_limit u_spent u_ranOut)), .val (.long (f5 (f4a u_limit u_spent u_ranOut))), .second, .val (.int (f6 (f4b u_limit u_spent u_ranOut)))] [(.int (f6 (f4b u_limit u_spent u_ranOut)))]))
        refine OGo.st (fun _ k => XS.lloadN X5.here hx rfl (hb hby d3_47) rfl k) ?_
        show OGo p e below s _ _ _ (T5.setTop (mkF m 48 #[.val (.ref o0), .val (.long q1), .second, .val (.long q2), .second, .val (.int (f4 u_limit u_spent u_ranOut)), .val (.long (f5 (f4a u_limit u_spent u_ranOut))), .second, .val (.int (f6 (f4b u_limit u_spent u_ranOut)))] [(.long q1), (.int (f6 (f4b u_limit u_spent u_ranOut)))]))
        refine OGo.st (fun _ k => XS.lloadN X5.here hx rfl (hb hby d3_48) rfl k) ?_
        show OGo p e below s _ _ _ (T5.setTop (mkF m 49 #[.val (.ref o0), .val (.long q1), .second, .val (.long q2), .second, .val (.int (f4 u_limit u_spent u_ranOut)), .val (.long (f5 (f4a u_limit u_spent u_ranOut))), .second, .val (.int (f6 (f4b u_limit u_spent u_ranOut)))] [(.long q2), (.long q1), (.int (f6 (f4b u_limit u_spent u_ranOut)))]))
        refine OGo.st (fun _ k => XS.lcmp X5.here hx rfl (hb hby d3_49) rfl k) ?_
        show OGo p e below s _ _ _ (T5.setTop (mkF m 50 #[.val (.ref o0), .val (.long q1), .second, .val (.long q2), .second, .val (.int (f4 u_limit u_spent u_ranOut)), .val (.long (f5 (f4a u_limit u_spent u_ranOut))), .second, .val (.int (f6 (f4b u_limit u_spent u_ranOut)))] [(.int (lcmpW q1 q2)), (.int (f6 (f4b u_limit u_spent u_ranOut)))]))
        have hj58 : ∀ (j58_0 : Int32) (hf58_0 : f3 q1 q2 u_limit u_spent u_ranOut = f3_58 q1 q2 u_limit u_spent u_ranOut j31_0 j58_0), OGo p e below s (Q3 Z o0 q1 q2 u_limit u_spent u_ranOut h0 n0) ({ frames := 1, cells := 0, slots := 0, locals := 17 } : Room).cells ({ frames := 1, cells := 0, slots := 0, locals := 17 } : Room).slots (T5.setTop (mkF m 58 #[.val (.ref o0), .val (.long q1), .second, .val (.long q2), .second, .val (.int (f4 u_limit u_spent u_ranOut)), .val (.long (f5 (f4a u_limit u_spent u_ranOut))), .second, .val (.int (f6 (f4b u_limit u_spent u_ranOut)))] [(.int j58_0), (.int (f6 (f4b u_limit u_spent u_ranOut)))])) := by
          intro j58_0 hf58_0
          by_cases hc58 : (f6 (f4b u_limit u_spent u_ranOut)) = j58_0
          · refine OGo.st (fun _ k => XS.icmpNo X5.here hx rfl (hb hby d3_58) rfl (teq hc58).2 k) ?_
            show OGo p e below s _ _ _ (T5.setTop (mkF m 61 #[.val (.ref o0), .val (.long q1), .second, .val (.long q2), .second, .val (.int (f4 u_limit u_spent u_ranOut)), .val (.long (f5 (f4a u_limit u_spent u_ranOut))), .second, .val (.int (f6 (f4b u_limit u_spent u_ranOut)))] []))
            refine OGo.st (fun _ k => XS.iconst X5.here hx rfl (hb hby d3_61) k) ?_
            show OGo p e below s _ _ _ (T5.setTop (mkF m 62 #[.val (.ref o0), .val (.long q1), .second, .val (.long q2), .second, .val (.int (f4 u_limit u_spent u_ranOut)), .val (.long (f5 (f4a u_limit u_spent u_ranOut))), .second, .val (.int (f6 (f4b u_limit u_spent u_ranOut)))] [(.int (1 : Int32))]))
            refine OGo.st (fun _ k => XS.goto X5.here hx rfl (pc0 := 62) (pc' := 66) rfl (hb hby d3_62) (by decide) (by decide) k) ?_
            show OGo p e below s _ _ _ (T5.setTop (mkF m 66 #[.val (.ref o0), .val (.long q1), .second, .val (.long q2), .second, .val (.int (f4 u_limit u_spent u_ranOut)), .val (.long (f5 (f4a u_limit u_spent u_ranOut))), .second, .val (.int (f6 (f4b u_limit u_spent u_ranOut)))] [(.int (1 : Int32))]))
            exact oretN X5 hx Bd.notSynchronized (t := .boolean) Bd.returns (by simp) (hb hby d3_66) (z' := (1 : Int32)) (by decide) e5 ⟨(congrArg (fun z => some (Value.int z)) (show (1 : Int32) = f3 q1 q2 u_limit u_spent u_ranOut from Eq.symm (hf58_0.trans (by unfold f3_58; exact if_pos hc58)))), N5, K1, G1_0, G1_1, G1_2⟩ (by decide) (by decide)
          · refine OGo.st (fun _ k => XS.icmpYes X5.here hx rfl (pc0 := 58) (pc' := 65) rfl (hb hby d3_58) rfl (feq hc58).2 (by decide) (by decide) k) ?_
            show OGo p e below s _ _ _ (T5.setTop (mkF m 65 #[.val (.ref o0), .val (.long q1), .second, .val (.long q2), .second, .val (.int (f4 u_limit u_spent u_ranOut)), .val (.long (f5 (f4a u_limit u_spent u_ranOut))), .second, .val (.int (f6 (f4b u_limit u_spent u_ranOut)))] []))
            refine OGo.st (fun _ k => XS.iconst X5.here hx rfl (hb hby d3_65) k) ?_
            show OGo p e below s _ _ _ (T5.setTop (mkF m 66 #[.val (.ref o0), .val (.long q1), .second, .val (.long q2), .second, .val (.int (f4 u_limit u_spent u_ranOut)), .val (.long (f5 (f4a u_limit u_spent u_ranOut))), .second, .val (.int (f6 (f4b u_limit u_spent u_ranOut)))] [(.int (0 : Int32))]))
            exact oretN X5 hx Bd.notSynchronized (t := .boolean) Bd.returns (by simp) (hb hby d3_66) (z' := (0 : Int32)) (by decide) e5 ⟨(congrArg (fun z => some (Value.int z)) (show (0 : Int32) = f3 q1 q2 u_limit u_spent u_ranOut from Eq.symm (hf58_0.trans (by unfold f3_58; exact if_neg hc58)))), N5, K1, G1_0, G1_1, G1_2⟩ (by decide) (by decide)
        by_cases hc50 : q2 < q1
        · refine OGo.st (fun _ k => XS.ifNo X5.here hx rfl (hb hby d3_50) rfl ((if0 _ _).trans (tlt ((olc_gt _ _).mpr hc50)).2.2.2) k) ?_
          show OGo p e below s _ _ _ (T5.setTop (mkF m 53 #[.val (.ref o0), .val (.long q1), .second, .val (.long q2), .second, .val (.int (f4 u_limit u_spent u_ranOut)), .val (.long (f5 (f4a u_limit u_spent u_ranOut))), .second, .val (.int (f6 (f4b u_limit u_spent u_ranOut)))] [(.int (f6 (f4b u_limit u_spent u_ranOut)))]))
          refine OGo.st (fun _ k => XS.iconst X5.here hx rfl (hb hby d3_53) k) ?_
          show OGo p e below s _ _ _ (T5.setTop (mkF m 54 #[.val (.ref o0), .val (.long q1), .second, .val (.long q2), .second, .val (.int (f4 u_limit u_spent u_ranOut)), .val (.long (f5 (f4a u_limit u_spent u_ranOut))), .second, .val (.int (f6 (f4b u_limit u_spent u_ranOut)))] [(.int (1 : Int32)), (.int (f6 (f4b u_limit u_spent u_ranOut)))]))
          refine OGo.st (fun _ k => XS.goto X5.here hx rfl (pc0 := 54) (pc' := 58) rfl (hb hby d3_54) (by decide) (by decide) k) ?_
          show OGo p e below s _ _ _ (T5.setTop (mkF m 58 #[.val (.ref o0), .val (.long q1), .second, .val (.long q2), .second, .val (.int (f4 u_limit u_spent u_ranOut)), .val (.long (f5 (f4a u_limit u_spent u_ranOut))), .second, .val (.int (f6 (f4b u_limit u_spent u_ranOut)))] [(.int (1 : Int32)), (.int (f6 (f4b u_limit u_spent u_ranOut)))]))
          exact hj58 (1 : Int32) (hf31_0.trans (by unfold f3_31; exact (if_pos hc31).trans ((if_pos hc42).trans (if_pos hc50))))
        · refine OGo.st (fun _ k => XS.ifYes X5.here hx rfl (pc0 := 50) (pc' := 57) rfl (hb hby d3_50) rfl ((if0 _ _).trans (flt (fun z => hc50 ((olc_gt _ _).mp z))).2.2.2) (by decide) (by decide) k) ?_
          show OGo p e below s _ _ _ (T5.setTop (mkF m 57 #[.val (.ref o0), .val (.long q1), .second, .val (.long q2), .second, .val (.int (f4 u_limit u_spent u_ranOut)), .val (.long (f5 (f4a u_limit u_spent u_ranOut))), .second, .val (.int (f6 (f4b u_limit u_spent u_ranOut)))] [(.int (f6 (f4b u_limit u_spent u_ranOut)))]))
          refine OGo.st (fun _ k => XS.iconst X5.here hx rfl (hb hby d3_57) k) ?_
          show OGo p e below s _ _ _ (T5.setTop (mkF m 58 #[.val (.ref o0), .val (.long q1), .second, .val (.long q2), .second, .val (.int (f4 u_limit u_spent u_ranOut)), .val (.long (f5 (f4a u_limit u_spent u_ranOut))), .second, .val (.int (f6 (f4b u_limit u_spent u_ranOut)))] [(.int (0 : Int32)), (.int (f6 (f4b u_limit u_spent u_ranOut)))]))
          exact hj58 (0 : Int32) (hf31_0.trans (by unfold f3_31; exact (if_pos hc31).trans ((if_pos hc42).trans (if_neg hc50))))
      · refine OGo.st (fun _ k => XS.ifYes X5.here hx rfl (pc0 := 42) (pc' := 65) rfl (hb hby d3_42) rfl ((if0 _ _).trans (feq (fun z => hc42 ((olc_eq _ _).mp z))).2) (by decide) (by decide) k) ?_
        show OGo p e below s _ _ _ (T5.setTop (mkF m 65 #[.val (.ref o0), .val (.long q1), .second, .val (.long q2), .second, .val (.int (f4 u_limit u_spent u_ranOut)), .val (.long (f5 (f4a u_limit u_spent u_ranOut))), .second, .val (.int (f6 (f4b u_limit u_spent u_ranOut)))] []))
        refine OGo.st (fun _ k => XS.iconst X5.here hx rfl (hb hby d3_65) k) ?_
        show OGo p e below s _ _ _ (T5.setTop (mkF m 66 #[.val (.ref o0), .val (.long q1), .second, .val (.long q2), .second, .val (.int (f4 u_limit u_spent u_ranOut)), .val (.long (f5 (f4a u_limit u_spent u_ranOut))), .second, .val (.int (f6 (f4b u_limit u_spent u_ranOut)))] [(.int (0 : Int32))]))
        exact oretN X5 hx Bd.notSynchronized (t := .boolean) Bd.returns (by simp) (hb hby d3_66) (z' := (0 : Int32)) (by decide) e5 ⟨(congrArg (fun z => some (Value.int z)) (show (0 : Int32) = f3 q1 q2 u_limit u_spent u_ranOut from Eq.symm (hf31_0.trans (by unfold f3_31; exact (if_pos hc31).trans (if_neg hc42))))), N5, K1, G1_0, G1_1, G1_2⟩ (by decide) (by decide)
    · refine OGo.st (fun _ k => XS.icmpYes X3.here hx rfl (pc0 := 31) (pc' := 65) rfl (hb hby d3_31) rfl (feq hc31).2 (by decide) (by decide) k) ?_
      show OGo p e below s _ _ _ (T3.setTop (mkF m 65 #[.val (.ref o0), .val (.long q1), .second, .val (.long q2), .second, .val (.int (f4 u_limit u_spent u_ranOut)), .val (.long (f5 (f4a u_limit u_spent u_ranOut))), .second, .val (.int (f6 (f4b u_limit u_spent u_ranOut)))] []))
      refine OGo.st (fun _ k => XS.iconst X3.here hx rfl (hb hby d3_65) k) ?_
      show OGo p e below s _ _ _ (T3.setTop (mkF m 66 #[.val (.ref o0), .val (.long q1), .second, .val (.long q2), .second, .val (.int (f4 u_limit u_spent u_ranOut)), .val (.long (f5 (f4a u_limit u_spent u_ranOut))), .second, .val (.int (f6 (f4b u_limit u_spent u_ranOut)))] [(.int (0 : Int32))]))
      exact oretN X3 hx Bd.notSynchronized (t := .boolean) Bd.returns (by simp) (hb hby d3_66) (z' := (0 : Int32)) (by decide) e3 ⟨(congrArg (fun z => some (Value.int z)) (show (0 : Int32) = f3 q1 q2 u_limit u_spent u_ranOut from Eq.symm (hf31_0.trans (by unfold f3_31; exact if_neg hc31)))), N3, K1, G1_0, G1_1, G1_2⟩ (by decide) (by decide)
  by_cases hc23 : q2 < q1
  · refine OGo.st (fun _ k => XS.ifYes X3.here hx rfl (pc0 := 23) (pc' := 30) rfl (hb hby d3_23) rfl ((if0 _ _).trans (tlt ((olc_gt _ _).mpr hc23)).2.2.1) (by decide) (by decide) k) ?_
    show OGo p e below s _ _ _ (T3.setTop (mkF m 30 #[.val (.ref o0), .val (.long q1), .second, .val (.long q2), .second, .val (.int (f4 u_limit u_spent u_ranOut)), .val (.long (f5 (f4a u_limit u_spent u_ranOut))), .second, .val (.int (f6 (f4b u_limit u_spent u_ranOut)))] [(.int (f4 u_limit u_spent u_ranOut))]))
    refine OGo.st (fun _ k => XS.iconst X3.here hx rfl (hb hby d3_30) k) ?_
    show OGo p e below s _ _ _ (T3.setTop (mkF m 31 #[.val (.ref o0), .val (.long q1), .second, .val (.long q2), .second, .val (.int (f4 u_limit u_spent u_ranOut)), .val (.long (f5 (f4a u_limit u_spent u_ranOut))), .second, .val (.int (f6 (f4b u_limit u_spent u_ranOut)))] [(.int (0 : Int32)), (.int (f4 u_limit u_spent u_ranOut))]))
    exact hj31 (0 : Int32) (by unfold f3; exact if_pos hc23)
  · refine OGo.st (fun _ k => XS.ifNo X3.here hx rfl (hb hby d3_23) rfl ((if0 _ _).trans (flt (fun z => hc23 ((olc_gt _ _).mp z))).2.2.1) k) ?_
    show OGo p e below s _ _ _ (T3.setTop (mkF m 26 #[.val (.ref o0), .val (.long q1), .second, .val (.long q2), .second, .val (.int (f4 u_limit u_spent u_ranOut)), .val (.long (f5 (f4a u_limit u_spent u_ranOut))), .second, .val (.int (f6 (f4b u_limit u_spent u_ranOut)))] [(.int (f4 u_limit u_spent u_ranOut))]))
    refine OGo.st (fun _ k => XS.iconst X3.here hx rfl (hb hby d3_26) k) ?_
    show OGo p e below s _ _ _ (T3.setTop (mkF m 27 #[.val (.ref o0), .val (.long q1), .second, .val (.long q2), .second, .val (.int (f4 u_limit u_spent u_ranOut)), .val (.long (f5 (f4a u_limit u_spent u_ranOut))), .second, .val (.int (f6 (f4b u_limit u_spent u_ranOut)))] [(.int (1 : Int32)), (.int (f4 u_limit u_spent u_ranOut))]))
    refine OGo.st (fun _ k => XS.goto X3.here hx rfl (pc0 := 27) (pc' := 31) rfl (hb hby d3_27) (by decide) (by decide) k) ?_
    show OGo p e below s _ _ _ (T3.setTop (mkF m 31 #[.val (.ref o0), .val (.long q1), .second, .val (.long q2), .second, .val (.int (f4 u_limit u_spent u_ranOut)), .val (.long (f5 (f4a u_limit u_spent u_ranOut))), .second, .val (.int (f6 (f4b u_limit u_spent u_ranOut)))] [(.int (1 : Int32)), (.int (f4 u_limit u_spent u_ranOut))]))
    exact hj31 (1 : Int32) (by unfold f3; exact if_neg hc23)
theorem own_nn3 (x : Int64) : ¬ ((x &&& (3 : Int64)) < (0 : Int64)) := by
  have e := Jvm.Kit.i64_mask x 3 (k := 2) (by decide) (by decide)
  rw [Int64.lt_iff_toInt_lt, e, Int64.toInt_zero]; omega
theorem own_nnM (x : Int64) : ¬ ((x &&& (9223372036854775807 : Int64)) < (0 : Int64)) := by
  have e := Jvm.Kit.i64_mask x 9223372036854775807 (k := 63) (by decide) (by decide)
  rw [Int64.lt_iff_toInt_lt, e, Int64.toInt_zero]; omega
theorem pn_0 : plainName "com/example/pushout_bench/pushoutbench/matcher/EffortSpendPinLaw" = true := by first | (simp [plainName, overriddenIn]; done) | decide +kernel
theorem pd_0_0 : parseMethodDescriptor "(J)V" = some ⟨[.long], none⟩ := by decide +kernel
theorem pd_0_1 : parseMethodDescriptor "(Lcom/example/pushout_bench/pushoutbench/matcher/Effort;JJ)Z" = some ⟨[(.object "com/example/pushout_bench/pushoutbench/matcher/Effort"), .long, .long], some .boolean⟩ := by decide +kernel
theorem ef_0 (m : MethodId) (q0 : Int64) (p1 : Int32) : entryFrame m #[(.long q0), (.int p1)] maxLocals = mkF m 0 #[.val (.long q0), .second, .val (.int p1), .unset, .unset, .unset, .unset, .unset, .unset] [] := by first | (simp [entryFrame, mkF, argsToLocals, Value.category, maxLocals]; done) | rfl
def v0_0 (q0 : Int64) (p1 : Int32) : Int32 := (f3 (1 : Int64) (q0 &&& (9223372036854775807 : Int64)) (q0 &&& (9223372036854775807 : Int64)) (0 : Int64) (0 : Int32))
def v0_1 (q0 : Int64) (p1 : Int32) : Int32 := (f3 (2 : Int64) (q0 &&& (9223372036854775807 : Int64)) (q0 &&& (9223372036854775807 : Int64)) (f4a (q0 &&& (9223372036854775807 : Int64)) (0 : Int64) (0 : Int32)) (f4b (q0 &&& (9223372036854775807 : Int64)) (0 : Int64) (0 : Int32)))
def v0_2 (q0 : Int64) (p1 : Int32) : Int32 := (f3 (3 : Int64) (q0 &&& (9223372036854775807 : Int64)) (q0 &&& (9223372036854775807 : Int64)) (f4a (q0 &&& (9223372036854775807 : Int64)) (f4a (q0 &&& (9223372036854775807 : Int64)) (0 : Int64) (0 : Int32)) (f4b (q0 &&& (9223372036854775807 : Int64)) (0 : Int64) (0 : Int32))) (f4b (q0 &&& (9223372036854775807 : Int64)) (f4a (q0 &&& (9223372036854775807 : Int64)) (0 : Int64) (0 : Int32)) (f4b (q0 &&& (9223372036854775807 : Int64)) (0 : Int64) (0 : Int32))))
def v0_3 (q0 : Int64) (p1 : Int32) : Int32 := (f3 (1 : Int64) (q0 &&& (3 : Int64)) (q0 &&& (3 : Int64)) (0 : Int64) (0 : Int32))
def v0_4 (q0 : Int64) (p1 : Int32) : Int32 := (f3 (2 : Int64) (q0 &&& (3 : Int64)) (q0 &&& (3 : Int64)) (f4a (q0 &&& (3 : Int64)) (0 : Int64) (0 : Int32)) (f4b (q0 &&& (3 : Int64)) (0 : Int64) (0 : Int32)))
def v0_5 (q0 : Int64) (p1 : Int32) : Int32 := (f3 (3 : Int64) (q0 &&& (3 : Int64)) (q0 &&& (3 : Int64)) (f4a (q0 &&& (3 : Int64)) (f4a (q0 &&& (3 : Int64)) (0 : Int64) (0 : Int32)) (f4b (q0 &&& (3 : Int64)) (0 : Int64) (0 : Int32))) (f4b (q0 &&& (3 : Int64)) (f4a (q0 &&& (3 : Int64)) (0 : Int64) (0 : Int32)) (f4b (q0 &&& (3 : Int64)) (0 : Int64) (0 : Int32))))
def f0 (q0 : Int64) (p1 : Int32) : Int32 := (if (p1 &&& (1 : Int32)) = (0 : Int32) then (if (v0_0 q0 p1) = (0 : Int32) then (0 : Int32) else (if (v0_1 q0 p1) = (0 : Int32) then (0 : Int32) else (if (v0_2 q0 p1) = (0 : Int32) then (0 : Int32) else (1 : Int32)))) else (if (v0_3 q0 p1) = (0 : Int32) then (0 : Int32) else (if (v0_4 q0 p1) = (0 : Int32) then (0 : Int32) else (if (v0_5 q0 p1) = (0 : Int32) then (0 : Int32) else (1 : Int32)))))
def Q0 (Z : State) (q0 : Int64) (p1 : Int32) (h0 : Heap) (n0 : Nat) (v : Option Value) (h : Heap) (L : List Loc) : Prop := v = some (.int (f0 q0 p1)) ∧ Fr n0 L
set_option maxRecDepth 65536 in
set_option maxHeartbeats 40000000 in
theorem rm0 (l : Launch) (Z : State) (a0 : Array Value) (hw : ∀ d ∈ tables_1, d.before a0 Z = true) (ws : List Jvm.Cond) (q0 : Int64) (p1 : Int32) (h0 : Heap) (n0 : Nat) (Z0 : n0 ≤ h0.size) :
    MetFree l x (head1 (Jvm.Cond.code x code maxLocals ret :: ws) room_1) (fun a U => a = #[(.long q0), (.int p1)] ∧ Z.Warmed39 U.vm ∧ U.heap = h0) (fun _ _ _ _ _ => True) (fun _ U o U' => ∃ v L, o = .returned v ∧ Q0 Z q0 p1 h0 n0 v U'.heap L ∧ FrameEnd U o U' L room_1.cells room_1.slots) := by
  refine MetFree.of_bodySF (plainFor_of_name pn_0) hisR ?_
  intro p e s m args below meth c s₁ Bd hml0 hP hK
  obtain ⟨rfl, hZ, hh⟩ := hP
  have hx := Bd.exec
  have hby := Bd.bytes
  have hml : c.maxLocals = 9 := hml0
  have hown : s.vm.findClass "com/example/pushout_bench/pushoutbench/matcher/EffortSpendPinLaw" = some m.cls := findClass_of_methodNamed Bd.named
  have hnm := (name_of_methodNamed Bd.named Bd.method).1
  have X0 : Stand p l e room_1 s m #[(.long q0), (.int p1)] below meth c s₁ [] 0 0 := Stand.of_body Bd
  have e0 : s₁.heap = h0 := by rw [← hh, Bd.state]; rfl
  have N0 := Fr.nil n0
  show OGo p e below s (Q0 Z q0 p1 h0 n0) room_1.cells room_1.slots _
  refine OGo.st (fun _ k => castTop (ef_0 m q0 p1) k) ?_
  show OGo p e below s _ _ _ (s₁.setTop (mkF m 0 #[.val (.long q0), .second, .val (.int p1), .unset, .unset, .unset, .unset, .unset, .unset] []))
  refine OGo.st (fun _ k => XS.iloadN X0.here hx rfl (hb hby at_0) rfl k) ?_
  show OGo p e below s _ _ _ (s₁.setTop (mkF m 1 #[.val (.long q0), .second, .val (.int p1), .unset, .unset, .unset, .unset, .unset, .unset] [(.int p1)]))
  refine OGo.st (fun _ k => XS.iconst X0.here hx rfl (hb hby at_1) k) ?_
  show OGo p e below s _ _ _ (s₁.setTop (mkF m 2 #[.val (.long q0), .second, .val (.int p1), .unset, .unset, .unset, .unset, .unset, .unset] [(.int (1 : Int32)), (.int p1)]))
  refine OGo.st (fun _ k => XS.iand X0.here hx rfl (hb hby at_2) rfl k) ?_
  show OGo p e below s _ _ _ (s₁.setTop (mkF m 3 #[.val (.long q0), .second, .val (.int p1), .unset, .unset, .unset, .unset, .unset, .unset] [(.int (p1 &&& (1 : Int32)))]))
  by_cases hc3 : (p1 &&& (1 : Int32)) = (0 : Int32)
  · refine OGo.st (fun _ k => XS.ifYes X0.here hx rfl (pc0 := 3) (pc' := 14) rfl (hb hby at_3) rfl ((if0 _ _).trans (teq hc3).1) (by decide) (by decide) k) ?_
    show OGo p e below s _ _ _ (s₁.setTop (mkF m 14 #[.val (.long q0), .second, .val (.int p1), .unset, .unset, .unset, .unset, .unset, .unset] []))
    refine OGo.st (fun _ k => XS.lloadN X0.here hx rfl (hb hby at_14) rfl k) ?_
    show OGo p e below s _ _ _ (s₁.setTop (mkF m 15 #[.val (.long q0), .second, .val (.int p1), .unset, .unset, .unset, .unset, .unset, .unset] [(.long q0)]))
    refine OGo.st (fun _ k => X0.ldc2Long hx hown (mvT hZ (hw _ (List.mem_of_getElem? (i := 0) rfl))) (g := (mkF m 15 #[.val (.long q0), .second, .val (.int p1), .unset, .unset, .unset, .unset, .unset, .unset] [(.long q0)])) rfl (hb hby at_15) _ k) ?_
    show OGo p e below s _ _ _ (s₁.setTop (mkF m 18 #[.val (.long q0), .second, .val (.int p1), .unset, .unset, .unset, .unset, .unset, .unset] [(.long (9223372036854775807 : Int64)), (.long q0)]))
    refine OGo.st (fun _ k => XS.land X0.here hx rfl (hb hby at_18) rfl k) ?_
    show OGo p e below s _ _ _ (s₁.setTop (mkF m 19 #[.val (.long q0), .second, .val (.int p1), .unset, .unset, .unset, .unset, .unset, .unset] [(.long (q0 &&& (9223372036854775807 : Int64)))]))
    refine OGo.st (fun _ k => XS.lstoreN X0.here hx rfl (hb hby at_19) rfl (l' := #[.val (.long q0), .second, .val (.int p1), .val (.long (q0 &&& (9223372036854775807 : Int64))), .second, .unset, .unset, .unset, .unset]) rfl k) ?_
    show OGo p e below s _ _ _ (s₁.setTop (mkF m 20 #[.val (.long q0), .second, .val (.int p1), .val (.long (q0 &&& (9223372036854775807 : Int64))), .second, .unset, .unset, .unset, .unset] []))
    obtain ⟨T1, h1, X1, e1, E1, A1, D1, U1, st1⟩ := newO X0 hx hZ hown (hw _ (List.mem_of_getElem? (i := 1) rfl)) (hw _ (List.mem_of_getElem? (i := 2) rfl)) (hw _ (List.mem_of_getElem? (i := 3) rfl)) e0 (g := (mkF m 20 #[.val (.long q0), .second, .val (.int p1), .val (.long (q0 &&& (9223372036854775807 : Int64))), .second, .unset, .unset, .unset, .unset] [])) rfl (hb hby at_20) (by decide) (by decide)
    obtain ⟨b1, g1⟩ : ∃ z, z = h0.size := ⟨_, rfl⟩
    rw [← g1] at A1 D1 U1 st1
    refine OGo.st st1 ?_
    have g_b1 : n0 ≤ b1 := Nat.le_trans Z0 (Nat.le_of_eq g1.symm)
    have sz_b1 : h0.size ≤ b1 := Nat.le_trans (Keep.refl h0 []).1 (Nat.le_of_eq g1.symm)
    have K1 : Keep h0 h1 [] := (Keep.refl h0 _).ext E1
    have Z1 : n0 ≤ h1.size := Nat.le_trans Z0 E1.1
    have F_limit_b1 : Fld Z h1 b1 "com/example/pushout_bench/pushoutbench/matcher/Effort" "limit" "J" (.long (0 : Int64)) := D1 (Or.inr (hw _ (List.mem_of_getElem? (i := 11) rfl))) (ty := .long) (by decide)
    have F_spent_b1 : Fld Z h1 b1 "com/example/pushout_bench/pushoutbench/matcher/Effort" "spent" "J" (.long (0 : Int64)) := D1 (Or.inl (hw _ (List.mem_of_getElem? (i := 22) rfl))) (ty := .long) (by decide)
    have F_ranOut_b1 : Fld Z h1 b1 "com/example/pushout_bench/pushoutbench/matcher/Effort" "ranOut" "Z" (.int (0 : Int32)) := D1 (Or.inl (hw _ (List.mem_of_getElem? (i := 34) rfl))) (ty := .boolean) (by decide)
    show OGo p e below s _ _ _ (T1.setTop (mkF m 23 #[.val (.long q0), .second, .val (.int p1), .val (.long (q0 &&& (9223372036854775807 : Int64))), .second, .unset, .unset, .unset, .unset] [(.ref b1)]))
    refine OGo.st (fun _ k => XS.dup X1.here hx rfl (hb hby at_23) rfl rfl k) ?_
    show OGo p e below s _ _ _ (T1.setTop (mkF m 24 #[.val (.long q0), .second, .val (.int p1), .val (.long (q0 &&& (9223372036854775807 : Int64))), .second, .unset, .unset, .unset, .unset] [(.ref b1), (.ref b1)]))
    refine OGo.st (fun _ k => XS.lloadN X1.here hx rfl (hb hby at_24) rfl k) ?_
    show OGo p e below s _ _ _ (T1.setTop (mkF m 25 #[.val (.long q0), .second, .val (.int p1), .val (.long (q0 &&& (9223372036854775807 : Int64))), .second, .unset, .unset, .unset, .unset] [(.long (q0 &&& (9223372036854775807 : Int64))), (.ref b1), (.ref b1)]))
    obtain ⟨_, _, ⟨T2, L2, k2, n2⟩, -, X2, ⟨Lc2, hQ2, l2, y2, z2⟩, st2⟩ := X1.specialBack hx (y := (⟨"com/example/pushout_bench/pushoutbench/matcher/Effort", "<init>", "(J)V"⟩ : MethodName)) rfl hown (mvT hZ (hw _ (List.mem_of_getElem? (i := 4) rfl))) (mvT hZ (hw _ (List.mem_of_getElem? (i := 5) rfl))) (mvT hZ (hw _ (List.mem_of_getElem? (i := 6) rfl))) (by decide) (backOf (W := 1) (rm1 l Z a0 hw [] b1 (q0 &&& (9223372036854775807 : Int64)) h1 n0 Z1 A1 F_limit_b1 F_spent_b1 F_ranOut_b1 g_b1 (own_nnM _)) hZ (hw _ (List.mem_of_getElem? (i := 6) rfl)) (hw _ (List.mem_of_getElem? (i := 3) rfl)) (by decide) (by decide)) (g := (mkF m 25 #[.val (.long q0), .second, .val (.int p1), .val (.long (q0 &&& (9223372036854775807 : Int64))), .second, .unset, .unset, .unset, .unset] [(.long (q0 &&& (9223372036854775807 : Int64))), (.ref b1), (.ref b1)])) rfl (by rw [hml]; rfl) (Steps.refl _) (a := b1) (argsL := [(.long (q0 &&& (9223372036854775807 : Int64)))]) (rest := [(.ref b1)]) (lenOf pd_0_0 rfl) rfl (by show 2 * 0 + _ ≤ _; exact Nat.le_of_eq rfl) (hb hby at_25) (fun _ _ => ⟨rfl, e1, (by decide : 1 + 0 ≤ _), (by decide : 3 + 0 ≤ _)⟩)
    dsimp only [Pt.U, Pt.locs, Pt.cells, Pt.slots] at X2 l2 y2 z2 st2 hQ2
    subst l2 y2 z2
    obtain ⟨rfl, N2q, Kc2, G2_0, G2_1, G2_2⟩ := hQ2
    have A1_w2 := A1.keep Kc2
    have K2 : Keep h0 T2.heap [] := (K1).trans Kc2 (allS (Or.inr sz_b1) all0)
    have Z2 : n0 ≤ T2.heap.size := Nat.le_trans Z1 Kc2.1
    have N2 := Fr.app N0 N2q
    refine OGo.st (fun _ k => st2.trans k) ?_
    show OGo p e below s _ _ _ (T2.setTop (mkF m 28 #[.val (.long q0), .second, .val (.int p1), .val (.long (q0 &&& (9223372036854775807 : Int64))), .second, .unset, .unset, .unset, .unset] [(.ref b1)]))
    refine OGo.st (fun _ k => XS.astore X2.here hx rfl (hb hby at_28) rfl rfl (l' := #[.val (.long q0), .second, .val (.int p1), .val (.long (q0 &&& (9223372036854775807 : Int64))), .second, .val (.ref b1), .unset, .unset, .unset]) rfl k) ?_
    show OGo p e below s _ _ _ (T2.setTop (mkF m 30 #[.val (.long q0), .second, .val (.int p1), .val (.long (q0 &&& (9223372036854775807 : Int64))), .second, .val (.ref b1), .unset, .unset, .unset] []))
    refine OGo.st (fun _ k => XS.aload X2.here hx rfl (hb hby at_30) rfl rfl k) ?_
    show OGo p e below s _ _ _ (T2.setTop (mkF m 32 #[.val (.long q0), .second, .val (.int p1), .val (.long (q0 &&& (9223372036854775807 : Int64))), .second, .val (.ref b1), .unset, .unset, .unset] [(.ref b1)]))
    refine OGo.st (fun _ k => XS.lconst X2.here hx rfl (hb hby at_32) k) ?_
    show OGo p e below s _ _ _ (T2.setTop (mkF m 33 #[.val (.long q0), .second, .val (.int p1), .val (.long (q0 &&& (9223372036854775807 : Int64))), .second, .val (.ref b1), .unset, .unset, .unset] [(.long (1 : Int64)), (.ref b1)]))
    refine OGo.st (fun _ k => XS.lloadN X2.here hx rfl (hb hby at_33) rfl k) ?_
    show OGo p e below s _ _ _ (T2.setTop (mkF m 34 #[.val (.long q0), .second, .val (.int p1), .val (.long (q0 &&& (9223372036854775807 : Int64))), .second, .val (.ref b1), .unset, .unset, .unset] [(.long (q0 &&& (9223372036854775807 : Int64))), (.long (1 : Int64)), (.ref b1)]))
    obtain ⟨_, _, ⟨T3, L3, k3, n3⟩, -, X3, ⟨Lc3, hQ3, l3, y3, z3⟩, st3⟩ := Jvm.LawKit.callS X2 hx (y := (⟨"com/example/pushout_bench/pushoutbench/matcher/EffortSpendPinLaw", "step", "(Lcom/example/pushout_bench/pushoutbench/matcher/Effort;JJ)Z"⟩ : MethodName)) hown (mvT hZ (hw _ (List.mem_of_getElem? (i := 12) rfl))) (mvT hZ (hw _ (List.mem_of_getElem? (i := 13) rfl))) (mvT hZ (hw _ (List.mem_of_getElem? (i := 14) rfl))) (mvT hZ (hw _ (List.mem_of_getElem? (i := 15) rfl))) (by decide) (backOf (W := 0) (rm3 l Z a0 hw [] b1 (1 : Int64) (q0 &&& (9223372036854775807 : Int64)) (q0 &&& (9223372036854775807 : Int64)) (0 : Int64) (0 : Int32) T2.heap n0 Z2 A1_w2 G2_0 G2_1 G2_2 g_b1) hZ (hw _ (List.mem_of_getElem? (i := 15) rfl)) (hw _ (List.mem_of_getElem? (i := 14) rfl)) (by decide) (by decide)) (g := (mkF m 34 #[.val (.long q0), .second, .val (.int p1), .val (.long (q0 &&& (9223372036854775807 : Int64))), .second, .val (.ref b1), .unset, .unset, .unset] [(.long (q0 &&& (9223372036854775807 : Int64))), (.long (1 : Int64)), (.ref b1)])) rfl (by rw [hml]; rfl) (argsL := [(.ref b1), (.long (1 : Int64)), (.long (q0 &&& (9223372036854775807 : Int64)))]) (rest := []) (lenOf pd_0_1 rfl) rfl (by show 2 * 0 + _ ≤ _; exact Nat.le_of_eq rfl) (hb hby at_34) (fun _ _ => ⟨rfl, rfl, (by decide : 1 + 0 ≤ _), (by decide : 3 + 0 ≤ _)⟩)
    dsimp only [Pt.U, Pt.locs, Pt.cells, Pt.slots] at X3 l3 y3 z3 st3 hQ3
    subst l3 y3 z3
    obtain ⟨rfl, N3q, Kc3, G3_0, G3_1, G3_2⟩ := hQ3
    have A1_w3 := A1_w2.keep Kc3
    have K3 : Keep h0 T3.heap [] := (K2).trans Kc3 (allS (Or.inr sz_b1) all0)
    have Z3 : n0 ≤ T3.heap.size := Nat.le_trans Z2 Kc3.1
    have N3 := Fr.app N2 N3q
    refine OGo.st st3 ?_
    show OGo p e below s _ _ _ (T3.setTop (mkF m 37 #[.val (.long q0), .second, .val (.int p1), .val (.long (q0 &&& (9223372036854775807 : Int64))), .second, .val (.ref b1), .unset, .unset, .unset] [(.int (f3 (1 : Int64) (q0 &&& (9223372036854775807 : Int64)) (q0 &&& (9223372036854775807 : Int64)) (0 : Int64) (0 : Int32)))]))
    refine OGo.st (fun _ k => XS.istore X3.here hx rfl (hb hby at_37) rfl (l' := #[.val (.long q0), .second, .val (.int p1), .val (.long (q0 &&& (9223372036854775807 : Int64))), .second, .val (.ref b1), .val (.int (v0_0 q0 p1)), .unset, .unset]) rfl k) ?_
    show OGo p e below s _ _ _ (T3.setTop (mkF m 39 #[.val (.long q0), .second, .val (.int p1), .val (.long (q0 &&& (9223372036854775807 : Int64))), .second, .val (.ref b1), .val (.int (v0_0 q0 p1)), .unset, .unset] []))
    refine OGo.st (fun _ k => XS.aload X3.here hx rfl (hb hby at_39) rfl rfl k) ?_
    show OGo p e below s _ _ _ (T3.setTop (mkF m 41 #[.val (.long q0), .second, .val (.int p1), .val (.long (q0 &&& (9223372036854775807 : Int64))), .second, .val (.ref b1), .val (.int (v0_0 q0 p1)), .unset, .unset] [(.ref b1)]))
    refine OGo.st (fun _ k => X3.ldc2Long hx hown (mvT hZ (hw _ (List.mem_of_getElem? (i := 39) rfl))) (g := (mkF m 41 #[.val (.long q0), .second, .val (.int p1), .val (.long (q0 &&& (9223372036854775807 : Int64))), .second, .val (.ref b1), .val (.int (v0_0 q0 p1)), .unset, .unset] [(.ref b1)])) rfl (hb hby at_41) _ k) ?_
    show OGo p e below s _ _ _ (T3.setTop (mkF m 44 #[.val (.long q0), .second, .val (.int p1), .val (.long (q0 &&& (9223372036854775807 : Int64))), .second, .val (.ref b1), .val (.int (v0_0 q0 p1)), .unset, .unset] [(.long (2 : Int64)), (.ref b1)]))
    refine OGo.st (fun _ k => XS.lloadN X3.here hx rfl (hb hby at_44) rfl k) ?_
    show OGo p e below s _ _ _ (T3.setTop (mkF m 45 #[.val (.long q0), .second, .val (.int p1), .val (.long (q0 &&& (9223372036854775807 : Int64))), .second, .val (.ref b1), .val (.int (v0_0 q0 p1)), .unset, .unset] [(.long (q0 &&& (9223372036854775807 : Int64))), (.long (2 : Int64)), (.ref b1)]))
    obtain ⟨_, _, ⟨T4, L4, k4, n4⟩, -, X4, ⟨Lc4, hQ4, l4, y4, z4⟩, st4⟩ := Jvm.LawKit.callS X3 hx (y := (⟨"com/example/pushout_bench/pushoutbench/matcher/EffortSpendPinLaw", "step", "(Lcom/example/pushout_bench/pushoutbench/matcher/Effort;JJ)Z"⟩ : MethodName)) hown (mvT hZ (hw _ (List.mem_of_getElem? (i := 12) rfl))) (mvT hZ (hw _ (List.mem_of_getElem? (i := 13) rfl))) (mvT hZ (hw _ (List.mem_of_getElem? (i := 14) rfl))) (mvT hZ (hw _ (List.mem_of_getElem? (i := 15) rfl))) (by decide) (backOf (W := 0) (rm3 l Z a0 hw [] b1 (2 : Int64) (q0 &&& (9223372036854775807 : Int64)) (q0 &&& (9223372036854775807 : Int64)) (f4a (q0 &&& (9223372036854775807 : Int64)) (0 : Int64) (0 : Int32)) (f4b (q0 &&& (9223372036854775807 : Int64)) (0 : Int64) (0 : Int32)) T3.heap n0 Z3 A1_w3 G3_0 G3_1 G3_2 g_b1) hZ (hw _ (List.mem_of_getElem? (i := 15) rfl)) (hw _ (List.mem_of_getElem? (i := 14) rfl)) (by decide) (by decide)) (g := (mkF m 45 #[.val (.long q0), .second, .val (.int p1), .val (.long (q0 &&& (9223372036854775807 : Int64))), .second, .val (.ref b1), .val (.int (v0_0 q0 p1)), .unset, .unset] [(.long (q0 &&& (9223372036854775807 : Int64))), (.long (2 : Int64)), (.ref b1)])) rfl (by rw [hml]; rfl) (argsL := [(.ref b1), (.long (2 : Int64)), (.long (q0 &&& (9223372036854775807 : Int64)))]) (rest := []) (lenOf pd_0_1 rfl) rfl (by show 2 * 0 + _ ≤ _; exact Nat.le_of_eq rfl) (hb hby at_45) (fun _ _ => ⟨rfl, rfl, (by decide : 1 + 0 ≤ _), (by decide : 3 + 0 ≤ _)⟩)
    dsimp only [Pt.U, Pt.locs, Pt.cells, Pt.slots] at X4 l4 y4 z4 st4 hQ4
    subst l4 y4 z4
    obtain ⟨rfl, N4q, Kc4, G4_0, G4_1, G4_2⟩ := hQ4
    have A1_w4 := A1_w3.keep Kc4
    have K4 : Keep h0 T4.heap [] := (K3).trans Kc4 (allS (Or.inr sz_b1) all0)
    have Z4 : n0 ≤ T4.heap.size := Nat.le_trans Z3 Kc4.1
    have N4 := Fr.app N3 N4q
    refine OGo.st st4 ?_
    show OGo p e below s _ _ _ (T4.setTop (mkF m 48 #[.val (.long q0), .second, .val (.int p1), .val (.long (q0 &&& (9223372036854775807 : Int64))), .second, .val (.ref b1), .val (.int (v0_0 q0 p1)), .unset, .unset] [(.int (f3 (2 : Int64) (q0 &&& (9223372036854775807 : Int64)) (q0 &&& (9223372036854775807 : Int64)) (f4a (q0 &&& (9223372036854775807 : Int64)) (0 : Int64) (0 : Int32)) (f4b (q0 &&& (9223372036854775807 : Int64)) (0 : Int64) (0 : Int32))))]))
    refine OGo.st (fun _ k => XS.istore X4.here hx rfl (hb hby at_48) rfl (l' := #[.val (.long q0), .second, .val (.int p1), .val (.long (q0 &&& (9223372036854775807 : Int64))), .second, .val (.ref b1), .val (.int (v0_0 q0 p1)), .val (.int (v0_1 q0 p1)), .unset]) rfl k) ?_
    show OGo p e below s _ _ _ (T4.setTop (mkF m 50 #[.val (.long q0), .second, .val (.int p1), .val (.long (q0 &&& (9223372036854775807 : Int64))), .second, .val (.ref b1), .val (.int (v0_0 q0 p1)), .val (.int (v0_1 q0 p1)), .unset] []))
    refine OGo.st (fun _ k => XS.aload X4.here hx rfl (hb hby at_50) rfl rfl k) ?_
    show OGo p e below s _ _ _ (T4.setTop (mkF m 52 #[.val (.long q0), .second, .val (.int p1), .val (.long (q0 &&& (9223372036854775807 : Int64))), .second, .val (.ref b1), .val (.int (v0_0 q0 p1)), .val (.int (v0_1 q0 p1)), .unset] [(.ref b1)]))
    refine OGo.st (fun _ k => X4.ldc2Long hx hown (mvT hZ (hw _ (List.mem_of_getElem? (i := 40) rfl))) (g := (mkF m 52 #[.val (.long q0), .second, .val (.int p1), .val (.long (q0 &&& (9223372036854775807 : Int64))), .second, .val (.ref b1), .val (.int (v0_0 q0 p1)), .val (.int (v0_1 q0 p1)), .unset] [(.ref b1)])) rfl (hb hby at_52) _ k) ?_
    show OGo p e below s _ _ _ (T4.setTop (mkF m 55 #[.val (.long q0), .second, .val (.int p1), .val (.long (q0 &&& (9223372036854775807 : Int64))), .second, .val (.ref b1), .val (.int (v0_0 q0 p1)), .val (.int (v0_1 q0 p1)), .unset] [(.long (3 : Int64)), (.ref b1)]))
    refine OGo.st (fun _ k => XS.lloadN X4.here hx rfl (hb hby at_55) rfl k) ?_
    show OGo p e below s _ _ _ (T4.setTop (mkF m 56 #[.val (.long q0), .second, .val (.int p1), .val (.long (q0 &&& (9223372036854775807 : Int64))), .second, .val (.ref b1), .val (.int (v0_0 q0 p1)), .val (.int (v0_1 q0 p1)), .unset] [(.long (q0 &&& (9223372036854775807 : Int64))), (.long (3 : Int64)), (.ref b1)]))
    obtain ⟨_, _, ⟨T5, L5, k5, n5⟩, -, X5, ⟨Lc5, hQ5, l5, y5, z5⟩, st5⟩ := Jvm.LawKit.callS X4 hx (y := (⟨"com/example/pushout_bench/pushoutbench/matcher/EffortSpendPinLaw", "step", "(Lcom/example/pushout_bench/pushoutbench/matcher/Effort;JJ)Z"⟩ : MethodName)) hown (mvT hZ (hw _ (List.mem_of_getElem? (i := 12) rfl))) (mvT hZ (hw _ (List.mem_of_getElem? (i := 13) rfl))) (mvT hZ (hw _ (List.mem_of_getElem? (i := 14) rfl))) (mvT hZ (hw _ (List.mem_of_getElem? (i := 15) rfl))) (by decide) (backOf (W := 0) (rm3 l Z a0 hw [] b1 (3 : Int64) (q0 &&& (9223372036854775807 : Int64)) (q0 &&& (9223372036854775807 : Int64)) (f4a (q0 &&& (9223372036854775807 : Int64)) (f4a (q0 &&& (9223372036854775807 : Int64)) (0 : Int64) (0 : Int32)) (f4b (q0 &&& (9223372036854775807 : Int64)) (0 : Int64) (0 : Int32))) (f4b (q0 &&& (9223372036854775807 : Int64)) (f4a (q0 &&& (9223372036854775807 : Int64)) (0 : Int64) (0 : Int32)) (f4b (q0 &&& (9223372036854775807 : Int64)) (0 : Int64) (0 : Int32))) T4.heap n0 Z4 A1_w4 G4_0 G4_1 G4_2 g_b1) hZ (hw _ (List.mem_of_getElem? (i := 15) rfl)) (hw _ (List.mem_of_getElem? (i := 14) rfl)) (by decide) (by decide)) (g := (mkF m 56 #[.val (.long q0), .second, .val (.int p1), .val (.long (q0 &&& (9223372036854775807 : Int64))), .second, .val (.ref b1), .val (.int (v0_0 q0 p1)), .val (.int (v0_1 q0 p1)), .unset] [(.long (q0 &&& (9223372036854775807 : Int64))), (.long (3 : Int64)), (.ref b1)])) rfl (by rw [hml]; rfl) (argsL := [(.ref b1), (.long (3 : Int64)), (.long (q0 &&& (9223372036854775807 : Int64)))]) (rest := []) (lenOf pd_0_1 rfl) rfl (by show 2 * 0 + _ ≤ _; exact Nat.le_of_eq rfl) (hb hby at_56) (fun _ _ => ⟨rfl, rfl, (by decide : 1 + 0 ≤ _), (by decide : 3 + 0 ≤ _)⟩)
    dsimp only [Pt.U, Pt.locs, Pt.cells, Pt.slots] at X5 l5 y5 z5 st5 hQ5
    subst l5 y5 z5
    obtain ⟨rfl, N5q, Kc5, G5_0, G5_1, G5_2⟩ := hQ5
    have A1_w5 := A1_w4.keep Kc5
    have K5 : Keep h0 T5.heap [] := (K4).trans Kc5 (allS (Or.inr sz_b1) all0)
    have Z5 : n0 ≤ T5.heap.size := Nat.le_trans Z4 Kc5.1
    have N5 := Fr.app N4 N5q
    refine OGo.st st5 ?_
    show OGo p e below s _ _ _ (T5.setTop (mkF m 59 #[.val (.long q0), .second, .val (.int p1), .val (.long (q0 &&& (9223372036854775807 : Int64))), .second, .val (.ref b1), .val (.int (v0_0 q0 p1)), .val (.int (v0_1 q0 p1)), .unset] [(.int (f3 (3 : Int64) (q0 &&& (9223372036854775807 : Int64)) (q0 &&& (9223372036854775807 : Int64)) (f4a (q0 &&& (9223372036854775807 : Int64)) (f4a (q0 &&& (9223372036854775807 : Int64)) (0 : Int64) (0 : Int32)) (f4b (q0 &&& (9223372036854775807 : Int64)) (0 : Int64) (0 : Int32))) (f4b (q0 &&& (9223372036854775807 : Int64)) (f4a (q0 &&& (9223372036854775807 : Int64)) (0 : Int64) (0 : Int32)) (f4b (q0 &&& (9223372036854775807 : Int64)) (0 : Int64) (0 : Int32)))))]))
    refine OGo.st (fun _ k => XS.istore X5.here hx rfl (hb hby at_59) rfl (l' := #[.val (.long q0), .second, .val (.int p1), .val (.long (q0 &&& (9223372036854775807 : Int64))), .second, .val (.ref b1), .val (.int (v0_0 q0 p1)), .val (.int (v0_1 q0 p1)), .val (.int (v0_2 q0 p1))]) rfl k) ?_
    show OGo p e below s _ _ _ (T5.setTop (mkF m 61 #[.val (.long q0), .second, .val (.int p1), .val (.long (q0 &&& (9223372036854775807 : Int64))), .second, .val (.ref b1), .val (.int (v0_0 q0 p1)), .val (.int (v0_1 q0 p1)), .val (.int (v0_2 q0 p1))] []))
    refine OGo.st (fun _ k => XS.iload X5.here hx rfl (hb hby at_61) rfl k) ?_
    show OGo p e below s _ _ _ (T5.setTop (mkF m 63 #[.val (.long q0), .second, .val (.int p1), .val (.long (q0 &&& (9223372036854775807 : Int64))), .second, .val (.ref b1), .val (.int (v0_0 q0 p1)), .val (.int (v0_1 q0 p1)), .val (.int (v0_2 q0 p1))] [(.int (v0_0 q0 p1))]))
    by_cases hc63 : (v0_0 q0 p1) = (0 : Int32)
    · refine OGo.st (fun _ k => XS.ifYes X5.here hx rfl (pc0 := 63) (pc' := 80) rfl (hb hby at_63) rfl ((if0 _ _).trans (teq hc63).1) (by decide) (by decide) k) ?_
      show OGo p e below s _ _ _ (T5.setTop (mkF m 80 #[.val (.long q0), .second, .val (.int p1), .val (.long (q0 &&& (9223372036854775807 : Int64))), .second, .val (.ref b1), .val (.int (v0_0 q0 p1)), .val (.int (v0_1 q0 p1)), .val (.int (v0_2 q0 p1))] []))
      refine OGo.st (fun _ k => XS.iconst X5.here hx rfl (hb hby at_80) k) ?_
      show OGo p e below s _ _ _ (T5.setTop (mkF m 81 #[.val (.long q0), .second, .val (.int p1), .val (.long (q0 &&& (9223372036854775807 : Int64))), .second, .val (.ref b1), .val (.int (v0_0 q0 p1)), .val (.int (v0_1 q0 p1)), .val (.int (v0_2 q0 p1))] [(.int (0 : Int32))]))
      exact oretN X5 hx Bd.notSynchronized (t := .boolean) Bd.returns (by simp) (hb hby at_81) (z' := (0 : Int32)) (by decide) rfl ⟨(congrArg (fun z => some (Value.int z)) (show (0 : Int32) = f0 q0 p1 from Eq.symm (by unfold f0; exact (if_pos hc3).trans (if_pos hc63)))), N5⟩ (by decide) (by decide)
    · refine OGo.st (fun _ k => XS.ifNo X5.here hx rfl (hb hby at_63) rfl ((if0 _ _).trans (feq hc63).1) k) ?_
      show OGo p e below s _ _ _ (T5.setTop (mkF m 66 #[.val (.long q0), .second, .val (.int p1), .val (.long (q0 &&& (9223372036854775807 : Int64))), .second, .val (.ref b1), .val (.int (v0_0 q0 p1)), .val (.int (v0_1 q0 p1)), .val (.int (v0_2 q0 p1))] []))
      refine OGo.st (fun _ k => XS.iload X5.here hx rfl (hb hby at_66) rfl k) ?_
      show OGo p e below s _ _ _ (T5.setTop (mkF m 68 #[.val (.long q0), .second, .val (.int p1), .val (.long (q0 &&& (9223372036854775807 : Int64))), .second, .val (.ref b1), .val (.int (v0_0 q0 p1)), .val (.int (v0_1 q0 p1)), .val (.int (v0_2 q0 p1))] [(.int (v0_1 q0 p1))]))
      by_cases hc68 : (v0_1 q0 p1) = (0 : Int32)
      · refine OGo.st (fun _ k => XS.ifYes X5.here hx rfl (pc0 := 68) (pc' := 80) rfl (hb hby at_68) rfl ((if0 _ _).trans (teq hc68).1) (by decide) (by decide) k) ?_
        show OGo p e below s _ _ _ (T5.setTop (mkF m 80 #[.val (.long q0), .second, .val (.int p1), .val (.long (q0 &&& (9223372036854775807 : Int64))), .second, .val (.ref b1), .val (.int (v0_0 q0 p1)), .val (.int (v0_1 q0 p1)), .val (.int (v0_2 q0 p1))] []))
        refine OGo.st (fun _ k => XS.iconst X5.here hx rfl (hb hby at_80) k) ?_
        show OGo p e below s _ _ _ (T5.setTop (mkF m 81 #[.val (.long q0), .second, .val (.int p1), .val (.long (q0 &&& (9223372036854775807 : Int64))), .second, .val (.ref b1), .val (.int (v0_0 q0 p1)), .val (.int (v0_1 q0 p1)), .val (.int (v0_2 q0 p1))] [(.int (0 : Int32))]))
        exact oretN X5 hx Bd.notSynchronized (t := .boolean) Bd.returns (by simp) (hb hby at_81) (z' := (0 : Int32)) (by decide) rfl ⟨(congrArg (fun z => some (Value.int z)) (show (0 : Int32) = f0 q0 p1 from Eq.symm (by unfold f0; exact (if_pos hc3).trans ((if_neg hc63).trans (if_pos hc68))))), N5⟩ (by decide) (by decide)
      · refine OGo.st (fun _ k => XS.ifNo X5.here hx rfl (hb hby at_68) rfl ((if0 _ _).trans (feq hc68).1) k) ?_
        show OGo p e below s _ _ _ (T5.setTop (mkF m 71 #[.val (.long q0), .second, .val (.int p1), .val (.long (q0 &&& (9223372036854775807 : Int64))), .second, .val (.ref b1), .val (.int (v0_0 q0 p1)), .val (.int (v0_1 q0 p1)), .val (.int (v0_2 q0 p1))] []))
        refine OGo.st (fun _ k => XS.iload X5.here hx rfl (hb hby at_71) rfl k) ?_
        show OGo p e below s _ _ _ (T5.setTop (mkF m 73 #[.val (.long q0), .second, .val (.int p1), .val (.long (q0 &&& (9223372036854775807 : Int64))), .second, .val (.ref b1), .val (.int (v0_0 q0 p1)), .val (.int (v0_1 q0 p1)), .val (.int (v0_2 q0 p1))] [(.int (v0_2 q0 p1))]))
        by_cases hc73 : (v0_2 q0 p1) = (0 : Int32)
        · refine OGo.st (fun _ k => XS.ifYes X5.here hx rfl (pc0 := 73) (pc' := 80) rfl (hb hby at_73) rfl ((if0 _ _).trans (teq hc73).1) (by decide) (by decide) k) ?_
          show OGo p e below s _ _ _ (T5.setTop (mkF m 80 #[.val (.long q0), .second, .val (.int p1), .val (.long (q0 &&& (9223372036854775807 : Int64))), .second, .val (.ref b1), .val (.int (v0_0 q0 p1)), .val (.int (v0_1 q0 p1)), .val (.int (v0_2 q0 p1))] []))
          refine OGo.st (fun _ k => XS.iconst X5.here hx rfl (hb hby at_80) k) ?_
          show OGo p e below s _ _ _ (T5.setTop (mkF m 81 #[.val (.long q0), .second, .val (.int p1), .val (.long (q0 &&& (9223372036854775807 : Int64))), .second, .val (.ref b1), .val (.int (v0_0 q0 p1)), .val (.int (v0_1 q0 p1)), .val (.int (v0_2 q0 p1))] [(.int (0 : Int32))]))
          exact oretN X5 hx Bd.notSynchronized (t := .boolean) Bd.returns (by simp) (hb hby at_81) (z' := (0 : Int32)) (by decide) rfl ⟨(congrArg (fun z => some (Value.int z)) (show (0 : Int32) = f0 q0 p1 from Eq.symm (by unfold f0; exact (if_pos hc3).trans ((if_neg hc63).trans ((if_neg hc68).trans (if_pos hc73)))))), N5⟩ (by decide) (by decide)
        · refine OGo.st (fun _ k => XS.ifNo X5.here hx rfl (hb hby at_73) rfl ((if0 _ _).trans (feq hc73).1) k) ?_
          show OGo p e below s _ _ _ (T5.setTop (mkF m 76 #[.val (.long q0), .second, .val (.int p1), .val (.long (q0 &&& (9223372036854775807 : Int64))), .second, .val (.ref b1), .val (.int (v0_0 q0 p1)), .val (.int (v0_1 q0 p1)), .val (.int (v0_2 q0 p1))] []))
          refine OGo.st (fun _ k => XS.iconst X5.here hx rfl (hb hby at_76) k) ?_
          show OGo p e below s _ _ _ (T5.setTop (mkF m 77 #[.val (.long q0), .second, .val (.int p1), .val (.long (q0 &&& (9223372036854775807 : Int64))), .second, .val (.ref b1), .val (.int (v0_0 q0 p1)), .val (.int (v0_1 q0 p1)), .val (.int (v0_2 q0 p1))] [(.int (1 : Int32))]))
          refine OGo.st (fun _ k => XS.goto X5.here hx rfl (pc0 := 77) (pc' := 81) rfl (hb hby at_77) (by decide) (by decide) k) ?_
          show OGo p e below s _ _ _ (T5.setTop (mkF m 81 #[.val (.long q0), .second, .val (.int p1), .val (.long (q0 &&& (9223372036854775807 : Int64))), .second, .val (.ref b1), .val (.int (v0_0 q0 p1)), .val (.int (v0_1 q0 p1)), .val (.int (v0_2 q0 p1))] [(.int (1 : Int32))]))
          exact oretN X5 hx Bd.notSynchronized (t := .boolean) Bd.returns (by simp) (hb hby at_81) (z' := (1 : Int32)) (by decide) rfl ⟨(congrArg (fun z => some (Value.int z)) (show (1 : Int32) = f0 q0 p1 from Eq.symm (by unfold f0; exact (if_pos hc3).trans ((if_neg hc63).trans ((if_neg hc68).trans (if_neg hc73)))))), N5⟩ (by decide) (by decide)
  · refine OGo.st (fun _ k => XS.ifNo X0.here hx rfl (hb hby at_3) rfl ((if0 _ _).trans (feq hc3).1) k) ?_
    show OGo p e below s _ _ _ (s₁.setTop (mkF m 6 #[.val (.long q0), .second, .val (.int p1), .unset, .unset, .unset, .unset, .unset, .unset] []))
    refine OGo.st (fun _ k => XS.lloadN X0.here hx rfl (hb hby at_6) rfl k) ?_
    show OGo p e below s _ _ _ (s₁.setTop (mkF m 7 #[.val (.long q0), .second, .val (.int p1), .unset, .unset, .unset, .unset, .unset, .unset] [(.long q0)]))
    refine OGo.st (fun _ k => X0.ldc2Long hx hown (mvT hZ (hw _ (List.mem_of_getElem? (i := 40) rfl))) (g := (mkF m 7 #[.val (.long q0), .second, .val (.int p1), .unset, .unset, .unset, .unset, .unset, .unset] [(.long q0)])) rfl (hb hby at_7) _ k) ?_
    show OGo p e below s _ _ _ (s₁.setTop (mkF m 10 #[.val (.long q0), .second, .val (.int p1), .unset, .unset, .unset, .unset, .unset, .unset] [(.long (3 : Int64)), (.long q0)]))
    refine OGo.st (fun _ k => XS.land X0.here hx rfl (hb hby at_10) rfl k) ?_
    show OGo p e below s _ _ _ (s₁.setTop (mkF m 11 #[.val (.long q0), .second, .val (.int p1), .unset, .unset, .unset, .unset, .unset, .unset] [(.long (q0 &&& (3 : Int64)))]))
    refine OGo.st (fun _ k => XS.goto X0.here hx rfl (pc0 := 11) (pc' := 19) rfl (hb hby at_11) (by decide) (by decide) k) ?_
    show OGo p e below s _ _ _ (s₁.setTop (mkF m 19 #[.val (.long q0), .second, .val (.int p1), .unset, .unset, .unset, .unset, .unset, .unset] [(.long (q0 &&& (3 : Int64)))]))
    refine OGo.st (fun _ k => XS.lstoreN X0.here hx rfl (hb hby at_19) rfl (l' := #[.val (.long q0), .second, .val (.int p1), .val (.long (q0 &&& (3 : Int64))), .second, .unset, .unset, .unset, .unset]) rfl k) ?_
    show OGo p e below s _ _ _ (s₁.setTop (mkF m 20 #[.val (.long q0), .second, .val (.int p1), .val (.long (q0 &&& (3 : Int64))), .second, .unset, .unset, .unset, .unset] []))
    obtain ⟨T6, h6, X6, e6, E6, A6, D6, U6, st6⟩ := newO X0 hx hZ hown (hw _ (List.mem_of_getElem? (i := 1) rfl)) (hw _ (List.mem_of_getElem? (i := 2) rfl)) (hw _ (List.mem_of_getElem? (i := 3) rfl)) e0 (g := (mkF m 20 #[.val (.long q0), .second, .val (.int p1), .val (.long (q0 &&& (3 : Int64))), .second, .unset, .unset, .unset, .unset] [])) rfl (hb hby at_20) (by decide) (by decide)
    obtain ⟨b6, g6⟩ : ∃ z, z = h0.size := ⟨_, rfl⟩
    rw [← g6] at A6 D6 U6 st6
    refine OGo.st st6 ?_
    have g_b6 : n0 ≤ b6 := Nat.le_trans Z0 (Nat.le_of_eq g6.symm)
    have sz_b6 : h0.size ≤ b6 := Nat.le_trans (Keep.refl h0 []).1 (Nat.le_of_eq g6.symm)
    have K6 : Keep h0 h6 [] := (Keep.refl h0 _).ext E6
    have Z6 : n0 ≤ h6.size := Nat.le_trans Z0 E6.1
    have F_limit_b6 : Fld Z h6 b6 "com/example/pushout_bench/pushoutbench/matcher/Effort" "limit" "J" (.long (0 : Int64)) := D6 (Or.inr (hw _ (List.mem_of_getElem? (i := 11) rfl))) (ty := .long) (by decide)
    have F_spent_b6 : Fld Z h6 b6 "com/example/pushout_bench/pushoutbench/matcher/Effort" "spent" "J" (.long (0 : Int64)) := D6 (Or.inl (hw _ (List.mem_of_getElem? (i := 22) rfl))) (ty := .long) (by decide)
    have F_ranOut_b6 : Fld Z h6 b6 "com/example/pushout_bench/pushoutbench/matcher/Effort" "ranOut" "Z" (.int (0 : Int32)) := D6 (Or.inl (hw _ (List.mem_of_getElem? (i := 34) rfl))) (ty := .boolean) (by decide)
    show OGo p e below s _ _ _ (T6.setTop (mkF m 23 #[.val (.long q0), .second, .val (.int p1), .val (.long (q0 &&& (3 : Int64))), .second, .unset, .unset, .unset, .unset] [(.ref b6)]))
    refine OGo.st (fun _ k => XS.dup X6.here hx rfl (hb hby at_23) rfl rfl k) ?_
    show OGo p e below s _ _ _ (T6.setTop (mkF m 24 #[.val (.long q0), .second, .val (.int p1), .val (.long (q0 &&& (3 : Int64))), .second, .unset, .unset, .unset, .unset] [(.ref b6), (.ref b6)]))
    refine OGo.st (fun _ k => XS.lloadN X6.here hx rfl (hb hby at_24) rfl k) ?_
    show OGo p e below s _ _ _ (T6.setTop (mkF m 25 #[.val (.long q0), .second, .val (.int p1), .val (.long (q0 &&& (3 : Int64))), .second, .unset, .unset, .unset, .unset] [(.long (q0 &&& (3 : Int64))), (.ref b6), (.ref b6)]))
    obtain ⟨_, _, ⟨T7, L7, k7, n7⟩, -, X7, ⟨Lc7, hQ7, l7, y7, z7⟩, st7⟩ := X6.specialBack hx (y := (⟨"com/example/pushout_bench/pushoutbench/matcher/Effort", "<init>", "(J)V"⟩ : MethodName)) rfl hown (mvT hZ (hw _ (List.mem_of_getElem? (i := 4) rfl))) (mvT hZ (hw _ (List.mem_of_getElem? (i := 5) rfl))) (mvT hZ (hw _ (List.mem_of_getElem? (i := 6) rfl))) (by decide) (backOf (W := 1) (rm1 l Z a0 hw [] b6 (q0 &&& (3 : Int64)) h6 n0 Z6 A6 F_limit_b6 F_spent_b6 F_ranOut_b6 g_b6 (own_nn3 _)) hZ (hw _ (List.mem_of_getElem? (i := 6) rfl)) (hw _ (List.mem_of_getElem? (i := 3) rfl)) (by decide) (by decide)) (g := (mkF m 25 #[.val (.long q0), .second, .val (.int p1), .val (.long (q0 &&& (3 : Int64))), .second, .unset, .unset, .unset, .unset] [(.long (q0 &&& (3 : Int64))), (.ref b6), (.ref b6)])) rfl (by rw [hml]; rfl) (Steps.refl _) (a := b6) (argsL := [(.long (q0 &&& (3 : Int64)))]) (rest := [(.ref b6)]) (lenOf pd_0_0 rfl) rfl (by show 2 * 0 + _ ≤ _; exact Nat.le_of_eq rfl) (hb hby at_25) (fun _ _ => ⟨rfl, e6, (by decide : 1 + 0 ≤ _), (by decide : 3 + 0 ≤ _)⟩)
    dsimp only [Pt.U, Pt.locs, Pt.cells, Pt.slots] at X7 l7 y7 z7 st7 hQ7
    subst l7 y7 z7
    obtain ⟨rfl, N7q, Kc7, G7_0, G7_1, G7_2⟩ := hQ7
    have A6_w7 := A6.keep Kc7
    have K7 : Keep h0 T7.heap [] := (K6).trans Kc7 (allS (Or.inr sz_b6) all0)
    have Z7 : n0 ≤ T7.heap.size := Nat.le_trans Z6 Kc7.1
    have N7 := Fr.app N0 N7q
    refine OGo.st (fun _ k => st7.trans k) ?_
    show OGo p e below s _ _ _ (T7.setTop (mkF m 28 #[.val (.long q0), .second, .val (.int p1), .val (.long (q0 &&& (3 : Int64))), .second, .unset, .unset, .unset, .unset] [(.ref b6)]))
    refine OGo.st (fun _ k => XS.astore X7.here hx rfl (hb hby at_28) rfl rfl (l' := #[.val (.long q0), .second, .val (.int p1), .val (.long (q0 &&& (3 : Int64))), .second, .val (.ref b6), .unset, .unset, .unset]) rfl k) ?_
    show OGo p e below s _ _ _ (T7.setTop (mkF m 30 #[.val (.long q0), .second, .val (.int p1), .val (.long (q0 &&& (3 : Int64))), .second, .val (.ref b6), .unset, .unset, .unset] []))
    refine OGo.st (fun _ k => XS.aload X7.here hx rfl (hb hby at_30) rfl rfl k) ?_
    show OGo p e below s _ _ _ (T7.setTop (mkF m 32 #[.val (.long q0), .second, .val (.int p1), .val (.long (q0 &&& (3 : Int64))), .second, .val (.ref b6), .unset, .unset, .unset] [(.ref b6)]))
    refine OGo.st (fun _ k => XS.lconst X7.here hx rfl (hb hby at_32) k) ?_
    show OGo p e below s _ _ _ (T7.setTop (mkF m 33 #[.val (.long q0), .second, .val (.int p1), .val (.long (q0 &&& (3 : Int64))), .second, .val (.ref b6), .unset, .unset, .unset] [(.long (1 : Int64)), (.ref b6)]))
    refine OGo.st (fun _ k => XS.lloadN X7.here hx rfl (hb hby at_33) rfl k) ?_
    show OGo p e below s _ _ _ (T7.setTop (mkF m 34 #[.val (.long q0), .second, .val (.int p1), .val (.long (q0 &&& (3 : Int64))), .second, .val (.ref b6), .unset, .unset, .unset] [(.long (q0 &&& (3 : Int64))), (.long (1 : Int64)), (.ref b6)]))
    obtain ⟨_, _, ⟨T8, L8, k8, n8⟩, -, X8, ⟨Lc8, hQ8, l8, y8, z8⟩, st8⟩ := Jvm.LawKit.callS X7 hx (y := (⟨"com/example/pushout_bench/pushoutbench/matcher/EffortSpendPinLaw", "step", "(Lcom/example/pushout_bench/pushoutbench/matcher/Effort;JJ)Z"⟩ : MethodName)) hown (mvT hZ (hw _ (List.mem_of_getElem? (i := 12) rfl))) (mvT hZ (hw _ (List.mem_of_getElem? (i := 13) rfl))) (mvT hZ (hw _ (List.mem_of_getElem? (i := 14) rfl))) (mvT hZ (hw _ (List.mem_of_getElem? (i := 15) rfl))) (by decide) (backOf (W := 0) (rm3 l Z a0 hw [] b6 (1 : Int64) (q0 &&& (3 : Int64)) (q0 &&& (3 : Int64)) (0 : Int64) (0 : Int32) T7.heap n0 Z7 A6_w7 G7_0 G7_1 G7_2 g_b6) hZ (hw _ (List.mem_of_getElem? (i := 15) rfl)) (hw _ (List.mem_of_getElem? (i := 14) rfl)) (by decide) (by decide)) (g := (mkF m 34 #[.val (.long q0), .second, .val (.int p1), .val (.long (q0 &&& (3 : Int64))), .second, .val (.ref b6), .unset, .unset, .unset] [(.long (q0 &&& (3 : Int64))), (.long (1 : Int64)), (.ref b6)])) rfl (by rw [hml]; rfl) (argsL := [(.ref b6), (.long (1 : Int64)), (.long (q0 &&& (3 : Int64)))]) (rest := []) (lenOf pd_0_1 rfl) rfl (by show 2 * 0 + _ ≤ _; exact Nat.le_of_eq rfl) (hb hby at_34) (fun _ _ => ⟨rfl, rfl, (by decide : 1 + 0 ≤ _), (by decide : 3 + 0 ≤ _)⟩)
    dsimp only [Pt.U, Pt.locs, Pt.cells, Pt.slots] at X8 l8 y8 z8 st8 hQ8
    subst l8 y8 z8
    obtain ⟨rfl, N8q, Kc8, G8_0, G8_1, G8_2⟩ := hQ8
    have A6_w8 := A6_w7.keep Kc8
    have K8 : Keep h0 T8.heap [] := (K7).trans Kc8 (allS (Or.inr sz_b6) all0)
    have Z8 : n0 ≤ T8.heap.size := Nat.le_trans Z7 Kc8.1
    have N8 := Fr.app N7 N8q
    refine OGo.st st8 ?_
    show OGo p e below s _ _ _ (T8.setTop (mkF m 37 #[.val (.long q0), .second, .val (.int p1), .val (.long (q0 &&& (3 : Int64))), .second, .val (.ref b6), .unset, .unset, .unset] [(.int (f3 (1 : Int64) (q0 &&& (3 : Int64)) (q0 &&& (3 : Int64)) (0 : Int64) (0 : Int32)))]))
    refine OGo.st (fun _ k => XS.istore X8.here hx rfl (hb hby at_37) rfl (l' := #[.val (.long q0), .second, .val (.int p1), .val (.long (q0 &&& (3 : Int64))), .second, .val (.ref b6), .val (.int (v0_3 q0 p1)), .unset, .unset]) rfl k) ?_
    show OGo p e below s _ _ _ (T8.setTop (mkF m 39 #[.val (.long q0), .second, .val (.int p1), .val (.long (q0 &&& (3 : Int64))), .second, .val (.ref b6), .val (.int (v0_3 q0 p1)), .unset, .unset] []))
    refine OGo.st (fun _ k => XS.aload X8.here hx rfl (hb hby at_39) rfl rfl k) ?_
    show OGo p e below s _ _ _ (T8.setTop (mkF m 41 #[.val (.long q0), .second, .val (.int p1), .val (.long (q0 &&& (3 : Int64))), .second, .val (.ref b6), .val (.int (v0_3 q0 p1)), .unset, .unset] [(.ref b6)]))
    refine OGo.st (fun _ k => X8.ldc2Long hx hown (mvT hZ (hw _ (List.mem_of_getElem? (i := 39) rfl))) (g := (mkF m 41 #[.val (.long q0), .second, .val (.int p1), .val (.long (q0 &&& (3 : Int64))), .second, .val (.ref b6), .val (.int (v0_3 q0 p1)), .unset, .unset] [(.ref b6)])) rfl (hb hby at_41) _ k) ?_
    show OGo p e below s _ _ _ (T8.setTop (mkF m 44 #[.val (.long q0), .second, .val (.int p1), .val (.long (q0 &&& (3 : Int64))), .second, .val (.ref b6), .val (.int (v0_3 q0 p1)), .unset, .unset] [(.long (2 : Int64)), (.ref b6)]))
    refine OGo.st (fun _ k => XS.lloadN X8.here hx rfl (hb hby at_44) rfl k) ?_
    show OGo p e below s _ _ _ (T8.setTop (mkF m 45 #[.val (.long q0), .second, .val (.int p1), .val (.long (q0 &&& (3 : Int64))), .second, .val (.ref b6), .val (.int (v0_3 q0 p1)), .unset, .unset] [(.long (q0 &&& (3 : Int64))), (.long (2 : Int64)), (.ref b6)]))
    obtain ⟨_, _, ⟨T9, L9, k9, n9⟩, -, X9, ⟨Lc9, hQ9, l9, y9, z9⟩, st9⟩ := Jvm.LawKit.callS X8 hx (y := (⟨"com/example/pushout_bench/pushoutbench/matcher/EffortSpendPinLaw", "step", "(Lcom/example/pushout_bench/pushoutbench/matcher/Effort;JJ)Z"⟩ : MethodName)) hown (mvT hZ (hw _ (List.mem_of_getElem? (i := 12) rfl))) (mvT hZ (hw _ (List.mem_of_getElem? (i := 13) rfl))) (mvT hZ (hw _ (List.mem_of_getElem? (i := 14) rfl))) (mvT hZ (hw _ (List.mem_of_getElem? (i := 15) rfl))) (by decide) (backOf (W := 0) (rm3 l Z a0 hw [] b6 (2 : Int64) (q0 &&& (3 : Int64)) (q0 &&& (3 : Int64)) (f4a (q0 &&& (3 : Int64)) (0 : Int64) (0 : Int32)) (f4b (q0 &&& (3 : Int64)) (0 : Int64) (0 : Int32)) T8.heap n0 Z8 A6_w8 G8_0 G8_1 G8_2 g_b6) hZ (hw _ (List.mem_of_getElem? (i := 15) rfl)) (hw _ (List.mem_of_getElem? (i := 14) rfl)) (by decide) (by decide)) (g := (mkF m 45 #[.val (.long q0), .second, .val (.int p1), .val (.long (q0 &&& (3 : Int64))), .second, .val (.ref b6), .val (.int (v0_3 q0 p1)), .unset, .unset] [(.long (q0 &&& (3 : Int64))), (.long (2 : Int64)), (.ref b6)])) rfl (by rw [hml]; rfl) (argsL := [(.ref b6), (.long (2 : Int64)), (.long (q0 &&& (3 : Int64)))]) (rest := []) (lenOf pd_0_1 rfl) rfl (by show 2 * 0 + _ ≤ _; exact Nat.le_of_eq rfl) (hb hby at_45) (fun _ _ => ⟨rfl, rfl, (by decide : 1 + 0 ≤ _), (by decide : 3 + 0 ≤ _)⟩)
    dsimp only [Pt.U, Pt.locs, Pt.cells, Pt.slots] at X9 l9 y9 z9 st9 hQ9
    subst l9 y9 z9
    obtain ⟨rfl, N9q, Kc9, G9_0, G9_1, G9_2⟩ := hQ9
    have A6_w9 := A6_w8.keep Kc9
    have K9 : Keep h0 T9.heap [] := (K8).trans Kc9 (allS (Or.inr sz_b6) all0)
    have Z9 : n0 ≤ T9.heap.size := Nat.le_trans Z8 Kc9.1
    have N9 := Fr.app N8 N9q
    refine OGo.st st9 ?_
    show OGo p e below s _ _ _ (T9.setTop (mkF m 48 #[.val (.long q0), .second, .val (.int p1), .val (.long (q0 &&& (3 : Int64))), .second, .val (.ref b6), .val (.int (v0_3 q0 p1)), .unset, .unset] [(.int (f3 (2 : Int64) (q0 &&& (3 : Int64)) (q0 &&& (3 : Int64)) (f4a (q0 &&& (3 : Int64)) (0 : Int64) (0 : Int32)) (f4b (q0 &&& (3 : Int64)) (0 : Int64) (0 : Int32))))]))
    refine OGo.st (fun _ k => XS.istore X9.here hx rfl (hb hby at_48) rfl (l' := #[.val (.long q0), .second, .val (.int p1), .val (.long (q0 &&& (3 : Int64))), .second, .val (.ref b6), .val (.int (v0_3 q0 p1)), .val (.int (v0_4 q0 p1)), .unset]) rfl k) ?_
    show OGo p e below s _ _ _ (T9.setTop (mkF m 50 #[.val (.long q0), .second, .val (.int p1), .val (.long (q0 &&& (3 : Int64))), .second, .val (.ref b6), .val (.int (v0_3 q0 p1)), .val (.int (v0_4 q0 p1)), .unset] []))
    refine OGo.st (fun _ k => XS.aload X9.here hx rfl (hb hby at_50) rfl rfl k) ?_
    show OGo p e below s _ _ _ (T9.setTop (mkF m 52 #[.val (.long q0), .second, .val (.int p1), .val (.long (q0 &&& (3 : Int64))), .second, .val (.ref b6), .val (.int (v0_3 q0 p1)), .val (.int (v0_4 q0 p1)), .unset] [(.ref b6)]))
    refine OGo.st (fun _ k => X9.ldc2Long hx hown (mvT hZ (hw _ (List.mem_of_getElem? (i := 40) rfl))) (g := (mkF m 52 #[.val (.long q0), .second, .val (.int p1), .val (.long (q0 &&& (3 : Int64))), .second, .val (.ref b6), .val (.int (v0_3 q0 p1)), .val (.int (v0_4 q0 p1)), .unset] [(.ref b6)])) rfl (hb hby at_52) _ k) ?_
    show OGo p e below s _ _ _ (T9.setTop (mkF m 55 #[.val (.long q0), .second, .val (.int p1), .val (.long (q0 &&& (3 : Int64))), .second, .val (.ref b6), .val (.int (v0_3 q0 p1)), .val (.int (v0_4 q0 p1)), .unset] [(.long (3 : Int64)), (.ref b6)]))
    refine OGo.st (fun _ k => XS.lloadN X9.here hx rfl (hb hby at_55) rfl k) ?_
    show OGo p e below s _ _ _ (T9.setTop (mkF m 56 #[.val (.long q0), .second, .val (.int p1), .val (.long (q0 &&& (3 : Int64))), .second, .val (.ref b6), .val (.int (v0_3 q0 p1)), .val (.int (v0_4 q0 p1)), .unset] [(.long (q0 &&& (3 : Int64))), (.long (3 : Int64)), (.ref b6)]))
    obtain ⟨_, _, ⟨T10, L10, k10, n10⟩, -, X10, ⟨Lc10, hQ10, l10, y10, z10⟩, st10⟩ := Jvm.LawKit.callS X9 hx (y := (⟨"com/example/pushout_bench/pushoutbench/matcher/EffortSpendPinLaw", "step", "(Lcom/example/pushout_bench/pushoutbench/matcher/Effort;JJ)Z"⟩ : MethodName)) hown (mvT hZ (hw _ (List.mem_of_getElem? (i := 12) rfl))) (mvT hZ (hw _ (List.mem_of_getElem? (i := 13) rfl))) (mvT hZ (hw _ (List.mem_of_getElem? (i := 14) rfl))) (mvT hZ (hw _ (List.mem_of_getElem? (i := 15) rfl))) (by decide) (backOf (W := 0) (rm3 l Z a0 hw [] b6 (3 : Int64) (q0 &&& (3 : Int64)) (q0 &&& (3 : Int64)) (f4a (q0 &&& (3 : Int64)) (f4a (q0 &&& (3 : Int64)) (0 : Int64) (0 : Int32)) (f4b (q0 &&& (3 : Int64)) (0 : Int64) (0 : Int32))) (f4b (q0 &&& (3 : Int64)) (f4a (q0 &&& (3 : Int64)) (0 : Int64) (0 : Int32)) (f4b (q0 &&& (3 : Int64)) (0 : Int64) (0 : Int32))) T9.heap n0 Z9 A6_w9 G9_0 G9_1 G9_2 g_b6) hZ (hw _ (List.mem_of_getElem? (i := 15) rfl)) (hw _ (List.mem_of_getElem? (i := 14) rfl)) (by decide) (by decide)) (g := (mkF m 56 #[.val (.long q0), .second, .val (.int p1), .val (.long (q0 &&& (3 : Int64))), .second, .val (.ref b6), .val (.int (v0_3 q0 p1)), .val (.int (v0_4 q0 p1)), .unset] [(.long (q0 &&& (3 : Int64))), (.long (3 : Int64)), (.ref b6)])) rfl (by rw [hml]; rfl) (argsL := [(.ref b6), (.long (3 : Int64)), (.long (q0 &&& (3 : Int64)))]) (rest := []) (lenOf pd_0_1 rfl) rfl (by show 2 * 0 + _ ≤ _; exact Nat.le_of_eq rfl) (hb hby at_56) (fun _ _ => ⟨rfl, rfl, (by decide : 1 + 0 ≤ _), (by decide : 3 + 0 ≤ _)⟩)
    dsimp only [Pt.U, Pt.locs, Pt.cells, Pt.slots] at X10 l10 y10 z10 st10 hQ10
    subst l10 y10 z10
    obtain ⟨rfl, N10q, Kc10, G10_0, G10_1, G10_2⟩ := hQ10
    have A6_w10 := A6_w9.keep Kc10
    have K10 : Keep h0 T10.heap [] := (K9).trans Kc10 (allS (Or.inr sz_b6) all0)
    have Z10 : n0 ≤ T10.heap.size := Nat.le_trans Z9 Kc10.1
    have N10 := Fr.app N9 N10q
    refine OGo.st st10 ?_
    show OGo p e below s _ _ _ (T10.setTop (mkF m 59 #[.val (.long q0), .second, .val (.int p1), .val (.long (q0 &&& (3 : Int64))), .second, .val (.ref b6), .val (.int (v0_3 q0 p1)), .val (.int (v0_4 q0 p1)), .unset] [(.int (f3 (3 : Int64) (q0 &&& (3 : Int64)) (q0 &&& (3 : Int64)) (f4a (q0 &&& (3 : Int64)) (f4a (q0 &&& (3 : Int64)) (0 : Int64) (0 : Int32)) (f4b (q0 &&& (3 : Int64)) (0 : Int64) (0 : Int32))) (f4b (q0 &&& (3 : Int64)) (f4a (q0 &&& (3 : Int64)) (0 : Int64) (0 : Int32)) (f4b (q0 &&& (3 : Int64)) (0 : Int64) (0 : Int32)))))]))
    refine OGo.st (fun _ k => XS.istore X10.here hx rfl (hb hby at_59) rfl (l' := #[.val (.long q0), .second, .val (.int p1), .val (.long (q0 &&& (3 : Int64))), .second, .val (.ref b6), .val (.int (v0_3 q0 p1)), .val (.int (v0_4 q0 p1)), .val (.int (v0_5 q0 p1))]) rfl k) ?_
    show OGo p e below s _ _ _ (T10.setTop (mkF m 61 #[.val (.long q0), .second, .val (.int p1), .val (.long (q0 &&& (3 : Int64))), .second, .val (.ref b6), .val (.int (v0_3 q0 p1)), .val (.int (v0_4 q0 p1)), .val (.int (v0_5 q0 p1))] []))
    refine OGo.st (fun _ k => XS.iload X10.here hx rfl (hb hby at_61) rfl k) ?_
    show OGo p e below s _ _ _ (T10.setTop (mkF m 63 #[.val (.long q0), .second, .val (.int p1), .val (.long (q0 &&& (3 : Int64))), .second, .val (.ref b6), .val (.int (v0_3 q0 p1)), .val (.int (v0_4 q0 p1)), .val (.int (v0_5 q0 p1))] [(.int (v0_3 q0 p1))]))
    by_cases hc63 : (v0_3 q0 p1) = (0 : Int32)
    · refine OGo.st (fun _ k => XS.ifYes X10.here hx rfl (pc0 := 63) (pc' := 80) rfl (hb hby at_63) rfl ((if0 _ _).trans (teq hc63).1) (by decide) (by decide) k) ?_
      show OGo p e below s _ _ _ (T10.setTop (mkF m 80 #[.val (.long q0), .second, .val (.int p1), .val (.long (q0 &&& (3 : Int64))), .second, .val (.ref b6), .val (.int (v0_3 q0 p1)), .val (.int (v0_4 q0 p1)), .val (.int (v0_5 q0 p1))] []))
      refine OGo.st (fun _ k => XS.iconst X10.here hx rfl (hb hby at_80) k) ?_
      show OGo p e below s _ _ _ (T10.setTop (mkF m 81 #[.val (.long q0), .second, .val (.int p1), .val (.long (q0 &&& (3 : Int64))), .second, .val (.ref b6), .val (.int (v0_3 q0 p1)), .val (.int (v0_4 q0 p1)), .val (.int (v0_5 q0 p1))] [(.int (0 : Int32))]))
      exact oretN X10 hx Bd.notSynchronized (t := .boolean) Bd.returns (by simp) (hb hby at_81) (z' := (0 : Int32)) (by decide) rfl ⟨(congrArg (fun z => some (Value.int z)) (show (0 : Int32) = f0 q0 p1 from Eq.symm (by unfold f0; exact (if_neg hc3).trans (if_pos hc63)))), N10⟩ (by decide) (by decide)
    · refine OGo.st (fun _ k => XS.ifNo X10.here hx rfl (hb hby at_63) rfl ((if0 _ _).trans (feq hc63).1) k) ?_
      show OGo p e below s _ _ _ (T10.setTop (mkF m 66 #[.val (.long q0), .second, .val (.int p1), .val (.long (q0 &&& (3 : Int64))), .second, .val (.ref b6), .val (.int (v0_3 q0 p1)), .val (.int (v0_4 q0 p1)), .val (.int (v0_5 q0 p1))] []))
      refine OGo.st (fun _ k => XS.iload X10.here hx rfl (hb hby at_66) rfl k) ?_
      show OGo p e below s _ _ _ (T10.setTop (mkF m 68 #[.val (.long q0), .second, .val (.int p1), .val (.long (q0 &&& (3 : Int64))), .second, .val (.ref b6), .val (.int (v0_3 q0 p1)), .val (.int (v0_4 q0 p1)), .val (.int (v0_5 q0 p1))] [(.int (v0_4 q0 p1))]))
      by_cases hc68 : (v0_4 q0 p1) = (0 : Int32)
      · refine OGo.st (fun _ k => XS.ifYes X10.here hx rfl (pc0 := 68) (pc' := 80) rfl (hb hby at_68) rfl ((if0 _ _).trans (teq hc68).1) (by decide) (by decide) k) ?_
        show OGo p e below s _ _ _ (T10.setTop (mkF m 80 #[.val (.long q0), .second, .val (.int p1), .val (.long (q0 &&& (3 : Int64))), .second, .val (.ref b6), .val (.int (v0_3 q0 p1)), .val (.int (v0_4 q0 p1)), .val (.int (v0_5 q0 p1))] []))
        refine OGo.st (fun _ k => XS.iconst X10.here hx rfl (hb hby at_80) k) ?_
        show OGo p e below s _ _ _ (T10.setTop (mkF m 81 #[.val (.long q0), .second, .val (.int p1), .val (.long (q0 &&& (3 : Int64))), .second, .val (.ref b6), .val (.int (v0_3 q0 p1)), .val (.int (v0_4 q0 p1)), .val (.int (v0_5 q0 p1))] [(.int (0 : Int32))]))
        exact oretN X10 hx Bd.notSynchronized (t := .boolean) Bd.returns (by simp) (hb hby at_81) (z' := (0 : Int32)) (by decide) rfl ⟨(congrArg (fun z => some (Value.int z)) (show (0 : Int32) = f0 q0 p1 from Eq.symm (by unfold f0; exact (if_neg hc3).trans ((if_neg hc63).trans (if_pos hc68))))), N10⟩ (by decide) (by decide)
      · refine OGo.st (fun _ k => XS.ifNo X10.here hx rfl (hb hby at_68) rfl ((if0 _ _).trans (feq hc68).1) k) ?_
        show OGo p e below s _ _ _ (T10.setTop (mkF m 71 #[.val (.long q0), .second, .val (.int p1), .val (.long (q0 &&& (3 : Int64))), .second, .val (.ref b6), .val (.int (v0_3 q0 p1)), .val (.int (v0_4 q0 p1)), .val (.int (v0_5 q0 p1))] []))
        refine OGo.st (fun _ k => XS.iload X10.here hx rfl (hb hby at_71) rfl k) ?_
        show OGo p e below s _ _ _ (T10.setTop (mkF m 73 #[.val (.long q0), .second, .val (.int p1), .val (.long (q0 &&& (3 : Int64))), .second, .val (.ref b6), .val (.int (v0_3 q0 p1)), .val (.int (v0_4 q0 p1)), .val (.int (v0_5 q0 p1))] [(.int (v0_5 q0 p1))]))
        by_cases hc73 : (v0_5 q0 p1) = (0 : Int32)
        · refine OGo.st (fun _ k => XS.ifYes X10.here hx rfl (pc0 := 73) (pc' := 80) rfl (hb hby at_73) rfl ((if0 _ _).trans (teq hc73).1) (by decide) (by decide) k) ?_
          show OGo p e below s _ _ _ (T10.setTop (mkF m 80 #[.val (.long q0), .second, .val (.int p1), .val (.long (q0 &&& (3 : Int64))), .second, .val (.ref b6), .val (.int (v0_3 q0 p1)), .val (.int (v0_4 q0 p1)), .val (.int (v0_5 q0 p1))] []))
          refine OGo.st (fun _ k => XS.iconst X10.here hx rfl (hb hby at_80) k) ?_
          show OGo p e below s _ _ _ (T10.setTop (mkF m 81 #[.val (.long q0), .second, .val (.int p1), .val (.long (q0 &&& (3 : Int64))), .second, .val (.ref b6), .val (.int (v0_3 q0 p1)), .val (.int (v0_4 q0 p1)), .val (.int (v0_5 q0 p1))] [(.int (0 : Int32))]))
          exact oretN X10 hx Bd.notSynchronized (t := .boolean) Bd.returns (by simp) (hb hby at_81) (z' := (0 : Int32)) (by decide) rfl ⟨(congrArg (fun z => some (Value.int z)) (show (0 : Int32) = f0 q0 p1 from Eq.symm (by unfold f0; exact (if_neg hc3).trans ((if_neg hc63).trans ((if_neg hc68).trans (if_pos hc73)))))), N10⟩ (by decide) (by decide)
        · refine OGo.st (fun _ k => XS.ifNo X10.here hx rfl (hb hby at_73) rfl ((if0 _ _).trans (feq hc73).1) k) ?_
          show OGo p e below s _ _ _ (T10.setTop (mkF m 76 #[.val (.long q0), .second, .val (.int p1), .val (.long (q0 &&& (3 : Int64))), .second, .val (.ref b6), .val (.int (v0_3 q0 p1)), .val (.int (v0_4 q0 p1)), .val (.int (v0_5 q0 p1))] []))
          refine OGo.st (fun _ k => XS.iconst X10.here hx rfl (hb hby at_76) k) ?_
          show OGo p e below s _ _ _ (T10.setTop (mkF m 77 #[.val (.long q0), .second, .val (.int p1), .val (.long (q0 &&& (3 : Int64))), .second, .val (.ref b6), .val (.int (v0_3 q0 p1)), .val (.int (v0_4 q0 p1)), .val (.int (v0_5 q0 p1))] [(.int (1 : Int32))]))
          refine OGo.st (fun _ k => XS.goto X10.here hx rfl (pc0 := 77) (pc' := 81) rfl (hb hby at_77) (by decide) (by decide) k) ?_
          show OGo p e below s _ _ _ (T10.setTop (mkF m 81 #[.val (.long q0), .second, .val (.int p1), .val (.long (q0 &&& (3 : Int64))), .second, .val (.ref b6), .val (.int (v0_3 q0 p1)), .val (.int (v0_4 q0 p1)), .val (.int (v0_5 q0 p1))] [(.int (1 : Int32))]))
          exact oretN X10 hx Bd.notSynchronized (t := .boolean) Bd.returns (by simp) (hb hby at_81) (z' := (1 : Int32)) (by decide) rfl ⟨(congrArg (fun z => some (Value.int z)) (show (1 : Int32) = f0 q0 p1 from Eq.symm (by unfold f0; exact (if_neg hc3).trans ((if_neg hc63).trans ((if_neg hc68).trans (if_neg hc73)))))), N10⟩ (by decide) (by decide)
theorem own_steps (L : Int64) (h : ¬ L < 0) : f3 1 L L 0 0 = 1 ∧ f3 2 L L (f4a L 0 0) (f4b L 0 0) = 1 ∧ f3 3 L L (f4a L (f4a L 0 0) (f4b L 0 0)) (f4b L (f4a L 0 0) (f4b L 0 0)) = 1 := by
  by_cases h0 : L = 0
  · subst h0; decide
  by_cases h1 : L = 1
  · subst h1; decide
  by_cases h2 : L = 2
  · subst h2; decide
  have k0 : (0 : Int64).toInt = 0 := by decide
  have k1 : (1 : Int64).toInt = 1 := by decide
  have k2 : (2 : Int64).toInt = 2 := by decide
  have k3 : (3 : Int64).toInt = 3 := by decide
  have a1 : ¬ L < 1 := by simp only [Int64.lt_iff_toInt_lt, ← Int64.toInt_inj, k0, k1, k2] at *; omega
  have a2 : ¬ L < 2 := by simp only [Int64.lt_iff_toInt_lt, ← Int64.toInt_inj, k0, k1, k2] at *; omega
  have a3 : ¬ L < 3 := by simp only [Int64.lt_iff_toInt_lt, ← Int64.toInt_inj, k0, k1, k2, k3] at *; omega
  have s2 : (1 : Int64) + 1 = 2 := by decide
  have s3 : (2 : Int64) + 1 = 3 := by decide
  have n0 : nar .boolean 0 = 0 := by decide
  unfold f3 f3_31 f3_58 f4 f4a f4b f5 f6 f7
  simp [Ne.symm h0, Ne.symm h1, Ne.symm h2, h0, h1, h2, a1, a2, a3, s2, s3, n0]
theorem own_plain (q0 : Int64) (p1 : Int32) : f0 q0 p1 = 1 := by
  obtain ⟨a1, a2, a3⟩ := own_steps _ (own_nn3 q0)
  obtain ⟨b1, b2, b3⟩ := own_steps _ (own_nnM q0)
  unfold f0 v0_0 v0_1 v0_2 v0_3 v0_4 v0_5
  rw [a1, a2, a3, b1, b2, b3]; simp
set_option maxRecDepth 65536 in
set_option maxHeartbeats 40000000 in
theorem comes_1 {Post : Tables → Env → Array Value → State → Outcome → State → Prop} (hpost : ∀ tb e args s v u, (limb_1_1.after args s (.returned v) u = true ∧ limb_1_2.after args s (.returned v) u = true ∧ True) → FrameEnd s (.returned v) u (Jvm.fieldLocs frame_1_writes args s ++ Jvm.arrayLocs frame_1_arrays args s ++ Jvm.staticLocs frame_1_statics s) 16 128 → Post tb e args s (.returned v) u) :
    ArmFor flags0 classFile x code maxLocals ret World_1 tables_1 room_1 Calls_1 rest_1 Pre_1 Post := by
  intro l hfl _ _ p e ha hc hk s m args below hf hA hF happ hP
  obtain ⟨hcalls, hrest, hpre⟩ := hP
  obtain ⟨-, -, -, hnamed, -, -, -, hat⟩ := (Spec.applies_iff hf).mp happ
  obtain ⟨hg, hn⟩ := and_e (Cond.before_iff.mp (show (Jvm.Cond.and given_1 narrow_1).before args s = true from hpre))
  obtain ⟨gv1, gv2⟩ := and_e hg
  obtain ⟨gv3, gv4⟩ := and_e gv2
  obtain ⟨w0, w1, rfl⟩ : ∃ w0 w1 : Value, args = #[w0, w1] := by
    have hs : args.size = 2 := by simpa [Cond.value, given_1] using gv1
    obtain ⟨L⟩ := args
    match L, hs with
    | [w0, w1], _ => exact ⟨w0, w1, rfl⟩
  have hw := fun d (hd : d ∈ tables_1) => atoms_spec (ws := Jvm.Cond.code x code maxLocals ret :: tables_1) hat d (List.mem_cons_of_mem _ hd)
  have hfit : Fit s := fun {y c} hc i hi => by
    obtain ⟨ha, rfl⟩ := Array.getElem?_eq_some_iff.mp hc
    have q := List.all_eq_true.mp ((Array.all_eq_true_iff_forall_mem.mp hF) _ (Array.getElem_mem ha)) i (List.mem_range.mpr hi)
    simpa [Array.getElem?_eq_getElem hi] using q
  obtain ⟨i0, ei0⟩ := isL_v gv3
  obtain rfl : w0 = (.long i0) := Option.some.inj ei0
  obtain ⟨i1, ei1⟩ := is_v gv4
  obtain rfl : w1 = (.int i1) := Option.some.inj ei1
  have hpl := own_plain i0 i1
  obtain ⟨n, o, h1, h2, h3, _, L, rfl, ⟨rfl, N⟩, hq⟩ := rm0 l s _ hw tables_1 i0 i1 s.heap s.heap.size (Nat.le_refl _) p e ha hc hk s m _ below hf ((Spec.applies_iff_loose hf).mp happ).1 ⟨rfl, State.Warmed39.refl s, rfl⟩ trivial
  refine ⟨n, _, h1, h2, h3, hpost _ _ _ _ _ _ ⟨Cond.after_iff.mpr rfl, Cond.after_iff.mpr (eq_i res_at (Term.int_eval (1)) (congrArg Value.int hpl)), trivial⟩ ⟨hq.1, hq.2.1, (hq.2.2.sift fun y hy => Or.inr (N y hy)).mono (by decide) (by decide)⟩⟩
theorem main_1_1 : Claimed_1_1 := comes_1 fun _ _ _ _ _ _ h hF => ⟨h.1, hF⟩
theorem main_1_2 : Claimed_1_2 := comes_1 fun _ _ _ _ _ _ h hF => ⟨h.2.1, hF⟩
end Jvm.Pilot.@@N@@
namespace Jvm.Pilot.@@N@@
open Jvm Jvm.ClassFile Sem Op Lib Jvm.Free Jvm.Stand Jvm.Pilot.@@N@@.Jvm.D
/-! MADE BY PROGRAM (witnessworld.py) out of the Statement's table words and the real class files: 10 classes; the members and pool entries that the words name. The judged class is class 1, her method 2. -/
namespace start1
open Jvm.ClassFile
def u (s : String) : CpInfo := .utf8 (stringToUtf16 s)
/-- a pool by its gaps: so many unusable entries, then the entry; so many at the end -/
def gap : Nat → List CpInfo → List CpInfo
  | 0, r => r
  | n + 1, r => .unusable :: gap n r
def poolList (es : List (Nat × CpInfo)) (last : Nat) : List CpInfo := es.foldr (fun e r => gap e.1 (e.2 :: r)) (gap last [])
def pool (es : List (Nat × CpInfo)) (last : Nat) : Array CpInfo := ⟨poolList es last⟩
def fileOf (pool : Array CpInfo) (this : Nat) (attrs : Array Attribute := #[]) (ms : Array MethodInfo := #[]) (fl : Nat := 33) (sup : Nat := 0) (ifs : Array Nat := #[]) (fds : Array FieldInfo := #[]) : ClassFile where
  minorVersion := 0
  majorVersion := 65
  constantPool := pool
  accessFlags := fl
  thisClass := this
  superClass := sup
  interfaces := ifs
  fields := fds
  methods := ms
  attributes := attrs
def plain (name : String) (sup : Option ClassId) : Class where
  name := name
  kind := .ordinary
  loader := none
  accessFlags := 33
  super := sup
  interfaces := #[]
  cf := none
  fields := #[]
  methods := #[]
  instanceTypes := #[]
  staticTypes := #[]
  resolved := #[]
  callSites := []
  init := .initialized
  statics := none
  mirror := none

def pool0 : Array CpInfo := pool [(5, u "<init>"), (0, u "()V"), (1, .class_ 10), (1, u "java/lang/Object")] 113

def k0c0 : Code := { maxStack := 0, maxLocals := 1, code := object_method_1_code, exceptionTable := #[], attributes := #[] }
def k0m0 : Method := { name := "<init>", desc := "()V", sig := { parameters := [], returnType := none }, accessFlags := 1, code := some k0c0 }
/-- java/lang/Object -/
def k0 : Class := { plain "java/lang/Object" none with
  accessFlags := 33
  interfaces := #[]
  cf := some (fileOf pool0 8 #[] #[{ accessFlags := 1, nameIndex := 5, descriptorIndex := 6, attributes := #[] }] 33 0 #[] #[])
  fields := #[]
  methods := #[k0m0]
  instanceTypes := #[]
  staticTypes := #[]
  resolved := Array.replicate 124 none
  statics := none }

def pool1 : Array CpInfo := pool [(2, .class_ 4), (1, u "java/lang/Object"), (0, u "<init>"), (0, u "()V"), (0, .methodref 8 9), (0, .class_ 10), (0, .nameAndType 11 12), (0, u "com/example/pushout_bench/pushoutbench/matcher/Effort"), (0, u "spend"), (0, u "()Z"), (0, .methodref 8 14), (0, .nameAndType 15 16), (0, u "spent"), (0, u "()J"), (0, .methodref 8 18), (0, .nameAndType 19 12), (0, u "ranOut"), (0, .methodref 21 22), (0, .class_ 23), (0, .nameAndType 24 25), (0, u "java/lang/Math"), (0, u "min"), (0, u "(JJ)J"), (0, .long 3), (3, .long 9223372036854775807), (1, .methodref 8 33), (0, .nameAndType 5 34), (0, u "(J)V"), (0, .methodref 36 37), (0, .class_ 38), (0, .nameAndType 39 40), (0, u "com/example/pushout_bench/pushoutbench/matcher/EffortSpendPinLaw"), (0, u "step"), (0, u "(Lcom/example/pushout_bench/pushoutbench/matcher/Effort;JJ)Z"), (0, .long 2), (4, u "law"), (0, u "(JI)Z")] 2

def k1m0 : Method := { name := "<init>", desc := "()V", sig := { parameters := [], returnType := none }, accessFlags := 2, code := none }
def k1c1 : Code := { maxStack := 6, maxLocals := 9, code := method_2_code, exceptionTable := #[], attributes := #[] }
def k1m1 : Method := { name := "step", desc := "(Lcom/example/pushout_bench/pushoutbench/matcher/Effort;JJ)Z", sig := { parameters := [(.object "com/example/pushout_bench/pushoutbench/matcher/Effort"), .long, .long], returnType := some .boolean }, accessFlags := 10, code := some k1c1 }
def k1c2 : Code := { maxStack := 5, maxLocals := 9, code := code, exceptionTable := #[], attributes := #[] }
def k1m2 : Method := { name := "law", desc := "(JI)Z", sig := { parameters := [.long, .int], returnType := some .boolean }, accessFlags := 9, code := some k1c2 }
/-- com/example/pushout_bench/pushoutbench/matcher/EffortSpendPinLaw -/
def k1 : Class := { plain "com/example/pushout_bench/pushoutbench/matcher/EffortSpendPinLaw" (some 0) with
  accessFlags := 49
  interfaces := #[]
  cf := some (fileOf pool1 36 #[] #[{ accessFlags := 2, nameIndex := 5, descriptorIndex := 6, attributes := #[] }, { accessFlags := 10, nameIndex := 39, descriptorIndex := 40, attributes := #[] }, { accessFlags := 9, nameIndex := 46, descriptorIndex := 47, attributes := #[] }] 49 2 #[] #[])
  fields := #[]
  methods := #[k1m0, k1m1, k1m2]
  instanceTypes := #[]
  staticTypes := #[]
  resolved := Array.replicate 50 none
  statics := none }

def pool2 : Array CpInfo := pool [(1, .methodref 2 3), (0, .class_ 4), (0, .nameAndType 5 6), (0, u "java/lang/Object"), (0, u "<init>"), (0, u "()V"), (9, .fieldref 17 18), (0, .class_ 19), (0, .nameAndType 20 21), (0, u "com/example/pushout_bench/pushoutbench/matcher/Effort"), (0, u "limit"), (0, u "J"), (6, u "(J)V"), (0, .fieldref 17 30), (0, .nameAndType 31 21), (0, u "spent"), (0, .fieldref 17 33), (0, .nameAndType 34 35), (0, u "ranOut"), (0, u "Z"), (5, u "()J"), (0, u "()Z"), (0, u "spend")] 17

def k2c0 : Code := { maxStack := 4, maxLocals := 3, code := prog_72_method_1_code, exceptionTable := #[], attributes := #[] }
def k2m0 : Method := { name := "<init>", desc := "(J)V", sig := { parameters := [.long], returnType := none }, accessFlags := 1, code := some k2c0 }
def k2c1 : Code := { maxStack := 2, maxLocals := 1, code := prog_72_method_3_code, exceptionTable := #[], attributes := #[] }
def k2m1 : Method := { name := "spent", desc := "()J", sig := { parameters := [], returnType := some .long }, accessFlags := 1, code := some k2c1 }
def k2c2 : Code := { maxStack := 1, maxLocals := 1, code := prog_72_method_4_code, exceptionTable := #[], attributes := #[] }
def k2m2 : Method := { name := "ranOut", desc := "()Z", sig := { parameters := [], returnType := some .boolean }, accessFlags := 1, code := some k2c2 }
def k2c3 : Code := { maxStack := 5, maxLocals := 1, code := prog_72_method_5_code, exceptionTable := #[], attributes := #[] }
def k2m3 : Method := { name := "spend", desc := "()Z", sig := { parameters := [], returnType := some .boolean }, accessFlags := 0, code := some k2c3 }
/-- com/example/pushout_bench/pushoutbench/matcher/Effort -/
def k2 : Class := { plain "com/example/pushout_bench/pushoutbench/matcher/Effort" (some 0) with
  accessFlags := 49
  interfaces := #[]
  cf := some (fileOf pool2 17 #[] #[{ accessFlags := 1, nameIndex := 5, descriptorIndex := 28, attributes := #[] }, { accessFlags := 1, nameIndex := 31, descriptorIndex := 41, attributes := #[] }, { accessFlags := 1, nameIndex := 34, descriptorIndex := 42, attributes := #[] }, { accessFlags := 0, nameIndex := 43, descriptorIndex := 42, attributes := #[] }] 49 2 #[] #[{ accessFlags := 18, nameIndex := 20, descriptorIndex := 21, attributes := #[] }, { accessFlags := 2, nameIndex := 31, descriptorIndex := 21, attributes := #[] }, { accessFlags := 2, nameIndex := 34, descriptorIndex := 35, attributes := #[] }])
  fields := #[{ name := "limit", type := .long, accessFlags := 18, slot := 0, constantValue := 0 }, { name := "spent", type := .long, accessFlags := 2, slot := 1, constantValue := 0 }, { name := "ranOut", type := .boolean, accessFlags := 2, slot := 2, constantValue := 0 }]
  methods := #[k2m0, k2m1, k2m2, k2m3]
  instanceTypes := #[.long, .long, .boolean]
  staticTypes := #[]
  resolved := Array.replicate 61 none
  statics := none }

def pool3 : Array CpInfo := pool [(1, .class_ 2), (0, u "java/lang/Math"), (1, .class_ 6), (1, u "java/lang/Object"), (0, u "<init>"), (0, u "()V"), (89, .class_ 100), (1, u "java/lang/Math$RandomNumberGeneratorHolder"), (20, u "(JJ)J"), (50, u "negativeZeroFloatBits"), (0, u "J"), (2, u "negativeZeroDoubleBits"), (24, u "min"), (43, u "$assertionsDisabled"), (0, u "Z"), (91, u "twoToTheDoubleScaleDown"), (0, u "D"), (4, u "twoToTheDoubleScaleUp"), (9, u "E"), (3, u "PI"), (2, u "TAU"), (2, u "DEGREES_TO_RADIANS"), (0, u "RADIANS_TO_DEGREES")] 94

def k3m0 : Method := { name := "<init>", desc := "()V", sig := { parameters := [], returnType := none }, accessFlags := 2, code := none }
def k3c1 : Code := { maxStack := 4, maxLocals := 4, code := jdk_29_method_70_code, exceptionTable := #[], attributes := #[] }
def k3m1 : Method := { name := "min", desc := "(JJ)J", sig := { parameters := [.long, .long], returnType := some .long }, accessFlags := 9, code := some k3c1 }
/-- java/lang/Math -/
def k3 : Class := { plain "java/lang/Math" (some 0) with
  accessFlags := 49
  interfaces := #[]
  cf := some (fileOf pool3 1 #[.nestMembers #[98]] #[{ accessFlags := 2, nameIndex := 7, descriptorIndex := 8, attributes := #[] }, { accessFlags := 9, nameIndex := 201, descriptorIndex := 121, attributes := #[] }] 49 4 #[] #[{ accessFlags := 25, nameIndex := 354, descriptorIndex := 339, attributes := #[] }, { accessFlags := 25, nameIndex := 358, descriptorIndex := 339, attributes := #[] }, { accessFlags := 25, nameIndex := 361, descriptorIndex := 339, attributes := #[] }, { accessFlags := 26, nameIndex := 364, descriptorIndex := 339, attributes := #[] }, { accessFlags := 26, nameIndex := 365, descriptorIndex := 339, attributes := #[] }, { accessFlags := 26, nameIndex := 172, descriptorIndex := 173, attributes := #[] }, { accessFlags := 26, nameIndex := 176, descriptorIndex := 173, attributes := #[] }, { accessFlags := 8, nameIndex := 344, descriptorIndex := 339, attributes := #[] }, { accessFlags := 8, nameIndex := 338, descriptorIndex := 339, attributes := #[] }, { accessFlags := 4120, nameIndex := 245, descriptorIndex := 246, attributes := #[] }])
  fields := #[{ name := "E", type := .double, accessFlags := 25, slot := 0, constantValue := 0 }, { name := "PI", type := .double, accessFlags := 25, slot := 1, constantValue := 0 }, { name := "TAU", type := .double, accessFlags := 25, slot := 2, constantValue := 0 }, { name := "DEGREES_TO_RADIANS", type := .double, accessFlags := 26, slot := 3, constantValue := 0 }, { name := "RADIANS_TO_DEGREES", type := .double, accessFlags := 26, slot := 4, constantValue := 0 }, { name := "negativeZeroFloatBits", type := .long, accessFlags := 26, slot := 5, constantValue := 0 }, { name := "negativeZeroDoubleBits", type := .long, accessFlags := 26, slot := 6, constantValue := 0 }, { name := "twoToTheDoubleScaleUp", type := .double, accessFlags := 8, slot := 7, constantValue := 0 }, { name := "twoToTheDoubleScaleDown", type := .double, accessFlags := 8, slot := 8, constantValue := 0 }, { name := "$assertionsDisabled", type := .boolean, accessFlags := 4120, slot := 9, constantValue := 0 }]
  methods := #[k3m0, k3m1]
  instanceTypes := #[]
  staticTypes := #[.double, .double, .double, .double, .double, .long, .long, .double, .double, .boolean]
  resolved := Array.replicate 460 none
  statics := none }

def pool4 : Array CpInfo := pool [(1, u "java/lang/Cloneable"), (0, .class_ 1), (0, u "java/lang/Object"), (0, .class_ 3)] 3

/-- java/lang/Cloneable -/
def k4 : Class := { plain "java/lang/Cloneable" (some 0) with
  accessFlags := 1537
  interfaces := #[]
  cf := some (fileOf pool4 2 #[] #[] 1537 4 #[] #[])
  fields := #[]
  methods := #[]
  instanceTypes := #[]
  staticTypes := #[]
  resolved := Array.replicate 8 none
  statics := none }

def pool5 : Array CpInfo := pool [(1, u "java/io/Serializable"), (0, .class_ 1), (0, u "java/lang/Object"), (0, .class_ 3)] 3

/-- java/io/Serializable -/
def k5 : Class := { plain "java/io/Serializable" (some 0) with
  accessFlags := 1537
  interfaces := #[]
  cf := some (fileOf pool5 2 #[] #[] 1537 4 #[] #[])
  fields := #[]
  methods := #[]
  instanceTypes := #[]
  staticTypes := #[]
  resolved := Array.replicate 8 none
  statics := none }

/-- the primitive byte -/
def k6 : Class := { plain "byte" none with kind := .primitive 'B', accessFlags := 0x411 }
/-- [B -/
def k7 : Class := { plain "[B" (some 0) with kind := .array 6 .byte, interfaces := #[4, 5], accessFlags := 1041 }

/-- the primitive int -/
def k8 : Class := { plain "int" none with kind := .primitive 'I', accessFlags := 0x411 }
/-- [I -/
def k9 : Class := { plain "[I" (some 0) with kind := .array 8 .int, interfaces := #[4, 5], accessFlags := 1041 }

def heap : Heap := #[]
def classes : Array Class := #[k0, k1, k2, k3, k4, k5, k6, k7, k8, k9]
def interned : List (Array UInt16 × Addr) := []
def slotsUsed : Nat := 0
def theMethod : MethodId := ⟨1, 2⟩
def args0 : Array Value := #[.long 5, .int 7]
def aboutOver (below : List Frame) : State where
  vm := { classes := classes, interned := interned.toArray }
  heap := heap
  slotsUsed := slotsUsed
  threads := #[{ frames := .invoking theMethod args0 :: below }]
def below0 : List Frame := [.native { method := ⟨0, 0⟩, args := #[] }]
def about1 : State := aboutOver below0
def p0 : Program := .bare "" "" ""
def e0 : Env := launch0.env 0 0 0
theorem w_frames : about1.frames = Frame.invoking theMethod args0 :: below0 := rfl
set_option maxRecDepth 65536 in
theorem w_args : argsFit about1.vm theMethod args0 = true := by decide +kernel
set_option maxRecDepth 65536 in
theorem w_heap : heapFits about1 = true := by decide +kernel
set_option maxRecDepth 65536 in
theorem w_runnable : about1.curStatus? = some .runnable := by decide +kernel
set_option maxRecDepth 65536 in
theorem w_alone : about1.alone = true := by decide +kernel
set_option maxRecDepth 65536 in
theorem w_named : about1.methodNamed? x = some theMethod := by decide +kernel
set_option maxRecDepth 65536 in
theorem w_hears : about1.hears theMethod below0 = true := by decide +kernel
set_option maxRecDepth 65536 in
theorem w_ripe : about1.ripe theMethod args0 below0 = true := by decide +kernel
theorem w_running : about1.status = .running := rfl
set_option maxRecDepth 65536 in
theorem w_room : about1.hasRoom e0.platform room_1 = true :=
  launch0.hasRoom_least _ room_1 (by decide +kernel) (by decide +kernel) (by decide +kernel) (by decide +kernel) (by decide +kernel) (by decide +kernel)
theorem allAtoms_all (ts : List Jvm.Cond) (a : Array Jvm.Value) (st : Jvm.State) : (allAtoms ts).before a st = ts.all (fun c => c.before a st) := by
  induction ts with
  | nil => rfl
  | cons c t ih =>
    show (Jvm.Cond.and c (allAtoms t)).before a st = _
    rw [Jvm.Cond.before_and, ih, List.all_cons]
def words1 : List Jvm.Cond := Jvm.Cond.code x code maxLocals ret :: tables_1
/-- a 'code' word, met by the world's own term for the bytes: nothing is compared byte by byte -/
theorem code_word {y : MethodName} {bytes : ByteArray} {mx : Nat} {rt : Option FieldType} {a : Array Value} {s : State} {m : MethodId} {meth : Method} {c : Code} (h1 : s.methodNamed? y = some m) (h2 : s.vm.method? m = some meth) (h3 : meth.code = some c) (h4 : c.code = bytes)
    (h5 : (c.maxLocals == mx && c.exceptionTable.isEmpty && decide (c.maxStack ≤ mostOperands) && decide (meth.sig.returnType = rt) && !meth.locks && decide (parseMethodDescriptor y.desc = some meth.sig)) = true) : (Jvm.Cond.code y bytes mx rt).before a s = true := by
  simp only [Bool.and_eq_true, beq_iff_eq, Bool.not_eq_true', decide_eq_true_eq] at h5
  obtain ⟨⟨⟨⟨⟨g1, g2⟩, g3⟩, g4⟩, g5⟩, g6⟩ := h5
  simp [Cond.before, Cond.holds, Cond.value, h1, h2, h3, h4, g1, g2, g3, g4, g5, g6]
def isCode : Jvm.Cond → Bool
  | .code _ _ _ _ => true
  | _ => false
theorem all_split {L : List Jvm.Cond} {P : Jvm.Cond → Bool} (h1 : L.all (fun c => isCode c || P c) = true) (h2 : ∀ c ∈ L.filter isCode, P c = true) : L.all P = true := by
  refine List.all_eq_true.mpr fun c hc => ?_
  have h := List.all_eq_true.mp h1 c hc
  rcases Bool.eq_false_or_eq_true (isCode c) with hi | hi
  · exact h2 c (List.mem_filter.mpr ⟨hc, hi⟩)
  · simpa [hi] using h
set_option maxRecDepth 65536 in
theorem w_c0 : (Jvm.Cond.code x code maxLocals ret).before args0 about1 = true := code_word (m := ⟨1, 2⟩) (meth := k1m2) (c := k1c2) (by decide +kernel) rfl rfl rfl (by decide +kernel)
set_option maxRecDepth 65536 in
theorem w_c1 : (Jvm.Cond.code ({ cls := "com/example/pushout_bench/pushoutbench/matcher/Effort", name := "<init>", desc := "(J)V" } : Jvm.MethodName) prog_72_method_1_code (3 : Nat) (Option.none : Option Jvm.ClassFile.FieldType)).before args0 about1 = true := code_word (m := ⟨2, 0⟩) (meth := k2m0) (c := k2c0) (by decide +kernel) rfl rfl rfl (by decide +kernel)
set_option maxRecDepth 65536 in
theorem w_c2 : (Jvm.Cond.code ({ cls := "java/lang/Object", name := "<init>", desc := "()V" } : Jvm.MethodName) object_method_1_code (1 : Nat) (Option.none : Option Jvm.ClassFile.FieldType)).before args0 about1 = true := code_word (m := ⟨0, 0⟩) (meth := k0m0) (c := k0c0) (by decide +kernel) rfl rfl rfl (by decide +kernel)
set_option maxRecDepth 65536 in
theorem w_c3 : (Jvm.Cond.code ({ cls := "com/example/pushout_bench/pushoutbench/matcher/EffortSpendPinLaw", name := "step", desc := "(Lcom/example/pushout_bench/pushoutbench/matcher/Effort;JJ)Z" } : Jvm.MethodName) method_2_code (9 : Nat) (Option.some Jvm.ClassFile.FieldType.boolean)).before args0 about1 = true := code_word (m := ⟨1, 1⟩) (meth := k1m1) (c := k1c1) (by decide +kernel) rfl rfl rfl (by decide +kernel)
set_option maxRecDepth 65536 in
theorem w_c4 : (Jvm.Cond.code ({ cls := "com/example/pushout_bench/pushoutbench/matcher/Effort", name := "spend", desc := "()Z" } : Jvm.MethodName) prog_72_method_5_code (1 : Nat) (Option.some Jvm.ClassFile.FieldType.boolean)).before args0 about1 = true := code_word (m := ⟨2, 3⟩) (meth := k2m3) (c := k2c3) (by decide +kernel) rfl rfl rfl (by decide +kernel)
set_option maxRecDepth 65536 in
theorem w_c5 : (Jvm.Cond.code ({ cls := "com/example/pushout_bench/pushoutbench/matcher/Effort", name := "spent", desc := "()J" } : Jvm.MethodName) prog_72_method_3_code (1 : Nat) (Option.some Jvm.ClassFile.FieldType.long)).before args0 about1 = true := code_word (m := ⟨2, 1⟩) (meth := k2m1) (c := k2c1) (by decide +kernel) rfl rfl rfl (by decide +kernel)
set_option maxRecDepth 65536 in
theorem w_c6 : (Jvm.Cond.code ({ cls := "com/example/pushout_bench/pushoutbench/matcher/Effort", name := "ranOut", desc := "()Z" } : Jvm.MethodName) prog_72_method_4_code (1 : Nat) (Option.some Jvm.ClassFile.FieldType.boolean)).before args0 about1 = true := code_word (m := ⟨2, 2⟩) (meth := k2m2) (c := k2c2) (by decide +kernel) rfl rfl rfl (by decide +kernel)
set_option maxRecDepth 65536 in
theorem w_c7 : (Jvm.Cond.code ({ cls := "java/lang/Math", name := "min", desc := "(JJ)J" } : Jvm.MethodName) jdk_29_method_70_code (4 : Nat) (Option.some Jvm.ClassFile.FieldType.long)).before args0 about1 = true := code_word (m := ⟨3, 1⟩) (meth := k3m1) (c := k3c1) (by decide +kernel) rfl rfl rfl (by decide +kernel)
def codes1 : List Jvm.Cond := [Jvm.Cond.code x code maxLocals ret, Jvm.Cond.code ({ cls := "com/example/pushout_bench/pushoutbench/matcher/Effort", name := "<init>", desc := "(J)V" } : Jvm.MethodName) prog_72_method_1_code (3 : Nat) (Option.none : Option Jvm.ClassFile.FieldType), Jvm.Cond.code ({ cls := "java/lang/Object", name := "<init>", desc := "()V" } : Jvm.MethodName) object_method_1_code (1 : Nat) (Option.none : Option Jvm.ClassFile.FieldType), Jvm.Cond.code ({ cls := "com/example/pushout_bench/pushoutbench/matcher/EffortSpendPinLaw", name := "step", desc := "(Lcom/example/pushout_bench/pushoutbench/matcher/Effort;JJ)Z" } : Jvm.MethodName) method_2_code (9 : Nat) (Option.some Jvm.ClassFile.FieldType.boolean), Jvm.Cond.code ({ cls := "com/example/pushout_bench/pushoutbench/matcher/Effort", name := "spend", desc := "()Z" } : Jvm.MethodName) prog_72_method_5_code (1 : Nat) (Option.some Jvm.ClassFile.FieldType.boolean), Jvm.Cond.code ({ cls := "com/example/pushout_bench/pushoutbench/matcher/Effort", name := "spent", desc := "()J" } : Jvm.MethodName) prog_72_method_3_code (1 : Nat) (Option.some Jvm.ClassFile.FieldType.long), Jvm.Cond.code ({ cls := "com/example/pushout_bench/pushoutbench/matcher/Effort", name := "ranOut", desc := "()Z" } : Jvm.MethodName) prog_72_method_4_code (1 : Nat) (Option.some Jvm.ClassFile.FieldType.boolean), Jvm.Cond.code ({ cls := "java/lang/Math", name := "min", desc := "(JJ)J" } : Jvm.MethodName) jdk_29_method_70_code (4 : Nat) (Option.some Jvm.ClassFile.FieldType.long)]
set_option maxRecDepth 65536 in
theorem codes_eq : words1.filter isCode = codes1 := rfl
theorem w_codes : ∀ c ∈ words1.filter isCode, c.before args0 about1 = true := by
  rw [codes_eq]
  intro c hc
  simp only [codes1, List.mem_cons, List.not_mem_nil, or_false] at hc
  rcases hc with rfl | rfl | rfl | rfl | rfl | rfl | rfl | rfl
  · exact w_c0
  · exact w_c1
  · exact w_c2
  · exact w_c3
  · exact w_c4
  · exact w_c5
  · exact w_c6
  · exact w_c7
set_option maxRecDepth 65536 in
theorem w_t1 : (words1.take 24).all (fun c => isCode c || c.before args0 about1) = true := by decide +kernel
set_option maxRecDepth 65536 in
theorem w_t2 : (words1.drop 24).all (fun c => isCode c || c.before args0 about1) = true := by decide +kernel
theorem w_tables : (allAtoms (Jvm.Cond.code x code maxLocals ret :: tables_1)).before args0 about1 = true := by
  rw [allAtoms_all]
  show words1.all (fun c => c.before args0 about1) = true
  refine all_split ?_ w_codes
  rw [← List.take_append_drop 24 words1, List.all_append, w_t1, w_t2]
  rfl
set_option maxRecDepth 65536 in
theorem w_case : (Jvm.Cond.and given_1 narrow_1).before args0 about1 = true := by decide +kernel
theorem w_applies : (headSpec (Jvm.Cond.code x code maxLocals ret :: tables_1) room_1).applies x e0.platform about1 = true :=
  (Spec.applies_iff w_frames).mpr ⟨w_running, w_runnable, w_alone, w_named, w_hears, w_ripe, w_room, w_tables⟩
theorem atStart : AtStart classFile x code maxLocals ret World_1 tables_1 room_1 Calls_1 rest_1 Pre_1 launch0 p0 e0 about1 theMethod args0 below0 :=
  ⟨lists_1, trivial, launch0.admits_env _ _ _, launch0.least_env, fairChoices_fair.cas, fairChoices_fair.clock, w_frames, w_args, w_heap, w_applies, trivial, trivial, w_case⟩
end start1
theorem witness_1 : WitnessClaimed_1 := ⟨start1.p0, start1.e0, start1.about1, start1.theMethod, start1.args0, start1.below0, start1.atStart⟩
end Jvm.Pilot.@@N@@
