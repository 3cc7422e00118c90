import JvmDerived
import JvmDerived.Pilot.@@N@@Statement
import JvmDerived.Pilot.@@N@@Code
set_option linter.unusedVariables false
set_option linter.unusedSimpArgs false
@@BLOCK:NumsL.lean.txt@@
namespace Jvm.RoadKit
open Sem ClassFile Op Lib Jvm.Stand Jvm.Free Jvm.LawKit
section Own
variable {p : Program} {l : Launch} {e : Env} {R : Room} {s : State} {m : MethodId} {args : Array Value} {below : List Frame} {meth : Method} {c : Code} {T : State} {locs : List Loc} {cells slots : Nat}
/-- from t the run ends in a return of which Q holds -/
def OGo (p : Program) (e : Env) (below : List Frame) (s : State) (Q : Option Value → Heap → List Loc → Prop) (C N : Nat) (t : State) : Prop :=
  ∃ s₂ o, Steps p.tables e below t s₂ ∧ s₂.status = .running ∧ Ended s₂ below o ∧ ∃ v L, o = .returned v ∧ Q v s₂.heap L ∧ FrameEnd s o s₂ L C N
theorem OGo.st {Q : Option Value → Heap → List Loc → Prop} {C N : Nat} {t t' : State} (k : ∀ target, Steps p.tables e below t' target → Steps p.tables e below t target) (h : OGo p e below s Q C N t') : OGo p e below s Q C N t := by
  obtain ⟨s₂, o, a, r⟩ := h; exact ⟨s₂, o, k _ a, r⟩
theorem oretW {Q : Option Value → Heap → List Loc → Prop} {C N : Nat} (X : Stand p l e R s m args below meth c T locs cells slots) (hx : p.tables.exec = Jvm.exec) (hlk : meth.locks = false) {pc : Nat} {Ls : Array Slot} {w : Value} {t : FieldType} {i : Instr} {rest : List Value} (hret : meth.sig.returnType = some t) (hn : narrow t w = w)
    (hi : (i = .ireturn ∧ (t = .int ∨ t = .boolean ∨ t = .byte ∨ t = .char ∨ t = .short) ∧ ∃ z, w = .int z) ∨ (i = .lreturn ∧ t = .long ∧ ∃ z, w = .long z) ∨ (i = .dreturn ∧ t = .double ∧ ∃ z, w = .double z) ∨ (i = .freturn ∧ t = .float ∧ ∃ z, w = .float z) ∨ (i = .areturn ∧ t.isReference = true ∧ w.isRef = true))
    (hd : decode c.code pc = .ok (i, 1)) {h : Heap} (hh : T.heap = h) (hq : Q (some w) h locs) (hC : cells ≤ C) (hN : slots ≤ N) : OGo p e below s Q C N (T.setTop (mkF m pc Ls (w :: rest))) := by
  obtain ⟨fs, hr, hrun, hended, hW, hsame⟩ := X.leave (v := some w) (fun h => by rw [hret] at h; cases h) hlk
  exact ⟨_, _, retOut X hx hret hn hi hd hr, hrun, hended, _, _, rfl, hh ▸ hq, ⟨_, rfl⟩, hW, hsame.mono hC hN⟩
theorem oretI {Q : Option Value → Heap → List Loc → Prop} {C N : Nat} (X : Stand p l e R s m args below meth c T locs cells slots) (hx : p.tables.exec = Jvm.exec) (hlk : meth.locks = false) {pc : Nat} {Ls : Array Slot} {z : Int32} {rest : List Value} (hret : meth.sig.returnType = some .int)
    (hd : decode c.code pc = .ok (.ireturn, 1)) {h : Heap} (hh : T.heap = h) (hq : Q (some (.int z)) h locs) (hC : cells ≤ C) (hN : slots ≤ N) : OGo p e below s Q C N (T.setTop (mkF m pc Ls (.int z :: rest))) :=
  oretW X hx hlk hret rfl (Or.inl ⟨rfl, Or.inl rfl, _, rfl⟩) hd hh hq hC hN
theorem oretJ {Q : Option Value → Heap → List Loc → Prop} {C N : Nat} (X : Stand p l e R s m args below meth c T locs cells slots) (hx : p.tables.exec = Jvm.exec) (hlk : meth.locks = false) {pc : Nat} {Ls : Array Slot} {z : Int64} {rest : List Value} (hret : meth.sig.returnType = some .long)
    (hd : decode c.code pc = .ok (.lreturn, 1)) {h : Heap} (hh : T.heap = h) (hq : Q (some (.long z)) h locs) (hC : cells ≤ C) (hN : slots ≤ N) : OGo p e below s Q C N (T.setTop (mkF m pc Ls (.long z :: rest))) :=
  oretW X hx hlk hret rfl (Or.inr (Or.inl ⟨rfl, rfl, _, rfl⟩)) hd hh hq hC hN
theorem onarR {t : FieldType} {w : Value} (ht : t.isReference = true) (hw : w.isRef = true) : narrow t w = w := by
  cases t <;> first | (cases ht; done) | (cases w <;> first | rfl | (cases hw; done))
theorem ofitR {t : FieldType} {w : Value} (ht : t.isReference = true) (hw : w.isRef = true) : fits t w = true := by
  cases t <;> first | (cases ht; done) | (cases w <;> first | rfl | (cases hw; done))
theorem oretA {Q : Option Value → Heap → List Loc → Prop} {C N : Nat} (X : Stand p l e R s m args below meth c T locs cells slots) (hx : p.tables.exec = Jvm.exec) (hlk : meth.locks = false) {pc : Nat} {Ls : Array Slot} {w : Value} {t : FieldType} {rest : List Value} (hret : meth.sig.returnType = some t) (ht : t.isReference = true) (hw : w.isRef = true)
    (hd : decode c.code pc = .ok (.areturn, 1)) {h : Heap} (hh : T.heap = h) (hq : Q (some w) h locs) (hC : cells ≤ C) (hN : slots ≤ N) : OGo p e below s Q C N (T.setTop (mkF m pc Ls (w :: rest))) :=
  oretW X hx hlk hret (onarR ht hw) (Or.inr (Or.inr (Or.inr (Or.inr ⟨rfl, ht, hw⟩)))) hd hh hq hC hN
theorem oretN {Q : Option Value → Heap → List Loc → Prop} {C N : Nat} (X : Stand p l e R s m args below meth c T locs cells slots) (hx : p.tables.exec = Jvm.exec) (hlk : meth.locks = false) {pc : Nat} {Ls : Array Slot} {z z' : Int32} {t : FieldType} {rest : List Value} (hret : meth.sig.returnType = some t) (ht : t = .boolean ∨ t = .byte ∨ t = .char ∨ t = .short)
    (hd : decode c.code pc = .ok (.ireturn, 1)) (hz : nar t z = z') {h : Heap} (hh : T.heap = h) (hq : Q (some (.int z')) h locs) (hC : cells ≤ C) (hN : slots ≤ N) : OGo p e below s Q C N (T.setTop (mkF m pc Ls (.int z :: rest))) := by
  subst hz
  obtain ⟨fs, hr, hrun, hended, hW, hsame⟩ := X.leave (v := some (.int (nar t z))) (fun h => by rw [hret] at h; cases h) hlk
  exact ⟨_, _, retN X hx hret ht hd hr, hrun, hended, _, _, rfl, hh ▸ hq, ⟨_, rfl⟩, hW, hsame.mono hC hN⟩
theorem oret0 {Q : Option Value → Heap → List Loc → Prop} {C N : Nat} (X : Stand p l e R s m args below meth c T locs cells slots) (hx : p.tables.exec = Jvm.exec) (hlk : meth.locks = false) {pc : Nat} {Ls : Array Slot} (hret : meth.sig.returnType = none)
    (hd : decode c.code pc = .ok (.return_, 1)) {h : Heap} (hh : T.heap = h) (hq : Q none h locs) (hC : cells ≤ C) (hN : slots ≤ N) : OGo p e below s Q C N (T.setTop (mkF m pc Ls [])) := by
  obtain ⟨fs, hr, hrun, hended, hW, hsame⟩ := X.leave (v := none) (fun _ => rfl) hlk
  exact ⟨_, _, X.returnOut hx hret hd hr, hrun, hended, _, _, rfl, hh ▸ hq, ⟨_, rfl⟩, hW, hsame.mono hC hN⟩
theorem olrem {tb : Tables} [Ours tb] {target : State} {g : JFrame} (h : At T m c below) (hx : tb.exec = Jvm.exec) (hg : g.method = m) {x y : Int64} {rest : List Value} (hd : decode c.code g.pc = .ok (.lrem, 1)) (hs : g.stack = .long y :: .long x :: rest) (hy : y ≠ 0)
    (hr : Steps tb e below (T.setTop { g with pc := g.pc + 1, stack := .long (x % y) :: rest }) target) : Steps tb e below (T.setTop g) target :=
  XS.lrem h hx hg hd hs hy (by rw [lrem_mod]; exact hr)
theorem olc_lt (x y : Int64) : lcmpW x y < 0 ↔ x < y := by rw [lcW]; exact lc_lt x y
theorem olc_gt (x y : Int64) : 0 < lcmpW x y ↔ y < x := by rw [lcW]; exact lc_gt x y
theorem olc_eq (x y : Int64) : lcmpW x y = 0 ↔ x = y := by rw [lcW]; exact lc_eq x y
theorem onilP {v : Int} : ∀ q ∈ ([] : List (Int × Int)), q.1 ≠ v := fun _ q => nomatch q
theorem oconsP {v a b : Int} {l : List (Int × Int)} (h : a ≠ v) (t : ∀ q ∈ l, q.1 ≠ v) : ∀ q ∈ (a, b) :: l, q.1 ≠ v := fun q hq => (List.mem_cons.mp hq).elim (fun u => by rw [u]; exact h) (t q)
theorem oint_ne {z k : Int32} {K : Int} (h : ¬ z = k) (hk : k.toInt = K) : K ≠ z.toInt := fun q => h (Int32.toInt_inj.mp (by rw [hk, q]))
theorem ofld_eq {Z : State} {t : Term} {C n d : String} {a : Addr} {k : Int32} (h : (Cond.eq (Term.field t C n d) (Term.int k)).value args Z none Z [] = some true) (ev : t.eval args Z none [] Z = some (.ref a)) : Fld Z Z.heap a C n d (.int k) := by
  apply Fld.start
  have q := fld_at (args := args) (first := Z) (o := none) (idx := []) (s := Z) (C := C) (n := n) (dd := d) ev
  simp only [Cond.value, q, Term.int_eval] at h
  cases hv : Z.fieldOf? a C n d with
  | none => simp [hv] at h
  | some v => cases v <;> simp [hv] at h <;> simp [h]
section Imp
variable {E a b : Int32}
theorem oLL (h : E < a) (k : a.toInt ≤ b.toInt) : E < b := by rw [Int32.lt_iff_toInt_lt] at *; omega
theorem oLnG (h : E < a) (k : a.toInt ≤ b.toInt + 1) : ¬ b < E := by rw [Int32.lt_iff_toInt_lt] at *; omega
theorem oLnE (h : E < a) (k : a.toInt ≤ b.toInt) : ¬ E = b := fun q => by subst q; rw [Int32.lt_iff_toInt_lt] at h; omega
theorem oGG (h : a < E) (k : b.toInt ≤ a.toInt) : b < E := by rw [Int32.lt_iff_toInt_lt] at *; omega
theorem oGnL (h : a < E) (k : b.toInt ≤ a.toInt + 1) : ¬ E < b := by rw [Int32.lt_iff_toInt_lt] at *; omega
theorem oGnE (h : a < E) (k : b.toInt ≤ a.toInt) : ¬ E = b := fun q => by subst q; rw [Int32.lt_iff_toInt_lt] at h; omega
theorem onLnL (h : ¬ E < a) (k : b.toInt ≤ a.toInt) : ¬ E < b := by rw [Int32.lt_iff_toInt_lt] at *; omega
theorem onLG (h : ¬ E < a) (k : b.toInt < a.toInt) : b < E := by rw [Int32.lt_iff_toInt_lt] at *; omega
theorem onLnE (h : ¬ E < a) (k : b.toInt < a.toInt) : ¬ E = b := fun q => by subst q; rw [Int32.lt_iff_toInt_lt] at h; omega
theorem onGnG (h : ¬ a < E) (k : a.toInt ≤ b.toInt) : ¬ b < E := by rw [Int32.lt_iff_toInt_lt] at *; omega
theorem onGL (h : ¬ a < E) (k : a.toInt < b.toInt) : E < b := by rw [Int32.lt_iff_toInt_lt] at *; omega
theorem onGnE (h : ¬ a < E) (k : a.toInt < b.toInt) : ¬ E = b := fun q => by subst q; rw [Int32.lt_iff_toInt_lt] at h; omega
end Imp
end Own
end Jvm.RoadKit
namespace Jvm.Pilot.@@N@@
open Jvm Jvm.ClassFile Sem Op Lib Jvm.Free Jvm.Stand Jvm.LawKit Jvm.RoadKit Bundle Jvm.Pilot.@@N@@.Jvm.D

theorem d1_0 : decode method_2_code 0 = .ok (.iload_n 2, 1) := by decide +kernel
theorem d1_1 : decode method_2_code 1 = .ok (.iconst 3, 1) := by decide +kernel
theorem d1_2 : decode method_2_code 2 = .ok (.iand, 1) := by decide +kernel
theorem d1_3 : decode method_2_code 3 = .ok (.istore_n 3, 1) := by decide +kernel
theorem d1_4 : decode method_2_code 4 = .ok (.iload_n 3, 1) := by decide +kernel
theorem d1_5 : decode method_2_code 5 = .ok (.iconst 1, 1) := by decide +kernel
theorem d1_6 : decode method_2_code 6 = .ok (.if_icmp .ne 13, 3) := by decide +kernel
theorem d1_9 : decode method_2_code 9 = .ok (.ldc2_w 7, 3) := by decide +kernel
theorem d1_12 : decode method_2_code 12 = .ok (.lload_n 0, 1) := by decide +kernel
theorem d1_13 : decode method_2_code 13 = .ok (.ldc2_w 9, 3) := by decide +kernel
theorem d1_16 : decode method_2_code 16 = .ok (.land, 1) := by decide +kernel
theorem d1_17 : decode method_2_code 17 = .ok (.lor, 1) := by decide +kernel
theorem d1_18 : decode method_2_code 18 = .ok (.lreturn, 1) := by decide +kernel
theorem d1_19 : decode method_2_code 19 = .ok (.iload_n 3, 1) := by decide +kernel
theorem d1_20 : decode method_2_code 20 = .ok (.iconst 2, 1) := by decide +kernel
theorem d1_21 : decode method_2_code 21 = .ok (.if_icmp .ne 13, 3) := by decide +kernel
theorem d1_24 : decode method_2_code 24 = .ok (.ldc2_w 7, 3) := by decide +kernel
theorem d1_27 : decode method_2_code 27 = .ok (.lload_n 0, 1) := by decide +kernel
theorem d1_28 : decode method_2_code 28 = .ok (.ldc2_w 11, 3) := by decide +kernel
theorem d1_31 : decode method_2_code 31 = .ok (.lrem, 1) := by decide +kernel
theorem d1_32 : decode method_2_code 32 = .ok (.ladd, 1) := by decide +kernel
theorem d1_33 : decode method_2_code 33 = .ok (.lreturn, 1) := by decide +kernel
theorem d1_34 : decode method_2_code 34 = .ok (.iload_n 3, 1) := by decide +kernel
theorem d1_35 : decode method_2_code 35 = .ok (.iconst 3, 1) := by decide +kernel
theorem d1_36 : decode method_2_code 36 = .ok (.if_icmp .ne 13, 3) := by decide +kernel
theorem d1_39 : decode method_2_code 39 = .ok (.ldc2_w 7, 3) := by decide +kernel
theorem d1_42 : decode method_2_code 42 = .ok (.lload_n 0, 1) := by decide +kernel
theorem d1_43 : decode method_2_code 43 = .ok (.ldc2_w 13, 3) := by decide +kernel
theorem d1_46 : decode method_2_code 46 = .ok (.lrem, 1) := by decide +kernel
theorem d1_47 : decode method_2_code 47 = .ok (.ladd, 1) := by decide +kernel
theorem d1_48 : decode method_2_code 48 = .ok (.lreturn, 1) := by decide +kernel
theorem d1_49 : decode method_2_code 49 = .ok (.lload_n 0, 1) := by decide +kernel
theorem d1_50 : decode method_2_code 50 = .ok (.lreturn, 1) := by decide +kernel
theorem pn_1 : plainName "com/example/sealwright/sealwright/cmw/ContentFormatOfPinLaw" = true := by first | (simp [plainName, overriddenIn]; done) | decide +kernel
theorem ef_1 (m : MethodId) (q0 : Int64) (p1 : Int32) : entryFrame m #[(.long q0), (.int p1)] 4 = mkF m 0 #[.val (.long q0), .second, .val (.int p1), .unset] [] := by first | (simp [entryFrame, mkF, argsToLocals, Value.category]; done) | rfl
def f1 (q0 : Int64) (p1 : Int32) : Int64 := (if (p1 &&& (3 : Int32)) = (1 : Int32) then ((1668546560 : Int64) ||| (q0 &&& (65535 : Int64))) else (if (p1 &&& (3 : Int32)) = (2 : Int32) then ((1668546560 : Int64) + (q0 % (196608 : Int64))) else (if (p1 &&& (3 : Int32)) = (3 : Int32) then ((1668546560 : Int64) + (q0 % (512 : Int64))) else q0)))
def Q1 (Z : State) (q0 : Int64) (p1 : Int32) (h0 : Heap) (n0 : Nat) (v : Option Value) (h : Heap) (L : List Loc) : Prop := v = some (.long (f1 q0 p1)) ∧ Fr n0 L ∧ h = h0
set_option maxRecDepth 65536 in
set_option maxHeartbeats 40000000 in
theorem rm1 (l : Launch) (Z : State) (a0 : Array Value) (hw : ∀ d ∈ tables_1, d.before a0 Z = true) (ws : List Jvm.Cond) (q0 : Int64) (p1 : Int32) (h0 : Heap) (n0 : Nat) (Z0 : n0 ≤ h0.size) :
    MetFree l (⟨"com/example/sealwright/sealwright/cmw/ContentFormatOfPinLaw", "pick", "(JI)J"⟩ : MethodName) (head1 (Jvm.Cond.code (⟨"com/example/sealwright/sealwright/cmw/ContentFormatOfPinLaw", "pick", "(JI)J"⟩ : MethodName) method_2_code 4 (some .long) :: ws) ({ frames := 0, cells := 0, slots := 0, locals := 0 } : Room)) (fun a U => a = #[(.long q0), (.int p1)] ∧ Z.Warmed39 U.vm ∧ U.heap = h0) (fun _ _ _ _ _ => True) (fun _ U o U' => ∃ v L, o = .returned v ∧ Q1 Z q0 p1 h0 n0 v U'.heap L ∧ FrameEnd U o U' L ({ frames := 0, cells := 0, slots := 0, locals := 0 } : Room).cells ({ frames := 0, cells := 0, slots := 0, locals := 0 } : Room).slots) := by
  refine MetFree.of_bodySF (plainFor_of_name pn_1) hisR ?_
  intro p e s m args below meth c s₁ Bd hml0 hP hK
  obtain ⟨rfl, hZ, hh⟩ := hP
  have hx := Bd.exec
  have hby := Bd.bytes
  have hml : c.maxLocals = 4 := hml0
  have hown : s.vm.findClass "com/example/sealwright/sealwright/cmw/ContentFormatOfPinLaw" = some m.cls := findClass_of_methodNamed Bd.named
  have hnm := (name_of_methodNamed Bd.named Bd.method).1
  have X0 : Stand p l e ({ frames := 0, cells := 0, slots := 0, locals := 0 } : Room) s m #[(.long q0), (.int p1)] below meth c s₁ [] 0 0 := Stand.of_body Bd
  have e0 : s₁.heap = h0 := by rw [← hh, Bd.state]; rfl
  have N0 := Fr.nil n0
  show OGo p e below s (Q1 Z q0 p1 h0 n0) ({ frames := 0, cells := 0, slots := 0, locals := 0 } : Room).cells ({ frames := 0, cells := 0, slots := 0, locals := 0 } : Room).slots _
  refine OGo.st (fun _ k => castTop (ef_1 m q0 p1) k) ?_
  show OGo p e below s _ _ _ (s₁.setTop (mkF m 0 #[.val (.long q0), .second, .val (.int p1), .unset] []))
  refine OGo.st (fun _ k => XS.iloadN X0.here hx rfl (hb hby d1_0) rfl k) ?_
  show OGo p e below s _ _ _ (s₁.setTop (mkF m 1 #[.val (.long q0), .second, .val (.int p1), .unset] [(.int p1)]))
  refine OGo.st (fun _ k => XS.iconst X0.here hx rfl (hb hby d1_1) k) ?_
  show OGo p e below s _ _ _ (s₁.setTop (mkF m 2 #[.val (.long q0), .second, .val (.int p1), .unset] [(.int (3 : Int32)), (.int p1)]))
  refine OGo.st (fun _ k => XS.iand X0.here hx rfl (hb hby d1_2) rfl k) ?_
  show OGo p e below s _ _ _ (s₁.setTop (mkF m 3 #[.val (.long q0), .second, .val (.int p1), .unset] [(.int (p1 &&& (3 : Int32)))]))
  refine OGo.st (fun _ k => XS.istoreN X0.here hx rfl (hb hby d1_3) rfl (l' := #[.val (.long q0), .second, .val (.int p1), .val (.int (p1 &&& (3 : Int32)))]) rfl k) ?_
  show OGo p e below s _ _ _ (s₁.setTop (mkF m 4 #[.val (.long q0), .second, .val (.int p1), .val (.int (p1 &&& (3 : Int32)))] []))
  refine OGo.st (fun _ k => XS.iloadN X0.here hx rfl (hb hby d1_4) rfl k) ?_
  show OGo p e below s _ _ _ (s₁.setTop (mkF m 5 #[.val (.long q0), .second, .val (.int p1), .val (.int (p1 &&& (3 : Int32)))] [(.int (p1 &&& (3 : Int32)))]))
  refine OGo.st (fun _ k => XS.iconst X0.here hx rfl (hb hby d1_5) k) ?_
  show OGo p e below s _ _ _ (s₁.setTop (mkF m 6 #[.val (.long q0), .second, .val (.int p1), .val (.int (p1 &&& (3 : Int32)))] [(.int (1 : Int32)), (.int (p1 &&& (3 : Int32)))]))
  by_cases hc6 : (p1 &&& (3 : Int32)) = (1 : Int32)
  · refine OGo.st (fun _ k => XS.icmpNo X0.here hx rfl (hb hby d1_6) rfl (teq hc6).2 k) ?_
    show OGo p e below s _ _ _ (s₁.setTop (mkF m 9 #[.val (.long q0), .second, .val (.int p1), .val (.int (p1 &&& (3 : Int32)))] []))
    refine OGo.st (fun _ k => X0.ldc2Long hx hown (mvT hZ (hw _ (List.mem_of_getElem? (i := 4) rfl))) (g := (mkF m 9 #[.val (.long q0), .second, .val (.int p1), .val (.int (p1 &&& (3 : Int32)))] [])) rfl (hb hby d1_9) _ k) ?_
    show OGo p e below s _ _ _ (s₁.setTop (mkF m 12 #[.val (.long q0), .second, .val (.int p1), .val (.int (p1 &&& (3 : Int32)))] [(.long (1668546560 : Int64))]))
    refine OGo.st (fun _ k => XS.lloadN X0.here hx rfl (hb hby d1_12) rfl k) ?_
    show OGo p e below s _ _ _ (s₁.setTop (mkF m 13 #[.val (.long q0), .second, .val (.int p1), .val (.int (p1 &&& (3 : Int32)))] [(.long q0), (.long (1668546560 : Int64))]))
    refine OGo.st (fun _ k => X0.ldc2Long hx hown (mvT hZ (hw _ (List.mem_of_getElem? (i := 15) rfl))) (g := (mkF m 13 #[.val (.long q0), .second, .val (.int p1), .val (.int (p1 &&& (3 : Int32)))] [(.long q0), (.long (1668546560 : Int64))])) rfl (hb hby d1_13) _ k) ?_
    show OGo p e below s _ _ _ (s₁.setTop (mkF m 16 #[.val (.long q0), .second, .val (.int p1), .val (.int (p1 &&& (3 : Int32)))] [(.long (65535 : Int64)), (.long q0), (.long (1668546560 : Int64))]))
    refine OGo.st (fun _ k => XS.land X0.here hx rfl (hb hby d1_16) rfl k) ?_
    show OGo p e below s _ _ _ (s₁.setTop (mkF m 17 #[.val (.long q0), .second, .val (.int p1), .val (.int (p1 &&& (3 : Int32)))] [(.long (q0 &&& (65535 : Int64))), (.long (1668546560 : Int64))]))
    refine OGo.st (fun _ k => XS.lor X0.here hx rfl (hb hby d1_17) rfl k) ?_
    show OGo p e below s _ _ _ (s₁.setTop (mkF m 18 #[.val (.long q0), .second, .val (.int p1), .val (.int (p1 &&& (3 : Int32)))] [(.long ((1668546560 : Int64) ||| (q0 &&& (65535 : Int64))))]))
    exact oretJ X0 hx Bd.notSynchronized Bd.returns (hb hby d1_18) e0 ⟨(congrArg (fun z => some (Value.long z)) (show ((1668546560 : Int64) ||| (q0 &&& (65535 : Int64))) = f1 q0 p1 from Eq.symm (by unfold f1; exact if_pos hc6))), N0, rfl⟩ (by decide) (by decide)
  · refine OGo.st (fun _ k => XS.icmpYes X0.here hx rfl (pc0 := 6) (pc' := 19) rfl (hb hby d1_6) rfl (feq hc6).2 (by decide) (by decide) k) ?_
    show OGo p e below s _ _ _ (s₁.setTop (mkF m 19 #[.val (.long q0), .second, .val (.int p1), .val (.int (p1 &&& (3 : Int32)))] []))
    refine OGo.st (fun _ k => XS.iloadN X0.here hx rfl (hb hby d1_19) rfl k) ?_
    show OGo p e below s _ _ _ (s₁.setTop (mkF m 20 #[.val (.long q0), .second, .val (.int p1), .val (.int (p1 &&& (3 : Int32)))] [(.int (p1 &&& (3 : Int32)))]))
    refine OGo.st (fun _ k => XS.iconst X0.here hx rfl (hb hby d1_20) k) ?_
    show OGo p e below s _ _ _ (s₁.setTop (mkF m 21 #[.val (.long q0), .second, .val (.int p1), .val (.int (p1 &&& (3 : Int32)))] [(.int (2 : Int32)), (.int (p1 &&& (3 : Int32)))]))
    by_cases hc21 : (p1 &&& (3 : Int32)) = (2 : Int32)
    · refine OGo.st (fun _ k => XS.icmpNo X0.here hx rfl (hb hby d1_21) rfl (teq hc21).2 k) ?_
      show OGo p e below s _ _ _ (s₁.setTop (mkF m 24 #[.val (.long q0), .second, .val (.int p1), .val (.int (p1 &&& (3 : Int32)))] []))
      refine OGo.st (fun _ k => X0.ldc2Long hx hown (mvT hZ (hw _ (List.mem_of_getElem? (i := 4) rfl))) (g := (mkF m 24 #[.val (.long q0), .second, .val (.int p1), .val (.int (p1 &&& (3 : Int32)))] [])) rfl (hb hby d1_24) _ k) ?_
      show OGo p e below s _ _ _ (s₁.setTop (mkF m 27 #[.val (.long q0), .second, .val (.int p1), .val (.int (p1 &&& (3 : Int32)))] [(.long (1668546560 : Int64))]))
      refine OGo.st (fun _ k => XS.lloadN X0.here hx rfl (hb hby d1_27) rfl k) ?_
      show OGo p e below s _ _ _ (s₁.setTop (mkF m 28 #[.val (.long q0), .second, .val (.int p1), .val (.int (p1 &&& (3 : Int32)))] [(.long q0), (.long (1668546560 : Int64))]))
      refine OGo.st (fun _ k => X0.ldc2Long hx hown (mvT hZ (hw _ (List.mem_of_getElem? (i := 5) rfl))) (g := (mkF m 28 #[.val (.long q0), .second, .val (.int p1), .val (.int (p1 &&& (3 : Int32)))] [(.long q0), (.long (1668546560 : Int64))])) rfl (hb hby d1_28) _ k) ?_
      show OGo p e below s _ _ _ (s₁.setTop (mkF m 31 #[.val (.long q0), .second, .val (.int p1), .val (.int (p1 &&& (3 : Int32)))] [(.long (196608 : Int64)), (.long q0), (.long (1668546560 : Int64))]))
      refine OGo.st (fun _ k => olrem X0.here hx rfl (hb hby d1_31) rfl (by decide) k) ?_
      show OGo p e below s _ _ _ (s₁.setTop (mkF m 32 #[.val (.long q0), .second, .val (.int p1), .val (.int (p1 &&& (3 : Int32)))] [(.long (q0 % (196608 : Int64))), (.long (1668546560 : Int64))]))
      refine OGo.st (fun _ k => XS.ladd X0.here hx rfl (hb hby d1_32) rfl k) ?_
      show OGo p e below s _ _ _ (s₁.setTop (mkF m 33 #[.val (.long q0), .second, .val (.int p1), .val (.int (p1 &&& (3 : Int32)))] [(.long ((1668546560 : Int64) + (q0 % (196608 : Int64))))]))
      exact oretJ X0 hx Bd.notSynchronized Bd.returns (hb hby d1_33) e0 ⟨(congrArg (fun z => some (Value.long z)) (show ((1668546560 : Int64) + (q0 % (196608 : Int64))) = f1 q0 p1 from Eq.symm (by unfold f1; exact (if_neg hc6).trans (if_pos hc21)))), N0, rfl⟩ (by decide) (by decide)
    · refine OGo.st (fun _ k => XS.icmpYes X0.here hx rfl (pc0 := 21) (pc' := 34) rfl (hb hby d1_21) rfl (feq hc21).2 (by decide) (by decide) k) ?_
      show OGo p e below s _ _ _ (s₁.setTop (mkF m 34 #[.val (.long q0), .second, .val (.int p1), .val (.int (p1 &&& (3 : Int32)))] []))
      refine OGo.st (fun _ k => XS.iloadN X0.here hx rfl (hb hby d1_34) rfl k) ?_
      show OGo p e below s _ _ _ (s₁.setTop (mkF m 35 #[.val (.long q0), .second, .val (.int p1), .val (.int (p1 &&& (3 : Int32)))] [(.int (p1 &&& (3 : Int32)))]))
      refine OGo.st (fun _ k => XS.iconst X0.here hx rfl (hb hby d1_35) k) ?_
      show OGo p e below s _ _ _ (s₁.setTop (mkF m 36 #[.val (.long q0), .second, .val (.int p1), .val (.int (p1 &&& (3 : Int32)))] [(.int (3 : Int32)), (.int (p1 &&& (3 : Int32)))]))
      by_cases hc36 : (p1 &&& (3 : Int32)) = (3 : Int32)
      · refine OGo.st (fun _ k => XS.icmpNo X0.here hx rfl (hb hby d1_36) rfl (teq hc36).2 k) ?_
        show OGo p e below s _ _ _ (s₁.setTop (mkF m 39 #[.val (.long q0), .second, .val (.int p1), .val (.int (p1 &&& (3 : Int32)))] []))
        refine OGo.st (fun _ k => X0.ldc2Long hx hown (mvT hZ (hw _ (List.mem_of_getElem? (i := 4) rfl))) (g := (mkF m 39 #[.val (.long q0), .second, .val (.int p1), .val (.int (p1 &&& (3 : Int32)))] [])) rfl (hb hby d1_39) _ k) ?_
        show OGo p e below s _ _ _ (s₁.setTop (mkF m 42 #[.val (.long q0), .second, .val (.int p1), .val (.int (p1 &&& (3 : Int32)))] [(.long (1668546560 : Int64))]))
        refine OGo.st (fun _ k => XS.lloadN X0.here hx rfl (hb hby d1_42) rfl k) ?_
        show OGo p e below s _ _ _ (s₁.setTop (mkF m 43 #[.val (.long q0), .second, .val (.int p1), .val (.int (p1 &&& (3 : Int32)))] [(.long q0), (.long (1668546560 : Int64))]))
        refine OGo.st (fun _ k => X0.ldc2Long hx hown (mvT hZ (hw _ (List.mem_of_getElem? (i := 13) rfl))) (g := (mkF m 43 #[.val (.long q0), .second, .val (.int p1), .val (.int (p1 &&& (3 : Int32)))] [(.long q0), (.long (1668546560 : Int64))])) rfl (hb hby d1_43) _ k) ?_
        show OGo p e below s _ _ _ (s₁.setTop (mkF m 46 #[.val (.long q0), .second, .val (.int p1), .val (.int (p1 &&& (3 : Int32)))] [(.long (512 : Int64)), (.long q0), (.long (1668546560 : Int64))]))
        refine OGo.st (fun _ k => olrem X0.here hx rfl (hb hby d1_46) rfl (by decide) k) ?_
        show OGo p e below s _ _ _ (s₁.setTop (mkF m 47 #[.val (.long q0), .second, .val (.int p1), .val (.int (p1 &&& (3 : Int32)))] [(.long (q0 % (512 : Int64))), (.long (1668546560 : Int64))]))
        refine OGo.st (fun _ k => XS.ladd X0.here hx rfl (hb hby d1_47) rfl k) ?_
        show OGo p e below s _ _ _ (s₁.setTop (mkF m 48 #[.val (.long q0), .second, .val (.int p1), .val (.int (p1 &&& (3 : Int32)))] [(.long ((1668546560 : Int64) + (q0 % (512 : Int64))))]))
        exact oretJ X0 hx Bd.notSynchronized Bd.returns (hb hby d1_48) e0 ⟨(congrArg (fun z => some (Value.long z)) (show ((1668546560 : Int64) + (q0 % (512 : Int64))) = f1 q0 p1 from Eq.symm (by unfold f1; exact (if_neg hc6).trans ((if_neg hc21).trans (if_pos hc36))))), N0, rfl⟩ (by decide) (by decide)
      · refine OGo.st (fun _ k => XS.icmpYes X0.here hx rfl (pc0 := 36) (pc' := 49) rfl (hb hby d1_36) rfl (feq hc36).2 (by decide) (by decide) k) ?_
        show OGo p e below s _ _ _ (s₁.setTop (mkF m 49 #[.val (.long q0), .second, .val (.int p1), .val (.int (p1 &&& (3 : Int32)))] []))
        refine OGo.st (fun _ k => XS.lloadN X0.here hx rfl (hb hby d1_49) rfl k) ?_
        show OGo p e below s _ _ _ (s₁.setTop (mkF m 50 #[.val (.long q0), .second, .val (.int p1), .val (.int (p1 &&& (3 : Int32)))] [(.long q0)]))
        exact oretJ X0 hx Bd.notSynchronized Bd.returns (hb hby d1_50) e0 ⟨(congrArg (fun z => some (Value.long z)) (show q0 = f1 q0 p1 from Eq.symm (by unfold f1; exact (if_neg hc6).trans ((if_neg hc21).trans (if_neg hc36))))), N0, rfl⟩ (by decide) (by decide)
theorem d2_0 : decode prog_8_method_3_code 0 = .ok (.iconst (-1), 1) := by decide +kernel
theorem d2_1 : decode prog_8_method_3_code 1 = .ok (.istore_n 2, 1) := by decide +kernel
theorem d2_2 : decode prog_8_method_3_code 2 = .ok (.lload_n 0, 1) := by decide +kernel
theorem d2_3 : decode prog_8_method_3_code 3 = .ok (.ldc2_w 19, 3) := by decide +kernel
theorem d2_6 : decode prog_8_method_3_code 6 = .ok (.lcmp, 1) := by decide +kernel
theorem d2_7 : decode prog_8_method_3_code 7 = .ok (.ifCond .lt 47, 3) := by decide +kernel
theorem d2_10 : decode prog_8_method_3_code 10 = .ok (.lload_n 0, 1) := by decide +kernel
theorem d2_11 : decode prog_8_method_3_code 11 = .ok (.ldc2_w 23, 3) := by decide +kernel
theorem d2_14 : decode prog_8_method_3_code 14 = .ok (.lcmp, 1) := by decide +kernel
theorem d2_15 : decode prog_8_method_3_code 15 = .ok (.ifCond .gt 39, 3) := by decide +kernel
theorem d2_18 : decode prog_8_method_3_code 18 = .ok (.lload_n 0, 1) := by decide +kernel
theorem d2_19 : decode prog_8_method_3_code 19 = .ok (.ldc2_w 19, 3) := by decide +kernel
theorem d2_22 : decode prog_8_method_3_code 22 = .ok (.lsub, 1) := by decide +kernel
theorem d2_23 : decode prog_8_method_3_code 23 = .ok (.lstore_n 3, 1) := by decide +kernel
theorem d2_24 : decode prog_8_method_3_code 24 = .ok (.lload_n 3, 1) := by decide +kernel
theorem d2_25 : decode prog_8_method_3_code 25 = .ok (.ldc2_w 21, 3) := by decide +kernel
theorem d2_28 : decode prog_8_method_3_code 28 = .ok (.lrem, 1) := by decide +kernel
theorem d2_29 : decode prog_8_method_3_code 29 = .ok (.lstore 5, 2) := by decide +kernel
theorem d2_31 : decode prog_8_method_3_code 31 = .ok (.lload 5, 2) := by decide +kernel
theorem d2_33 : decode prog_8_method_3_code 33 = .ok (.ldc2_w 25, 3) := by decide +kernel
theorem d2_36 : decode prog_8_method_3_code 36 = .ok (.lcmp, 1) := by decide +kernel
theorem d2_37 : decode prog_8_method_3_code 37 = .ok (.ifCond .ge 17, 3) := by decide +kernel
theorem d2_40 : decode prog_8_method_3_code 40 = .ok (.lload_n 3, 1) := by decide +kernel
theorem d2_41 : decode prog_8_method_3_code 41 = .ok (.ldc2_w 21, 3) := by decide +kernel
theorem d2_44 : decode prog_8_method_3_code 44 = .ok (.ldiv, 1) := by decide +kernel
theorem d2_45 : decode prog_8_method_3_code 45 = .ok (.ldc2_w 25, 3) := by decide +kernel
theorem d2_48 : decode prog_8_method_3_code 48 = .ok (.lmul, 1) := by decide +kernel
theorem d2_49 : decode prog_8_method_3_code 49 = .ok (.lload 5, 2) := by decide +kernel
theorem d2_51 : decode prog_8_method_3_code 51 = .ok (.ladd, 1) := by decide +kernel
theorem d2_52 : decode prog_8_method_3_code 52 = .ok (.l2i, 1) := by decide +kernel
theorem d2_53 : decode prog_8_method_3_code 53 = .ok (.istore_n 2, 1) := by decide +kernel
theorem d2_54 : decode prog_8_method_3_code 54 = .ok (.iload_n 2, 1) := by decide +kernel
theorem d2_55 : decode prog_8_method_3_code 55 = .ok (.ireturn, 1) := by decide +kernel
theorem pn_2 : plainName "com/example/sealwright/sealwright/cmw/ContentFormat" = true := by first | (simp [plainName, overriddenIn]; done) | decide +kernel
theorem ef_2 (m : MethodId) (q0 : Int64) : entryFrame m #[(.long q0)] 7 = mkF m 0 #[.val (.long q0), .second, .unset, .unset, .unset, .unset, .unset] [] := by first | (simp [entryFrame, mkF, argsToLocals, Value.category]; done) | rfl
def v2_0 (q0 : Int64) : Int32 := (((((q0 - (1668546817 : Int64)) / (256 : Int64)) * (255 : Int64)) + ((q0 - (1668546817 : Int64)) % (256 : Int64))).toInt32)
def f2 (q0 : Int64) : Int32 := (if q0 < (1668546817 : Int64) then (-1 : Int32) else (if (1668612095 : Int64) < q0 then (-1 : Int32) else (if ((q0 - (1668546817 : Int64)) % (256 : Int64)) < (255 : Int64) then (v2_0 q0) else (-1 : Int32))))
def Q2 (Z : State) (q0 : Int64) (h0 : Heap) (n0 : Nat) (v : Option Value) (h : Heap) (L : List Loc) : Prop := v = some (.int (f2 q0)) ∧ Fr n0 L ∧ h = h0
set_option maxRecDepth 65536 in
set_option maxHeartbeats 40000000 in
theorem rm2 (l : Launch) (Z : State) (a0 : Array Value) (hw : ∀ d ∈ tables_1, d.before a0 Z = true) (ws : List Jvm.Cond) (q0 : Int64) (h0 : Heap) (n0 : Nat) (Z0 : n0 ≤ h0.size) :
    MetFree l (⟨"com/example/sealwright/sealwright/cmw/ContentFormat", "of", "(J)I"⟩ : MethodName) (head1 (Jvm.Cond.code (⟨"com/example/sealwright/sealwright/cmw/ContentFormat", "of", "(J)I"⟩ : MethodName) prog_8_method_3_code 7 (some .int) :: ws) ({ frames := 0, cells := 0, slots := 0, locals := 0 } : Room)) (fun a U => a = #[(.long q0)] ∧ Z.Warmed39 U.vm ∧ U.heap = h0) (fun _ _ _ _ _ => True) (fun _ U o U' => ∃ v L, o = .returned v ∧ Q2 Z q0 h0 n0 v U'.heap L ∧ FrameEnd U o U' L ({ frames := 0, cells := 0, slots := 0, locals := 0 } : Room).cells ({ frames := 0, cells := 0, slots := 0, locals := 0 } : Room).slots) := by
  refine MetFree.of_bodySF (plainFor_of_name pn_2) hisR ?_
  intro p e s m args below meth c s₁ Bd hml0 hP hK
  obtain ⟨rfl, hZ, hh⟩ := hP
  have hx := Bd.exec
  have hby := Bd.bytes
  have hml : c.maxLocals = 7 := hml0
  have hown : s.vm.findClass "com/example/sealwright/sealwright/cmw/ContentFormat" = some m.cls := findClass_of_methodNamed Bd.named
  have hnm := (name_of_methodNamed Bd.named Bd.method).1
  have X0 : Stand p l e ({ frames := 0, cells := 0, slots := 0, locals := 0 } : Room) s m #[(.long q0)] below meth c s₁ [] 0 0 := Stand.of_body Bd
  have e0 : s₁.heap = h0 := by rw [← hh, Bd.state]; rfl
  have N0 := Fr.nil n0
  show OGo p e below s (Q2 Z q0 h0 n0) ({ frames := 0, cells := 0, slots := 0, locals := 0 } : Room).cells ({ frames := 0, cells := 0, slots := 0, locals := 0 } : Room).slots _
  refine OGo.st (fun _ k => castTop (ef_2 m q0) k) ?_
  show OGo p e below s _ _ _ (s₁.setTop (mkF m 0 #[.val (.long q0), .second, .unset, .unset, .unset, .unset, .unset] []))
  refine OGo.st (fun _ k => XS.iconst X0.here hx rfl (hb hby d2_0) k) ?_
  show OGo p e below s _ _ _ (s₁.setTop (mkF m 1 #[.val (.long q0), .second, .unset, .unset, .unset, .unset, .unset] [(.int (-1 : Int32))]))
  refine OGo.st (fun _ k => XS.istoreN X0.here hx rfl (hb hby d2_1) rfl (l' := #[.val (.long q0), .second, .val (.int (-1 : Int32)), .unset, .unset, .unset, .unset]) rfl k) ?_
  show OGo p e below s _ _ _ (s₁.setTop (mkF m 2 #[.val (.long q0), .second, .val (.int (-1 : Int32)), .unset, .unset, .unset, .unset] []))
  refine OGo.st (fun _ k => XS.lloadN X0.here hx rfl (hb hby d2_2) rfl k) ?_
  show OGo p e below s _ _ _ (s₁.setTop (mkF m 3 #[.val (.long q0), .second, .val (.int (-1 : Int32)), .unset, .unset, .unset, .unset] [(.long q0)]))
  refine OGo.st (fun _ k => X0.ldc2Long hx hown (mvT hZ (hw _ (List.mem_of_getElem? (i := 12) rfl))) (g := (mkF m 3 #[.val (.long q0), .second, .val (.int (-1 : Int32)), .unset, .unset, .unset, .unset] [(.long q0)])) rfl (hb hby d2_3) _ k) ?_
  show OGo p e below s _ _ _ (s₁.setTop (mkF m 6 #[.val (.long q0), .second, .val (.int (-1 : Int32)), .unset, .unset, .unset, .unset] [(.long (1668546817 : Int64)), (.long q0)]))
  refine OGo.st (fun _ k => XS.lcmp X0.here hx rfl (hb hby d2_6) rfl k) ?_
  show OGo p e below s _ _ _ (s₁.setTop (mkF m 7 #[.val (.long q0), .second, .val (.int (-1 : Int32)), .unset, .unset, .unset, .unset] [(.int (lcmpW q0 (1668546817 : Int64)))]))
  by_cases hc7 : q0 < (1668546817 : Int64)
  · refine OGo.st (fun _ k => XS.ifYes X0.here hx rfl (pc0 := 7) (pc' := 54) rfl (hb hby d2_7) rfl ((if0 _ _).trans (tlt ((olc_lt _ _).mpr hc7)).1) (by decide) (by decide) k) ?_
    show OGo p e below s _ _ _ (s₁.setTop (mkF m 54 #[.val (.long q0), .second, .val (.int (-1 : Int32)), .unset, .unset, .unset, .unset] []))
    refine OGo.st (fun _ k => XS.iloadN X0.here hx rfl (hb hby d2_54) rfl k) ?_
    show OGo p e below s _ _ _ (s₁.setTop (mkF m 55 #[.val (.long q0), .second, .val (.int (-1 : Int32)), .unset, .unset, .unset, .unset] [(.int (-1 : Int32))]))
    exact oretI X0 hx Bd.notSynchronized Bd.returns (hb hby d2_55) e0 ⟨(congrArg (fun z => some (Value.int z)) (show (-1 : Int32) = f2 q0 from Eq.symm (by unfold f2; exact if_pos hc7))), N0, rfl⟩ (by decide) (by decide)
  · refine OGo.st (fun _ k => XS.ifNo X0.here hx rfl (hb hby d2_7) rfl ((if0 _ _).trans (flt (fun z => hc7 ((olc_lt _ _).mp z))).1) k) ?_
    show OGo p e below s _ _ _ (s₁.setTop (mkF m 10 #[.val (.long q0), .second, .val (.int (-1 : Int32)), .unset, .unset, .unset, .unset] []))
    refine OGo.st (fun _ k => XS.lloadN X0.here hx rfl (hb hby d2_10) rfl k) ?_
    show OGo p e below s _ _ _ (s₁.setTop (mkF m 11 #[.val (.long q0), .second, .val (.int (-1 : Int32)), .unset, .unset, .unset, .unset] [(.long q0)]))
    refine OGo.st (fun _ k => X0.ldc2Long hx hown (mvT hZ (hw _ (List.mem_of_getElem? (i := 14) rfl))) (g := (mkF m 11 #[.val (.long q0), .second, .val (.int (-1 : Int32)), .unset, .unset, .unset, .unset] [(.long q0)])) rfl (hb hby d2_11) _ k) ?_
    show OGo p e below s _ _ _ (s₁.setTop (mkF m 14 #[.val (.long q0), .second, .val (.int (-1 : Int32)), .unset, .unset, .unset, .unset] [(.long (1668612095 : Int64)), (.long q0)]))
    refine OGo.st (fun _ k => XS.lcmp X0.here hx rfl (hb hby d2_14) rfl k) ?_
    show OGo p e below s _ _ _ (s₁.setTop (mkF m 15 #[.val (.long q0), .second, .val (.int (-1 : Int32)), .unset, .unset, .unset, .unset] [(.int (lcmpW q0 (1668612095 : Int64)))]))
    by_cases hc15 : (1668612095 : Int64) < q0
    · refine OGo.st (fun _ k => XS.ifYes X0.here hx rfl (pc0 := 15) (pc' := 54) rfl (hb hby d2_15) rfl ((if0 _ _).trans (tlt ((olc_gt _ _).mpr hc15)).2.2.1) (by decide) (by decide) k) ?_
      show OGo p e below s _ _ _ (s₁.setTop (mkF m 54 #[.val (.long q0), .second, .val (.int (-1 : Int32)), .unset, .unset, .unset, .unset] []))
      refine OGo.st (fun _ k => XS.iloadN X0.here hx rfl (hb hby d2_54) rfl k) ?_
      show OGo p e below s _ _ _ (s₁.setTop (mkF m 55 #[.val (.long q0), .second, .val (.int (-1 : Int32)), .unset, .unset, .unset, .unset] [(.int (-1 : Int32))]))
      exact oretI X0 hx Bd.notSynchronized Bd.returns (hb hby d2_55) e0 ⟨(congrArg (fun z => some (Value.int z)) (show (-1 : Int32) = f2 q0 from Eq.symm (by unfold f2; exact (if_neg hc7).trans (if_pos hc15)))), N0, rfl⟩ (by decide) (by decide)
    · refine OGo.st (fun _ k => XS.ifNo X0.here hx rfl (hb hby d2_15) rfl ((if0 _ _).trans (flt (fun z => hc15 ((olc_gt _ _).mp z))).2.2.1) k) ?_
      show OGo p e below s _ _ _ (s₁.setTop (mkF m 18 #[.val (.long q0), .second, .val (.int (-1 : Int32)), .unset, .unset, .unset, .unset] []))
      refine OGo.st (fun _ k => XS.lloadN X0.here hx rfl (hb hby d2_18) rfl k) ?_
      show OGo p e below s _ _ _ (s₁.setTop (mkF m 19 #[.val (.long q0), .second, .val (.int (-1 : Int32)), .unset, .unset, .unset, .unset] [(.long q0)]))
      refine OGo.st (fun _ k => X0.ldc2Long hx hown (mvT hZ (hw _ (List.mem_of_getElem? (i := 12) rfl))) (g := (mkF m 19 #[.val (.long q0), .second, .val (.int (-1 : Int32)), .unset, .unset, .unset, .unset] [(.long q0)])) rfl (hb hby d2_19) _ k) ?_
      show OGo p e below s _ _ _ (s₁.setTop (mkF m 22 #[.val (.long q0), .second, .val (.int (-1 : Int32)), .unset, .unset, .unset, .unset] [(.long (1668546817 : Int64)), (.long q0)]))
      refine OGo.st (fun _ k => XS.lsub X0.here hx rfl (hb hby d2_22) rfl k) ?_
      show OGo p e below s _ _ _ (s₁.setTop (mkF m 23 #[.val (.long q0), .second, .val (.int (-1 : Int32)), .unset, .unset, .unset, .unset] [(.long (q0 - (1668546817 : Int64)))]))
      refine OGo.st (fun _ k => XS.lstoreN X0.here hx rfl (hb hby d2_23) rfl (l' := #[.val (.long q0), .second, .val (.int (-1 : Int32)), .val (.long (q0 - (1668546817 : Int64))), .second, .unset, .unset]) rfl k) ?_
      show OGo p e below s _ _ _ (s₁.setTop (mkF m 24 #[.val (.long q0), .second, .val (.int (-1 : Int32)), .val (.long (q0 - (1668546817 : Int64))), .second, .unset, .unset] []))
      refine OGo.st (fun _ k => XS.lloadN X0.here hx rfl (hb hby d2_24) rfl k) ?_
      show OGo p e below s _ _ _ (s₁.setTop (mkF m 25 #[.val (.long q0), .second, .val (.int (-1 : Int32)), .val (.long (q0 - (1668546817 : Int64))), .second, .unset, .unset] [(.long (q0 - (1668546817 : Int64)))]))
      refine OGo.st (fun _ k => X0.ldc2Long hx hown (mvT hZ (hw _ (List.mem_of_getElem? (i := 16) rfl))) (g := (mkF m 25 #[.val (.long q0), .second, .val (.int (-1 : Int32)), .val (.long (q0 - (1668546817 : Int64))), .second, .unset, .unset] [(.long (q0 - (1668546817 : Int64)))])) rfl (hb hby d2_25) _ k) ?_
      show OGo p e below s _ _ _ (s₁.setTop (mkF m 28 #[.val (.long q0), .second, .val (.int (-1 : Int32)), .val (.long (q0 - (1668546817 : Int64))), .second, .unset, .unset] [(.long (256 : Int64)), (.long (q0 - (1668546817 : Int64)))]))
      refine OGo.st (fun _ k => olrem X0.here hx rfl (hb hby d2_28) rfl (by decide) k) ?_
      show OGo p e below s _ _ _ (s₁.setTop (mkF m 29 #[.val (.long q0), .second, .val (.int (-1 : Int32)), .val (.long (q0 - (1668546817 : Int64))), .second, .unset, .unset] [(.long ((q0 - (1668546817 : Int64)) % (256 : Int64)))]))
      refine OGo.st (fun _ k => XS.lstore X0.here hx rfl (hb hby d2_29) rfl (l' := #[.val (.long q0), .second, .val (.int (-1 : Int32)), .val (.long (q0 - (1668546817 : Int64))), .second, .val (.long ((q0 - (1668546817 : Int64)) % (256 : Int64))), .second]) rfl k) ?_
      show OGo p e below s _ _ _ (s₁.setTop (mkF m 31 #[.val (.long q0), .second, .val (.int (-1 : Int32)), .val (.long (q0 - (1668546817 : Int64))), .second, .val (.long ((q0 - (1668546817 : Int64)) % (256 : Int64))), .second] []))
      refine OGo.st (fun _ k => XS.lload X0.here hx rfl (hb hby d2_31) rfl k) ?_
      show OGo p e below s _ _ _ (s₁.setTop (mkF m 33 #[.val (.long q0), .second, .val (.int (-1 : Int32)), .val (.long (q0 - (1668546817 : Int64))), .second, .val (.long ((q0 - (1668546817 : Int64)) % (256 : Int64))), .second] [(.long ((q0 - (1668546817 : Int64)) % (256 : Int64)))]))
      refine OGo.st (fun _ k => X0.ldc2Long hx hown (mvT hZ (hw _ (List.mem_of_getElem? (i := 17) rfl))) (g := (mkF m 33 #[.val (.long q0), .second, .val (.int (-1 : Int32)), .val (.long (q0 - (1668546817 : Int64))), .second, .val (.long ((q0 - (1668546817 : Int64)) % (256 : Int64))), .second] [(.long ((q0 - (1668546817 : Int64)) % (256 : Int64)))])) rfl (hb hby d2_33) _ k) ?_
      show OGo p e below s _ _ _ (s₁.setTop (mkF m 36 #[.val (.long q0), .second, .val (.int (-1 : Int32)), .val (.long (q0 - (1668546817 : Int64))), .second, .val (.long ((q0 - (1668546817 : Int64)) % (256 : Int64))), .second] [(.long (255 : Int64)), (.long ((q0 - (1668546817 : Int64)) % (256 : Int64)))]))
      refine OGo.st (fun _ k => XS.lcmp X0.here hx rfl (hb hby d2_36) rfl k) ?_
      show OGo p e below s _ _ _ (s₁.setTop (mkF m 37 #[.val (.long q0), .second, .val (.int (-1 : Int32)), .val (.long (q0 - (1668546817 : Int64))), .second, .val (.long ((q0 - (1668546817 : Int64)) % (256 : Int64))), .second] [(.int (lcmpW ((q0 - (1668546817 : Int64)) % (256 : Int64)) (255 : Int64)))]))
      by_cases hc37 : ((q0 - (1668546817 : Int64)) % (256 : Int64)) < (255 : Int64)
      · refine OGo.st (fun _ k => XS.ifNo X0.here hx rfl (hb hby d2_37) rfl ((if0 _ _).trans (tlt ((olc_lt _ _).mpr hc37)).2.1) k) ?_
        show OGo p e below s _ _ _ (s₁.setTop (mkF m 40 #[.val (.long q0), .second, .val (.int (-1 : Int32)), .val (.long (q0 - (1668546817 : Int64))), .second, .val (.long ((q0 - (1668546817 : Int64)) % (256 : Int64))), .second] []))
        refine OGo.st (fun _ k => XS.lloadN X0.here hx rfl (hb hby d2_40) rfl k) ?_
        show OGo p e below s _ _ _ (s₁.setTop (mkF m 41 #[.val (.long q0), .second, .val (.int (-1 : Int32)), .val (.long (q0 - (1668546817 : Int64))), .second, .val (.long ((q0 - (1668546817 : Int64)) % (256 : Int64))), .second] [(.long (q0 - (1668546817 : Int64)))]))
        refine OGo.st (fun _ k => X0.ldc2Long hx hown (mvT hZ (hw _ (List.mem_of_getElem? (i := 16) rfl))) (g := (mkF m 41 #[.val (.long q0), .second, .val (.int (-1 : Int32)), .val (.long (q0 - (1668546817 : Int64))), .second, .val (.long ((q0 - (1668546817 : Int64)) % (256 : Int64))), .second] [(.long (q0 - (1668546817 : Int64)))])) rfl (hb hby d2_41) _ k) ?_
        show OGo p e below s _ _ _ (s₁.setTop (mkF m 44 #[.val (.long q0), .second, .val (.int (-1 : Int32)), .val (.long (q0 - (1668546817 : Int64))), .second, .val (.long ((q0 - (1668546817 : Int64)) % (256 : Int64))), .second] [(.long (256 : Int64)), (.long (q0 - (1668546817 : Int64)))]))
        refine OGo.st (fun _ k => XS.ldiv X0.here hx rfl (hb hby d2_44) rfl (by decide) k) ?_
        show OGo p e below s _ _ _ (s₁.setTop (mkF m 45 #[.val (.long q0), .second, .val (.int (-1 : Int32)), .val (.long (q0 - (1668546817 : Int64))), .second, .val (.long ((q0 - (1668546817 : Int64)) % (256 : Int64))), .second] [(.long ((q0 - (1668546817 : Int64)) / (256 : Int64)))]))
        refine OGo.st (fun _ k => X0.ldc2Long hx hown (mvT hZ (hw _ (List.mem_of_getElem? (i := 17) rfl))) (g := (mkF m 45 #[.val (.long q0), .second, .val (.int (-1 : Int32)), .val (.long (q0 - (1668546817 : Int64))), .second, .val (.long ((q0 - (1668546817 : Int64)) % (256 : Int64))), .second] [(.long ((q0 - (1668546817 : Int64)) / (256 : Int64)))])) rfl (hb hby d2_45) _ k) ?_
        show OGo p e below s _ _ _ (s₁.setTop (mkF m 48 #[.val (.long q0), .second, .val (.int (-1 : Int32)), .val (.long (q0 - (1668546817 : Int64))), .second, .val (.long ((q0 - (1668546817 : Int64)) % (256 : Int64))), .second] [(.long (255 : Int64)), (.long ((q0 - (1668546817 : Int64)) / (256 : Int64)))]))
        refine OGo.st (fun _ k => XS.lmul X0.here hx rfl (hb hby d2_48) rfl k) ?_
        show OGo p e below s _ _ _ (s₁.setTop (mkF m 49 #[.val (.long q0), .second, .val (.int (-1 : Int32)), .val (.long (q0 - (1668546817 : Int64))), .second, .val (.long ((q0 - (1668546817 : Int64)) % (256 : Int64))), .second] [(.long (((q0 - (1668546817 : Int64)) / (256 : Int64)) * (255 : Int64)))]))
        refine OGo.st (fun _ k => XS.lload X0.here hx rfl (hb hby d2_49) rfl k) ?_
        show OGo p e below s _ _ _ (s₁.setTop (mkF m 51 #[.val (.long q0), .second, .val (.int (-1 : Int32)), .val (.long (q0 - (1668546817 : Int64))), .second, .val (.long ((q0 - (1668546817 : Int64)) % (256 : Int64))), .second] [(.long ((q0 - (1668546817 : Int64)) % (256 : Int64))), (.long (((q0 - (1668546817 : Int64)) / (256 : Int64)) * (255 : Int64)))]))
        refine OGo.st (fun _ k => XS.ladd X0.here hx rfl (hb hby d2_51) rfl k) ?_
        show OGo p e below s _ _ _ (s₁.setTop (mkF m 52 #[.val (.long q0), .second, .val (.int (-1 : Int32)), .val (.long (q0 - (1668546817 : Int64))), .second, .val (.long ((q0 - (1668546817 : Int64)) % (256 : Int64))), .second] [(.long ((((q0 - (1668546817 : Int64)) / (256 : Int64)) * (255 : Int64)) + ((q0 - (1668546817 : Int64)) % (256 : Int64))))]))
        refine OGo.st (fun _ k => XS.l2i X0.here hx rfl (hb hby d2_52) rfl k) ?_
        show OGo p e below s _ _ _ (s₁.setTop (mkF m 53 #[.val (.long q0), .second, .val (.int (-1 : Int32)), .val (.long (q0 - (1668546817 : Int64))), .second, .val (.long ((q0 - (1668546817 : Int64)) % (256 : Int64))), .second] [(.int (((((q0 - (1668546817 : Int64)) / (256 : Int64)) * (255 : Int64)) + ((q0 - (1668546817 : Int64)) % (256 : Int64))).toInt32))]))
        refine OGo.st (fun _ k => XS.istoreN X0.here hx rfl (hb hby d2_53) rfl (l' := #[.val (.long q0), .second, .val (.int (v2_0 q0)), .val (.long (q0 - (1668546817 : Int64))), .second, .val (.long ((q0 - (1668546817 : Int64)) % (256 : Int64))), .second]) rfl k) ?_
        show OGo p e below s _ _ _ (s₁.setTop (mkF m 54 #[.val (.long q0), .second, .val (.int (v2_0 q0)), .val (.long (q0 - (1668546817 : Int64))), .second, .val (.long ((q0 - (1668546817 : Int64)) % (256 : Int64))), .second] []))
        refine OGo.st (fun _ k => XS.iloadN X0.here hx rfl (hb hby d2_54) rfl k) ?_
        show OGo p e below s _ _ _ (s₁.setTop (mkF m 55 #[.val (.long q0), .second, .val (.int (v2_0 q0)), .val (.long (q0 - (1668546817 : Int64))), .second, .val (.long ((q0 - (1668546817 : Int64)) % (256 : Int64))), .second] [(.int (v2_0 q0))]))
        exact oretI X0 hx Bd.notSynchronized Bd.returns (hb hby d2_55) e0 ⟨(congrArg (fun z => some (Value.int z)) (show (v2_0 q0) = f2 q0 from Eq.symm (by unfold f2; exact (if_neg hc7).trans ((if_neg hc15).trans (if_pos hc37))))), N0, rfl⟩ (by decide) (by decide)
      · refine OGo.st (fun _ k => XS.ifYes X0.here hx rfl (pc0 := 37) (pc' := 54) rfl (hb hby d2_37) rfl ((if0 _ _).trans (flt (fun z => hc37 ((olc_lt _ _).mp z))).2.1) (by decide) (by decide) k) ?_
        show OGo p e below s _ _ _ (s₁.setTop (mkF m 54 #[.val (.long q0), .second, .val (.int (-1 : Int32)), .val (.long (q0 - (1668546817 : Int64))), .second, .val (.long ((q0 - (1668546817 : Int64)) % (256 : Int64))), .second] []))
        refine OGo.st (fun _ k => XS.iloadN X0.here hx rfl (hb hby d2_54) rfl k) ?_
        show OGo p e below s _ _ _ (s₁.setTop (mkF m 55 #[.val (.long q0), .second, .val (.int (-1 : Int32)), .val (.long (q0 - (1668546817 : Int64))), .second, .val (.long ((q0 - (1668546817 : Int64)) % (256 : Int64))), .second] [(.int (-1 : Int32))]))
        exact oretI X0 hx Bd.notSynchronized Bd.returns (hb hby d2_55) e0 ⟨(congrArg (fun z => some (Value.int z)) (show (-1 : Int32) = f2 q0 from Eq.symm (by unfold f2; exact (if_neg hc7).trans ((if_neg hc15).trans (if_neg hc37))))), N0, rfl⟩ (by decide) (by decide)
theorem d3_0 : decode prog_8_method_2_code 0 = .ok (.iload_n 0, 1) := by decide +kernel
theorem d3_1 : decode prog_8_method_2_code 1 = .ok (.ifCond .lt 9, 3) := by decide +kernel
theorem d3_4 : decode prog_8_method_2_code 4 = .ok (.iload_n 0, 1) := by decide +kernel
theorem d3_5 : decode prog_8_method_2_code 5 = .ok (.ldc 9, 2) := by decide +kernel
theorem d3_7 : decode prog_8_method_2_code 7 = .ok (.if_icmp .le 17, 3) := by decide +kernel
theorem d3_24 : decode prog_8_method_2_code 24 = .ok (.ldc2_w 19, 3) := by decide +kernel
theorem d3_27 : decode prog_8_method_2_code 27 = .ok (.iload_n 0, 1) := by decide +kernel
theorem d3_28 : decode prog_8_method_2_code 28 = .ok (.sipush 255, 3) := by decide +kernel
theorem d3_31 : decode prog_8_method_2_code 31 = .ok (.idiv, 1) := by decide +kernel
theorem d3_32 : decode prog_8_method_2_code 32 = .ok (.i2l, 1) := by decide +kernel
theorem d3_33 : decode prog_8_method_2_code 33 = .ok (.ldc2_w 21, 3) := by decide +kernel
theorem d3_36 : decode prog_8_method_2_code 36 = .ok (.lmul, 1) := by decide +kernel
theorem d3_37 : decode prog_8_method_2_code 37 = .ok (.ladd, 1) := by decide +kernel
theorem d3_38 : decode prog_8_method_2_code 38 = .ok (.iload_n 0, 1) := by decide +kernel
theorem d3_39 : decode prog_8_method_2_code 39 = .ok (.sipush 255, 3) := by decide +kernel
theorem d3_42 : decode prog_8_method_2_code 42 = .ok (.irem, 1) := by decide +kernel
theorem d3_43 : decode prog_8_method_2_code 43 = .ok (.i2l, 1) := by decide +kernel
theorem d3_44 : decode prog_8_method_2_code 44 = .ok (.ladd, 1) := by decide +kernel
theorem d3_45 : decode prog_8_method_2_code 45 = .ok (.lreturn, 1) := by decide +kernel
theorem pn_3 : plainName "com/example/sealwright/sealwright/cmw/ContentFormat" = true := by first | (simp [plainName, overriddenIn]; done) | decide +kernel
theorem ef_3 (m : MethodId) (p0 : Int32) : entryFrame m #[(.int p0)] 1 = mkF m 0 #[.val (.int p0)] [] := by first | (simp [entryFrame, mkF, argsToLocals, Value.category]; done) | rfl
def f3 (p0 : Int32) : Int64 := (if p0 < (0 : Int32) then 0 else (if (65024 : Int32) < p0 then 0 else (((1668546817 : Int64) + (((p0 / (255 : Int32)).toInt64) * (256 : Int64))) + ((p0 % (255 : Int32)).toInt64))))
def Q3 (Z : State) (p0 : Int32) (h0 : Heap) (n0 : Nat) (v : Option Value) (h : Heap) (L : List Loc) : Prop := v = some (.long (f3 p0)) ∧ Fr n0 L ∧ h = h0
set_option maxRecDepth 65536 in
set_option maxHeartbeats 40000000 in
theorem rm3 (l : Launch) (Z : State) (a0 : Array Value) (hw : ∀ d ∈ tables_1, d.before a0 Z = true) (ws : List Jvm.Cond) (p0 : Int32) (h0 : Heap) (n0 : Nat) (Z0 : n0 ≤ h0.size) (hp1 : ¬ (p0 < (0 : Int32))) (hp2 : ¬ ((65024 : Int32) < p0)) :
    MetFree l (⟨"com/example/sealwright/sealwright/cmw/ContentFormat", "tagNumber", "(I)J"⟩ : MethodName) (head1 (Jvm.Cond.code (⟨"com/example/sealwright/sealwright/cmw/ContentFormat", "tagNumber", "(I)J"⟩ : MethodName) prog_8_method_2_code 1 (some .long) :: ws) ({ frames := 0, cells := 0, slots := 0, locals := 0 } : Room)) (fun a U => a = #[(.int p0)] ∧ Z.Warmed39 U.vm ∧ U.heap = h0) (fun _ _ _ _ _ => True) (fun _ U o U' => ∃ v L, o = .returned v ∧ Q3 Z p0 h0 n0 v U'.heap L ∧ FrameEnd U o U' L ({ frames := 0, cells := 0, slots := 0, locals := 0 } : Room).cells ({ frames := 0, cells := 0, slots := 0, locals := 0 } : Room).slots) := by
  refine MetFree.of_bodySF (plainFor_of_name pn_3) hisR ?_
  intro p e s m args below meth c s₁ Bd hml0 hP hK
  obtain ⟨rfl, hZ, hh⟩ := hP
  have hx := Bd.exec
  have hby := Bd.bytes
  have hml : c.maxLocals = 1 := hml0
  have hown : s.vm.findClass "com/example/sealwright/sealwright/cmw/ContentFormat" = some m.cls := findClass_of_methodNamed Bd.named
  have hnm := (name_of_methodNamed Bd.named Bd.method).1
  have X0 : Stand p l e ({ frames := 0, cells := 0, slots := 0, locals := 0 } : Room) s m #[(.int p0)] below meth c s₁ [] 0 0 := Stand.of_body Bd
  have e0 : s₁.heap = h0 := by rw [← hh, Bd.state]; rfl
  have N0 := Fr.nil n0
  show OGo p e below s (Q3 Z p0 h0 n0) ({ frames := 0, cells := 0, slots := 0, locals := 0 } : Room).cells ({ frames := 0, cells := 0, slots := 0, locals := 0 } : Room).slots _
  refine OGo.st (fun _ k => castTop (ef_3 m p0) k) ?_
  show OGo p e below s _ _ _ (s₁.setTop (mkF m 0 #[.val (.int p0)] []))
  refine OGo.st (fun _ k => XS.iloadN X0.here hx rfl (hb hby d3_0) rfl k) ?_
  show OGo p e below s _ _ _ (s₁.setTop (mkF m 1 #[.val (.int p0)] [(.int p0)]))
  by_cases hc1 : p0 < (0 : Int32)
  · refine OGo.st (fun _ k => XS.ifYes X0.here hx rfl (pc0 := 1) (pc' := 10) rfl (hb hby d3_1) rfl ((if0 _ _).trans (tlt hc1).1) (by decide) (by decide) k) ?_
    show OGo p e below s _ _ _ (s₁.setTop (mkF m 10 #[.val (.int p0)] []))
    first | exact absurd hc1 hp1 | exact absurd hc7 hp2
  · refine OGo.st (fun _ k => XS.ifNo X0.here hx rfl (hb hby d3_1) rfl ((if0 _ _).trans (flt hc1).1) k) ?_
    show OGo p e below s _ _ _ (s₁.setTop (mkF m 4 #[.val (.int p0)] []))
    refine OGo.st (fun _ k => XS.iloadN X0.here hx rfl (hb hby d3_4) rfl k) ?_
    show OGo p e below s _ _ _ (s₁.setTop (mkF m 5 #[.val (.int p0)] [(.int p0)]))
    refine OGo.st (fun _ k => X0.ldcInt hx hown (mvT hZ (hw _ (List.mem_of_getElem? (i := 21) rfl))) (g := (mkF m 5 #[.val (.int p0)] [(.int p0)])) rfl (hb hby d3_5) _ k) ?_
    show OGo p e below s _ _ _ (s₁.setTop (mkF m 7 #[.val (.int p0)] [(.int (65024 : Int32)), (.int p0)]))
    by_cases hc7 : (65024 : Int32) < p0
    · refine OGo.st (fun _ k => XS.icmpNo X0.here hx rfl (hb hby d3_7) rfl (tlt hc7).2.2.2 k) ?_
      show OGo p e below s _ _ _ (s₁.setTop (mkF m 10 #[.val (.int p0)] []))
      first | exact absurd hc1 hp1 | exact absurd hc7 hp2
    · refine OGo.st (fun _ k => XS.icmpYes X0.here hx rfl (pc0 := 7) (pc' := 24) rfl (hb hby d3_7) rfl (flt hc7).2.2.2 (by decide) (by decide) k) ?_
      show OGo p e below s _ _ _ (s₁.setTop (mkF m 24 #[.val (.int p0)] []))
      refine OGo.st (fun _ k => X0.ldc2Long hx hown (mvT hZ (hw _ (List.mem_of_getElem? (i := 12) rfl))) (g := (mkF m 24 #[.val (.int p0)] [])) rfl (hb hby d3_24) _ k) ?_
      show OGo p e below s _ _ _ (s₁.setTop (mkF m 27 #[.val (.int p0)] [(.long (1668546817 : Int64))]))
      refine OGo.st (fun _ k => XS.iloadN X0.here hx rfl (hb hby d3_27) rfl k) ?_
      show OGo p e below s _ _ _ (s₁.setTop (mkF m 28 #[.val (.int p0)] [(.int p0), (.long (1668546817 : Int64))]))
      refine OGo.st (fun _ k => XS.sipush X0.here hx rfl (hb hby d3_28) k) ?_
      show OGo p e below s _ _ _ (s₁.setTop (mkF m 31 #[.val (.int p0)] [(.int (255 : Int32)), (.int p0), (.long (1668546817 : Int64))]))
      refine OGo.st (fun _ k => XS.idiv X0.here hx rfl (hb hby d3_31) rfl (by decide) k) ?_
      show OGo p e below s _ _ _ (s₁.setTop (mkF m 32 #[.val (.int p0)] [(.int (p0 / (255 : Int32))), (.long (1668546817 : Int64))]))
      refine OGo.st (fun _ k => XS.i2l X0.here hx rfl (hb hby d3_32) rfl k) ?_
      show OGo p e below s _ _ _ (s₁.setTop (mkF m 33 #[.val (.int p0)] [(.long ((p0 / (255 : Int32)).toInt64)), (.long (1668546817 : Int64))]))
      refine OGo.st (fun _ k => X0.ldc2Long hx hown (mvT hZ (hw _ (List.mem_of_getElem? (i := 16) rfl))) (g := (mkF m 33 #[.val (.int p0)] [(.long ((p0 / (255 : Int32)).toInt64)), (.long (1668546817 : Int64))])) rfl (hb hby d3_33) _ k) ?_
      show OGo p e below s _ _ _ (s₁.setTop (mkF m 36 #[.val (.int p0)] [(.long (256 : Int64)), (.long ((p0 / (255 : Int32)).toInt64)), (.long (1668546817 : Int64))]))
      refine OGo.st (fun _ k => XS.lmul X0.here hx rfl (hb hby d3_36) rfl k) ?_
      show OGo p e below s _ _ _ (s₁.setTop (mkF m 37 #[.val (.int p0)] [(.long (((p0 / (255 : Int32)).toInt64) * (256 : Int64))), (.long (1668546817 : Int64))]))
      refine OGo.st (fun _ k => XS.ladd X0.here hx rfl (hb hby d3_37) rfl k) ?_
      show OGo p e below s _ _ _ (s₁.setTop (mkF m 38 #[.val (.int p0)] [(.long ((1668546817 : Int64) + (((p0 / (255 : Int32)).toInt64) * (256 : Int64))))]))
      refine OGo.st (fun _ k => XS.iloadN X0.here hx rfl (hb hby d3_38) rfl k) ?_
      show OGo p e below s _ _ _ (s₁.setTop (mkF m 39 #[.val (.int p0)] [(.int p0), (.long ((1668546817 : Int64) + (((p0 / (255 : Int32)).toInt64) * (256 : Int64))))]))
      refine OGo.st (fun _ k => XS.sipush X0.here hx rfl (hb hby d3_39) k) ?_
      show OGo p e below s _ _ _ (s₁.setTop (mkF m 42 #[.val (.int p0)] [(.int (255 : Int32)), (.int p0), (.long ((1668546817 : Int64) + (((p0 / (255 : Int32)).toInt64) * (256 : Int64))))]))
      refine OGo.st (fun _ k => iremM X0 hx rfl (hb hby d3_42) rfl (by decide) k) ?_
      show OGo p e below s _ _ _ (s₁.setTop (mkF m 43 #[.val (.int p0)] [(.int (p0 % (255 : Int32))), (.long ((1668546817 : Int64) + (((p0 / (255 : Int32)).toInt64) * (256 : Int64))))]))
      refine OGo.st (fun _ k => XS.i2l X0.here hx rfl (hb hby d3_43) rfl k) ?_
      show OGo p e below s _ _ _ (s₁.setTop (mkF m 44 #[.val (.int p0)] [(.long ((p0 % (255 : Int32)).toInt64)), (.long ((1668546817 : Int64) + (((p0 / (255 : Int32)).toInt64) * (256 : Int64))))]))
      refine OGo.st (fun _ k => XS.ladd X0.here hx rfl (hb hby d3_44) rfl k) ?_
      show OGo p e below s _ _ _ (s₁.setTop (mkF m 45 #[.val (.int p0)] [(.long (((1668546817 : Int64) + (((p0 / (255 : Int32)).toInt64) * (256 : Int64))) + ((p0 % (255 : Int32)).toInt64)))]))
      exact oretJ X0 hx Bd.notSynchronized Bd.returns (hb hby d3_45) e0 ⟨(congrArg (fun z => some (Value.long z)) (show (((1668546817 : Int64) + (((p0 / (255 : Int32)).toInt64) * (256 : Int64))) + ((p0 % (255 : Int32)).toInt64)) = f3 p0 from Eq.symm (by unfold f3; exact (if_neg hc1).trans (if_neg hc7)))), N0, rfl⟩ (by decide) (by decide)
theorem own_c1 : (1 : Int32).toInt = 1 := by decide
theorem own_c255 : (255 : Int32).toInt = 255 := by decide
theorem own_c0 : (0 : Int32).toInt = 0 := by decide
theorem own_c65024 : (65024 : Int32).toInt = 65024 := by decide
/-- the low byte of a long, as an int -/
theorem own_byte (x : Int64) : ((x &&& (255 : Int64)).toInt32).toInt = x.toInt % 256 := by
  have m : (x &&& (255 : Int64)).toInt = x.toInt % 2 ^ 8 := Jvm.Kit.i64_mask x 255 (by decide) (by decide)
  rw [Jvm.Kit.i32_of_i64 (by rw [m]; omega) (by rw [m]; omega), m]; rfl
theorem own_num {a b : Int32} (ha : 1 ≤ a.toInt ∧ a.toInt ≤ 255) (hb : 1 ≤ b.toInt ∧ b.toInt ≤ 255) : ((((a - (1 : Int32)) * (255 : Int32)) + (b - (1 : Int32)))).toInt = (a.toInt - 1) * 255 + (b.toInt - 1) := by
  have e1 : (a - (1 : Int32)).toInt = a.toInt - 1 := by rw [Jvm.Kit.i32_sub (by rw [own_c1]; omega) (by rw [own_c1]; omega), own_c1]
  have e2 : (b - (1 : Int32)).toInt = b.toInt - 1 := by rw [Jvm.Kit.i32_sub (by rw [own_c1]; omega) (by rw [own_c1]; omega), own_c1]
  have e3 : ((a - (1 : Int32)) * (255 : Int32)).toInt = (a.toInt - 1) * 255 := by rw [Jvm.Kit.i32_mul (by rw [own_c255, e1]; omega) (by rw [own_c255, e1]; omega), own_c255, e1]
  rw [Jvm.Kit.i32_add (by rw [e3, e2]; omega) (by rw [e3, e2]; omega), e3, e2]
theorem own_rng {a b got : Int32} (ha : 0 ≤ a.toInt ∧ a.toInt ≤ 255) (hb : 0 ≤ b.toInt ∧ b.toInt ≤ 255) (h1 : ¬ a < (1 : Int32)) (h2 : ¬ b < (1 : Int32)) (h : got = ((((a - (1 : Int32)) * (255 : Int32)) + (b - (1 : Int32))))) : 0 ≤ got.toInt ∧ got.toInt ≤ 65024 := by
  rw [Int32.lt_iff_toInt_lt, own_c1] at h1 h2
  have e := own_num (a := a) (b := b) ⟨by omega, ha.2⟩ ⟨by omega, hb.2⟩
  rw [h, e]; omega
theorem own_b (x : Int64) : 0 ≤ ((x &&& (255 : Int64)).toInt32).toInt ∧ ((x &&& (255 : Int64)).toInt32).toInt ≤ 255 := by rw [own_byte]; omega
theorem own_lo {x y : Int64} {got : Int32} (h1 : ¬ ((x &&& (255 : Int64)).toInt32) < (1 : Int32)) (h2 : ¬ ((y &&& (255 : Int64)).toInt32) < (1 : Int32)) (h : got = ((((((x &&& (255 : Int64)).toInt32) - (1 : Int32)) * (255 : Int32)) + (((y &&& (255 : Int64)).toInt32) - (1 : Int32))))) : ¬ (got < (0 : Int32)) := by
  have q := own_rng (own_b x) (own_b y) h1 h2 h
  rw [Int32.lt_iff_toInt_lt, own_c0]; omega
theorem own_hi {x y : Int64} {got : Int32} (h1 : ¬ ((x &&& (255 : Int64)).toInt32) < (1 : Int32)) (h2 : ¬ ((y &&& (255 : Int64)).toInt32) < (1 : Int32)) (h : got = ((((((x &&& (255 : Int64)).toInt32) - (1 : Int32)) * (255 : Int32)) + (((y &&& (255 : Int64)).toInt32) - (1 : Int32))))) : ¬ ((65024 : Int32) < got) := by
  have q := own_rng (own_b x) (own_b y) h1 h2 h
  rw [Int32.lt_iff_toInt_lt, own_c65024]; omega
theorem pn_0 : plainName "com/example/sealwright/sealwright/cmw/ContentFormatOfPinLaw" = true := by first | (simp [plainName, overriddenIn]; done) | decide +kernel
theorem pd_0_0 : parseMethodDescriptor "(JI)J" = some ⟨[.long, .int], some .long⟩ := by decide +kernel
theorem pd_0_1 : parseMethodDescriptor "(J)I" = some ⟨[.long], some .int⟩ := by decide +kernel
theorem pd_0_2 : parseMethodDescriptor "(I)J" = some ⟨[.int], some .long⟩ := by decide +kernel
theorem ef_0 (m : MethodId) (q0 : Int64) (p1 : Int32) : entryFrame m #[(.long q0), (.int p1)] maxLocals = mkF m 0 #[.val (.long q0), .second, .val (.int p1), .unset, .unset, .unset, .unset, .unset, .unset, .unset, .unset, .unset] [] := by first | (simp [entryFrame, mkF, argsToLocals, Value.category, maxLocals]; done) | rfl
def v0_0 (q0 : Int64) (p1 : Int32) : Int64 := (((f1 q0 p1).toUInt64 >>> ((16 : Int32) &&& 0x3f).toInt64.toUInt64).toInt64)
def v0_1 (q0 : Int64) (p1 : Int32) : Int32 := (((((f1 q0 p1).toUInt64 >>> ((8 : Int32) &&& 0x3f).toInt64.toUInt64).toInt64) &&& (255 : Int64)).toInt32)
def v0_2 (q0 : Int64) (p1 : Int32) : Int32 := ((((v0_1 q0 p1) - (1 : Int32)) * (255 : Int32)) + ((((f1 q0 p1) &&& (255 : Int64)).toInt32) - (1 : Int32)))
def f0 (q0 : Int64) (p1 : Int32) : Int32 := (if (v0_0 q0 p1) = (25460 : Int64) then (if (v0_1 q0 p1) < (1 : Int32) then (if (f2 (f1 q0 p1)) = (-1 : Int32) then (1 : Int32) else (0 : Int32)) else (if (((f1 q0 p1) &&& (255 : Int64)).toInt32) < (1 : Int32) then (if (f2 (f1 q0 p1)) = (-1 : Int32) then (1 : Int32) else (0 : Int32)) else (if (f2 (f1 q0 p1)) = (v0_2 q0 p1) then (if (f3 (f2 (f1 q0 p1))) = (f1 q0 p1) then (1 : Int32) else (0 : Int32)) else (0 : Int32)))) else (if (f2 (f1 q0 p1)) = (-1 : Int32) then (1 : Int32) else (0 : Int32)))
def Q0 (Z : State) (q0 : Int64) (p1 : Int32) (h0 : Heap) (n0 : Nat) (v : Option Value) (h : Heap) (L : List Loc) : Prop := v = some (.int (f0 q0 p1)) ∧ Fr n0 L
set_option maxRecDepth 65536 in
set_option maxHeartbeats 40000000 in
theorem rm0 (l : Launch) (Z : State) (a0 : Array Value) (hw : ∀ d ∈ tables_1, d.before a0 Z = true) (ws : List Jvm.Cond) (q0 : Int64) (p1 : Int32) (h0 : Heap) (n0 : Nat) (Z0 : n0 ≤ h0.size) :
    MetFree l x (head1 (Jvm.Cond.code x code maxLocals ret :: ws) room_1) (fun a U => a = #[(.long q0), (.int p1)] ∧ Z.Warmed39 U.vm ∧ U.heap = h0) (fun _ _ _ _ _ => True) (fun _ U o U' => ∃ v L, o = .returned v ∧ Q0 Z q0 p1 h0 n0 v U'.heap L ∧ FrameEnd U o U' L room_1.cells room_1.slots) := by
  refine MetFree.of_bodySF (plainFor_of_name pn_0) hisR ?_
  intro p e s m args below meth c s₁ Bd hml0 hP hK
  obtain ⟨rfl, hZ, hh⟩ := hP
  have hx := Bd.exec
  have hby := Bd.bytes
  have hml : c.maxLocals = 12 := hml0
  have hown : s.vm.findClass "com/example/sealwright/sealwright/cmw/ContentFormatOfPinLaw" = some m.cls := findClass_of_methodNamed Bd.named
  have hnm := (name_of_methodNamed Bd.named Bd.method).1
  have X0 : Stand p l e room_1 s m #[(.long q0), (.int p1)] below meth c s₁ [] 0 0 := Stand.of_body Bd
  have e0 : s₁.heap = h0 := by rw [← hh, Bd.state]; rfl
  have N0 := Fr.nil n0
  show OGo p e below s (Q0 Z q0 p1 h0 n0) room_1.cells room_1.slots _
  refine OGo.st (fun _ k => castTop (ef_0 m q0 p1) k) ?_
  show OGo p e below s _ _ _ (s₁.setTop (mkF m 0 #[.val (.long q0), .second, .val (.int p1), .unset, .unset, .unset, .unset, .unset, .unset, .unset, .unset, .unset] []))
  refine OGo.st (fun _ k => XS.lloadN X0.here hx rfl (hb hby at_0) rfl k) ?_
  show OGo p e below s _ _ _ (s₁.setTop (mkF m 1 #[.val (.long q0), .second, .val (.int p1), .unset, .unset, .unset, .unset, .unset, .unset, .unset, .unset, .unset] [(.long q0)]))
  refine OGo.st (fun _ k => XS.iloadN X0.here hx rfl (hb hby at_1) rfl k) ?_
  show OGo p e below s _ _ _ (s₁.setTop (mkF m 2 #[.val (.long q0), .second, .val (.int p1), .unset, .unset, .unset, .unset, .unset, .unset, .unset, .unset, .unset] [(.int p1), (.long q0)]))
  obtain ⟨_, _, ⟨T1, L1, k1, n1⟩, -, X1, ⟨Lc1, hQ1, l1, y1, z1⟩, st1⟩ := Jvm.LawKit.callS X0 hx (y := (⟨"com/example/sealwright/sealwright/cmw/ContentFormatOfPinLaw", "pick", "(JI)J"⟩ : MethodName)) hown (mvT hZ (hw _ (List.mem_of_getElem? (i := 0) rfl))) (mvT hZ (hw _ (List.mem_of_getElem? (i := 1) rfl))) (mvT hZ (hw _ (List.mem_of_getElem? (i := 2) rfl))) (mvT hZ (hw _ (List.mem_of_getElem? (i := 3) rfl))) (by decide) (backOf (W := 0) (rm1 l Z a0 hw [] q0 p1 h0 n0 Z0) hZ (hw _ (List.mem_of_getElem? (i := 3) rfl)) (hw _ (List.mem_of_getElem? (i := 2) rfl)) (by decide) (by decide)) (g := (mkF m 2 #[.val (.long q0), .second, .val (.int p1), .unset, .unset, .unset, .unset, .unset, .unset, .unset, .unset, .unset] [(.int p1), (.long q0)])) rfl (by rw [hml]; rfl) (argsL := [(.long q0), (.int p1)]) (rest := []) (lenOf pd_0_0 rfl) rfl (by show 2 * 0 + _ ≤ _; exact Nat.le_of_eq rfl) (hb hby at_2) (fun _ _ => ⟨rfl, e0, (by decide : 0 + 0 ≤ _), (by decide : 0 + 0 ≤ _)⟩)
  dsimp only [Pt.U, Pt.locs, Pt.cells, Pt.slots] at X1 l1 y1 z1 st1 hQ1
  subst l1 y1 z1
  obtain ⟨rfl, N1q, e1⟩ := hQ1
  have N1 := Fr.app N0 N1q
  refine OGo.st st1 ?_
  show OGo p e below s _ _ _ (T1.setTop (mkF m 5 #[.val (.long q0), .second, .val (.int p1), .unset, .unset, .unset, .unset, .unset, .unset, .unset, .unset, .unset] [(.long (f1 q0 p1))]))
  refine OGo.st (fun _ k => XS.lstoreN X1.here hx rfl (hb hby at_5) rfl (l' := #[.val (.long q0), .second, .val (.int p1), .val (.long (f1 q0 p1)), .second, .unset, .unset, .unset, .unset, .unset, .unset, .unset]) rfl k) ?_
  show OGo p e below s _ _ _ (T1.setTop (mkF m 6 #[.val (.long q0), .second, .val (.int p1), .val (.long (f1 q0 p1)), .second, .unset, .unset, .unset, .unset, .unset, .unset, .unset] []))
  refine OGo.st (fun _ k => XS.lloadN X1.here hx rfl (hb hby at_6) rfl k) ?_
  show OGo p e below s _ _ _ (T1.setTop (mkF m 7 #[.val (.long q0), .second, .val (.int p1), .val (.long (f1 q0 p1)), .second, .unset, .unset, .unset, .unset, .unset, .unset, .unset] [(.long (f1 q0 p1))]))
  refine OGo.st (fun _ k => XS.bipush X1.here hx rfl (hb hby at_7) k) ?_
  show OGo p e below s _ _ _ (T1.setTop (mkF m 9 #[.val (.long q0), .second, .val (.int p1), .val (.long (f1 q0 p1)), .second, .unset, .unset, .unset, .unset, .unset, .unset, .unset] [(.int (16 : Int32)), (.long (f1 q0 p1))]))
  refine OGo.st (fun _ k => XS.lushr X1.here hx rfl (hb hby at_9) rfl k) ?_
  show OGo p e below s _ _ _ (T1.setTop (mkF m 10 #[.val (.long q0), .second, .val (.int p1), .val (.long (f1 q0 p1)), .second, .unset, .unset, .unset, .unset, .unset, .unset, .unset] [(.long (((f1 q0 p1).toUInt64 >>> ((16 : Int32) &&& 0x3f).toInt64.toUInt64).toInt64))]))
  refine OGo.st (fun _ k => XS.lstore X1.here hx rfl (hb hby at_10) rfl (l' := #[.val (.long q0), .second, .val (.int p1), .val (.long (f1 q0 p1)), .second, .val (.long (v0_0 q0 p1)), .second, .unset, .unset, .unset, .unset, .unset]) rfl k) ?_
  show OGo p e below s _ _ _ (T1.setTop (mkF m 12 #[.val (.long q0), .second, .val (.int p1), .val (.long (f1 q0 p1)), .second, .val (.long (v0_0 q0 p1)), .second, .unset, .unset, .unset, .unset, .unset] []))
  refine OGo.st (fun _ k => XS.lloadN X1.here hx rfl (hb hby at_12) rfl k) ?_
  show OGo p e below s _ _ _ (T1.setTop (mkF m 13 #[.val (.long q0), .second, .val (.int p1), .val (.long (f1 q0 p1)), .second, .val (.long (v0_0 q0 p1)), .second, .unset, .unset, .unset, .unset, .unset] [(.long (f1 q0 p1))]))
  refine OGo.st (fun _ k => XS.bipush X1.here hx rfl (hb hby at_13) k) ?_
  show OGo p e below s _ _ _ (T1.setTop (mkF m 15 #[.val (.long q0), .second, .val (.int p1), .val (.long (f1 q0 p1)), .second, .val (.long (v0_0 q0 p1)), .second, .unset, .unset, .unset, .unset, .unset] [(.int (8 : Int32)), (.long (f1 q0 p1))]))
  refine OGo.st (fun _ k => XS.lushr X1.here hx rfl (hb hby at_15) rfl k) ?_
  show OGo p e below s _ _ _ (T1.setTop (mkF m 16 #[.val (.long q0), .second, .val (.int p1), .val (.long (f1 q0 p1)), .second, .val (.long (v0_0 q0 p1)), .second, .unset, .unset, .unset, .unset, .unset] [(.long (((f1 q0 p1).toUInt64 >>> ((8 : Int32) &&& 0x3f).toInt64.toUInt64).toInt64))]))
  refine OGo.st (fun _ k => X1.ldc2Long hx hown (mvT hZ (hw _ (List.mem_of_getElem? (i := 6) rfl))) (g := (mkF m 16 #[.val (.long q0), .second, .val (.int p1), .val (.long (f1 q0 p1)), .second, .val (.long (v0_0 q0 p1)), .second, .unset, .unset, .unset, .unset, .unset] [(.long (((f1 q0 p1).toUInt64 >>> ((8 : Int32) &&& 0x3f).toInt64.toUInt64).toInt64))])) rfl (hb hby at_16) _ k) ?_
  show OGo p e below s _ _ _ (T1.setTop (mkF m 19 #[.val (.long q0), .second, .val (.int p1), .val (.long (f1 q0 p1)), .second, .val (.long (v0_0 q0 p1)), .second, .unset, .unset, .unset, .unset, .unset] [(.long (255 : Int64)), (.long (((f1 q0 p1).toUInt64 >>> ((8 : Int32) &&& 0x3f).toInt64.toUInt64).toInt64))]))
  refine OGo.st (fun _ k => XS.land X1.here hx rfl (hb hby at_19) rfl k) ?_
  show OGo p e below s _ _ _ (T1.setTop (mkF m 20 #[.val (.long q0), .second, .val (.int p1), .val (.long (f1 q0 p1)), .second, .val (.long (v0_0 q0 p1)), .second, .unset, .unset, .unset, .unset, .unset] [(.long ((((f1 q0 p1).toUInt64 >>> ((8 : Int32) &&& 0x3f).toInt64.toUInt64).toInt64) &&& (255 : Int64)))]))
  refine OGo.st (fun _ k => XS.l2i X1.here hx rfl (hb hby at_20) rfl k) ?_
  show OGo p e below s _ _ _ (T1.setTop (mkF m 21 #[.val (.long q0), .second, .val (.int p1), .val (.long (f1 q0 p1)), .second, .val (.long (v0_0 q0 p1)), .second, .unset, .unset, .unset, .unset, .unset] [(.int (((((f1 q0 p1).toUInt64 >>> ((8 : Int32) &&& 0x3f).toInt64.toUInt64).toInt64) &&& (255 : Int64)).toInt32))]))
  refine OGo.st (fun _ k => XS.istore X1.here hx rfl (hb hby at_21) rfl (l' := #[.val (.long q0), .second, .val (.int p1), .val (.long (f1 q0 p1)), .second, .val (.long (v0_0 q0 p1)), .second, .val (.int (v0_1 q0 p1)), .unset, .unset, .unset, .unset]) rfl k) ?_
  show OGo p e below s _ _ _ (T1.setTop (mkF m 23 #[.val (.long q0), .second, .val (.int p1), .val (.long (f1 q0 p1)), .second, .val (.long (v0_0 q0 p1)), .second, .val (.int (v0_1 q0 p1)), .unset, .unset, .unset, .unset] []))
  refine OGo.st (fun _ k => XS.lloadN X1.here hx rfl (hb hby at_23) rfl k) ?_
  show OGo p e below s _ _ _ (T1.setTop (mkF m 24 #[.val (.long q0), .second, .val (.int p1), .val (.long (f1 q0 p1)), .second, .val (.long (v0_0 q0 p1)), .second, .val (.int (v0_1 q0 p1)), .unset, .unset, .unset, .unset] [(.long (f1 q0 p1))]))
  refine OGo.st (fun _ k => X1.ldc2Long hx hown (mvT hZ (hw _ (List.mem_of_getElem? (i := 6) rfl))) (g := (mkF m 24 #[.val (.long q0), .second, .val (.int p1), .val (.long (f1 q0 p1)), .second, .val (.long (v0_0 q0 p1)), .second, .val (.int (v0_1 q0 p1)), .unset, .unset, .unset, .unset] [(.long (f1 q0 p1))])) rfl (hb hby at_24) _ k) ?_
  show OGo p e below s _ _ _ (T1.setTop (mkF m 27 #[.val (.long q0), .second, .val (.int p1), .val (.long (f1 q0 p1)), .second, .val (.long (v0_0 q0 p1)), .second, .val (.int (v0_1 q0 p1)), .unset, .unset, .unset, .unset] [(.long (255 : Int64)), (.long (f1 q0 p1))]))
  refine OGo.st (fun _ k => XS.land X1.here hx rfl (hb hby at_27) rfl k) ?_
  show OGo p e below s _ _ _ (T1.setTop (mkF m 28 #[.val (.long q0), .second, .val (.int p1), .val (.long (f1 q0 p1)), .second, .val (.long (v0_0 q0 p1)), .second, .val (.int (v0_1 q0 p1)), .unset, .unset, .unset, .unset] [(.long ((f1 q0 p1) &&& (255 : Int64)))]))
  refine OGo.st (fun _ k => XS.l2i X1.here hx rfl (hb hby at_28) rfl k) ?_
  show OGo p e below s _ _ _ (T1.setTop (mkF m 29 #[.val (.long q0), .second, .val (.int p1), .val (.long (f1 q0 p1)), .second, .val (.long (v0_0 q0 p1)), .second, .val (.int (v0_1 q0 p1)), .unset, .unset, .unset, .unset] [(.int (((f1 q0 p1) &&& (255 : Int64)).toInt32))]))
  refine OGo.st (fun _ k => XS.istore X1.here hx rfl (hb hby at_29) rfl (l' := #[.val (.long q0), .second, .val (.int p1), .val (.long (f1 q0 p1)), .second, .val (.long (v0_0 q0 p1)), .second, .val (.int (v0_1 q0 p1)), .val (.int (((f1 q0 p1) &&& (255 : Int64)).toInt32)), .unset, .unset, .unset]) rfl k) ?_
  show OGo p e below s _ _ _ (T1.setTop (mkF m 31 #[.val (.long q0), .second, .val (.int p1), .val (.long (f1 q0 p1)), .second, .val (.long (v0_0 q0 p1)), .second, .val (.int (v0_1 q0 p1)), .val (.int (((f1 q0 p1) &&& (255 : Int64)).toInt32)), .unset, .unset, .unset] []))
  refine OGo.st (fun _ k => XS.lload X1.here hx rfl (hb hby at_31) rfl k) ?_
  show OGo p e below s _ _ _ (T1.setTop (mkF m 33 #[.val (.long q0), .second, .val (.int p1), .val (.long (f1 q0 p1)), .second, .val (.long (v0_0 q0 p1)), .second, .val (.int (v0_1 q0 p1)), .val (.int (((f1 q0 p1) &&& (255 : Int64)).toInt32)), .unset, .unset, .unset] [(.long (v0_0 q0 p1))]))
  refine OGo.st (fun _ k => X1.ldc2Long hx hown (mvT hZ (hw _ (List.mem_of_getElem? (i := 7) rfl))) (g := (mkF m 33 #[.val (.long q0), .second, .val (.int p1), .val (.long (f1 q0 p1)), .second, .val (.long (v0_0 q0 p1)), .second, .val (.int (v0_1 q0 p1)), .val (.int (((f1 q0 p1) &&& (255 : Int64)).toInt32)), .unset, .unset, .unset] [(.long (v0_0 q0 p1))])) rfl (hb hby at_33) _ k) ?_
  show OGo p e below s _ _ _ (T1.setTop (mkF m 36 #[.val (.long q0), .second, .val (.int p1), .val (.long (f1 q0 p1)), .second, .val (.long (v0_0 q0 p1)), .second, .val (.int (v0_1 q0 p1)), .val (.int (((f1 q0 p1) &&& (255 : Int64)).toInt32)), .unset, .unset, .unset] [(.long (25460 : Int64)), (.long (v0_0 q0 p1))]))
  refine OGo.st (fun _ k => XS.lcmp X1.here hx rfl (hb hby at_36) rfl k) ?_
  show OGo p e below s _ _ _ (T1.setTop (mkF m 37 #[.val (.long q0), .second, .val (.int p1), .val (.long (f1 q0 p1)), .second, .val (.long (v0_0 q0 p1)), .second, .val (.int (v0_1 q0 p1)), .val (.int (((f1 q0 p1) &&& (255 : Int64)).toInt32)), .unset, .unset, .unset] [(.int (lcmpW (v0_0 q0 p1) (25460 : Int64)))]))
  by_cases hc37 : (v0_0 q0 p1) = (25460 : Int64)
  · refine OGo.st (fun _ k => XS.ifNo X1.here hx rfl (hb hby at_37) rfl ((if0 _ _).trans (teq ((olc_eq _ _).mpr hc37)).2) k) ?_
    show OGo p e below s _ _ _ (T1.setTop (mkF m 40 #[.val (.long q0), .second, .val (.int p1), .val (.long (f1 q0 p1)), .second, .val (.long (v0_0 q0 p1)), .second, .val (.int (v0_1 q0 p1)), .val (.int (((f1 q0 p1) &&& (255 : Int64)).toInt32)), .unset, .unset, .unset] []))
    refine OGo.st (fun _ k => XS.iload X1.here hx rfl (hb hby at_40) rfl k) ?_
    show OGo p e below s _ _ _ (T1.setTop (mkF m 42 #[.val (.long q0), .second, .val (.int p1), .val (.long (f1 q0 p1)), .second, .val (.long (v0_0 q0 p1)), .second, .val (.int (v0_1 q0 p1)), .val (.int (((f1 q0 p1) &&& (255 : Int64)).toInt32)), .unset, .unset, .unset] [(.int (v0_1 q0 p1))]))
    refine OGo.st (fun _ k => XS.iconst X1.here hx rfl (hb hby at_42) k) ?_
    show OGo p e below s _ _ _ (T1.setTop (mkF m 43 #[.val (.long q0), .second, .val (.int p1), .val (.long (f1 q0 p1)), .second, .val (.long (v0_0 q0 p1)), .second, .val (.int (v0_1 q0 p1)), .val (.int (((f1 q0 p1) &&& (255 : Int64)).toInt32)), .unset, .unset, .unset] [(.int (1 : Int32)), (.int (v0_1 q0 p1))]))
    by_cases hc43 : (v0_1 q0 p1) < (1 : Int32)
    · refine OGo.st (fun _ k => XS.icmpYes X1.here hx rfl (pc0 := 43) (pc' := 56) rfl (hb hby at_43) rfl (tlt hc43).1 (by decide) (by decide) k) ?_
      show OGo p e below s _ _ _ (T1.setTop (mkF m 56 #[.val (.long q0), .second, .val (.int p1), .val (.long (f1 q0 p1)), .second, .val (.long (v0_0 q0 p1)), .second, .val (.int (v0_1 q0 p1)), .val (.int (((f1 q0 p1) &&& (255 : Int64)).toInt32)), .unset, .unset, .unset] []))
      refine OGo.st (fun _ k => XS.iconst X1.here hx rfl (hb hby at_56) k) ?_
      show OGo p e below s _ _ _ (T1.setTop (mkF m 57 #[.val (.long q0), .second, .val (.int p1), .val (.long (f1 q0 p1)), .second, .val (.long (v0_0 q0 p1)), .second, .val (.int (v0_1 q0 p1)), .val (.int (((f1 q0 p1) &&& (255 : Int64)).toInt32)), .unset, .unset, .unset] [(.int (0 : Int32))]))
      refine OGo.st (fun _ k => XS.istore X1.here hx rfl (hb hby at_57) rfl (l' := #[.val (.long q0), .second, .val (.int p1), .val (.long (f1 q0 p1)), .second, .val (.long (v0_0 q0 p1)), .second, .val (.int (v0_1 q0 p1)), .val (.int (((f1 q0 p1) &&& (255 : Int64)).toInt32)), .val (.int (0 : Int32)), .unset, .unset]) rfl k) ?_
      show OGo p e below s _ _ _ (T1.setTop (mkF m 59 #[.val (.long q0), .second, .val (.int p1), .val (.long (f1 q0 p1)), .second, .val (.long (v0_0 q0 p1)), .second, .val (.int (v0_1 q0 p1)), .val (.int (((f1 q0 p1) &&& (255 : Int64)).toInt32)), .val (.int (0 : Int32)), .unset, .unset] []))
      refine OGo.st (fun _ k => XS.iconst X1.here hx rfl (hb hby at_59) k) ?_
      show OGo p e below s _ _ _ (T1.setTop (mkF m 60 #[.val (.long q0), .second, .val (.int p1), .val (.long (f1 q0 p1)), .second, .val (.long (v0_0 q0 p1)), .second, .val (.int (v0_1 q0 p1)), .val (.int (((f1 q0 p1) &&& (255 : Int64)).toInt32)), .val (.int (0 : Int32)), .unset, .unset] [(.int (-1 : Int32))]))
      refine OGo.st (fun _ k => XS.istore X1.here hx rfl (hb hby at_60) rfl (l' := #[.val (.long q0), .second, .val (.int p1), .val (.long (f1 q0 p1)), .second, .val (.long (v0_0 q0 p1)), .second, .val (.int (v0_1 q0 p1)), .val (.int (((f1 q0 p1) &&& (255 : Int64)).toInt32)), .val (.int (0 : Int32)), .val (.int (-1 : Int32)), .unset]) rfl k) ?_
      show OGo p e below s _ _ _ (T1.setTop (mkF m 62 #[.val (.long q0), .second, .val (.int p1), .val (.long (f1 q0 p1)), .second, .val (.long (v0_0 q0 p1)), .second, .val (.int (v0_1 q0 p1)), .val (.int (((f1 q0 p1) &&& (255 : Int64)).toInt32)), .val (.int (0 : Int32)), .val (.int (-1 : Int32)), .unset] []))
      refine OGo.st (fun _ k => XS.iload X1.here hx rfl (hb hby at_62) rfl k) ?_
      show OGo p e below s _ _ _ (T1.setTop (mkF m 64 #[.val (.long q0), .second, .val (.int p1), .val (.long (f1 q0 p1)), .second, .val (.long (v0_0 q0 p1)), .second, .val (.int (v0_1 q0 p1)), .val (.int (((f1 q0 p1) &&& (255 : Int64)).toInt32)), .val (.int (0 : Int32)), .val (.int (-1 : Int32)), .unset] [(.int (0 : Int32))]))
      refine OGo.st (fun _ k => XS.ifYes X1.here hx rfl (pc0 := 64) (pc' := 82) rfl (hb hby at_64) rfl ((if0 _ _).trans (teq (by decide : (0 : Int32) = (0 : Int32))).1) (by decide) (by decide) k) ?_
      show OGo p e below s _ _ _ (T1.setTop (mkF m 82 #[.val (.long q0), .second, .val (.int p1), .val (.long (f1 q0 p1)), .second, .val (.long (v0_0 q0 p1)), .second, .val (.int (v0_1 q0 p1)), .val (.int (((f1 q0 p1) &&& (255 : Int64)).toInt32)), .val (.int (0 : Int32)), .val (.int (-1 : Int32)), .unset] []))
      refine OGo.st (fun _ k => XS.lloadN X1.here hx rfl (hb hby at_82) rfl k) ?_
      show OGo p e below s _ _ _ (T1.setTop (mkF m 83 #[.val (.long q0), .second, .val (.int p1), .val (.long (f1 q0 p1)), .second, .val (.long (v0_0 q0 p1)), .second, .val (.int (v0_1 q0 p1)), .val (.int (((f1 q0 p1) &&& (255 : Int64)).toInt32)), .val (.int (0 : Int32)), .val (.int (-1 : Int32)), .unset] [(.long (f1 q0 p1))]))
      obtain ⟨_, _, ⟨T2, L2, k2, n2⟩, -, X2, ⟨Lc2, hQ2, l2, y2, z2⟩, st2⟩ := Jvm.LawKit.callS X1 hx (y := (⟨"com/example/sealwright/sealwright/cmw/ContentFormat", "of", "(J)I"⟩ : MethodName)) hown (mvT hZ (hw _ (List.mem_of_getElem? (i := 8) rfl))) (mvT hZ (hw _ (List.mem_of_getElem? (i := 9) rfl))) (mvT hZ (hw _ (List.mem_of_getElem? (i := 10) rfl))) (mvT hZ (hw _ (List.mem_of_getElem? (i := 11) rfl))) (by decide) (backOf (W := 0) (rm2 l Z a0 hw [] (f1 q0 p1) h0 n0 Z0) hZ (hw _ (List.mem_of_getElem? (i := 11) rfl)) (hw _ (List.mem_of_getElem? (i := 10) rfl)) (by decide) (by decide)) (g := (mkF m 83 #[.val (.long q0), .second, .val (.int p1), .val (.long (f1 q0 p1)), .second, .val (.long (v0_0 q0 p1)), .second, .val (.int (v0_1 q0 p1)), .val (.int (((f1 q0 p1) &&& (255 : Int64)).toInt32)), .val (.int (0 : Int32)), .val (.int (-1 : Int32)), .unset] [(.long (f1 q0 p1))])) rfl (by rw [hml]; rfl) (argsL := [(.long (f1 q0 p1))]) (rest := []) (lenOf pd_0_1 rfl) rfl (by show 2 * 0 + _ ≤ _; exact Nat.le_of_eq rfl) (hb hby at_83) (fun _ _ => ⟨rfl, e1, (by decide : 0 + 0 ≤ _), (by decide : 0 + 0 ≤ _)⟩)
      dsimp only [Pt.U, Pt.locs, Pt.cells, Pt.slots] at X2 l2 y2 z2 st2 hQ2
      subst l2 y2 z2
      obtain ⟨rfl, N2q, e2⟩ := hQ2
      have N2 := Fr.app N1 N2q
      refine OGo.st st2 ?_
      show OGo p e below s _ _ _ (T2.setTop (mkF m 86 #[.val (.long q0), .second, .val (.int p1), .val (.long (f1 q0 p1)), .second, .val (.long (v0_0 q0 p1)), .second, .val (.int (v0_1 q0 p1)), .val (.int (((f1 q0 p1) &&& (255 : Int64)).toInt32)), .val (.int (0 : Int32)), .val (.int (-1 : Int32)), .unset] [(.int (f2 (f1 q0 p1)))]))
      refine OGo.st (fun _ k => XS.istore X2.here hx rfl (hb hby at_86) rfl (l' := #[.val (.long q0), .second, .val (.int p1), .val (.long (f1 q0 p1)), .second, .val (.long (v0_0 q0 p1)), .second, .val (.int (v0_1 q0 p1)), .val (.int (((f1 q0 p1) &&& (255 : Int64)).toInt32)), .val (.int (0 : Int32)), .val (.int (-1 : Int32)), .val (.int (f2 (f1 q0 p1)))]) rfl k) ?_
      show OGo p e below s _ _ _ (T2.setTop (mkF m 88 #[.val (.long q0), .second, .val (.int p1), .val (.long (f1 q0 p1)), .second, .val (.long (v0_0 q0 p1)), .second, .val (.int (v0_1 q0 p1)), .val (.int (((f1 q0 p1) &&& (255 : Int64)).toInt32)), .val (.int (0 : Int32)), .val (.int (-1 : Int32)), .val (.int (f2 (f1 q0 p1)))] []))
      refine OGo.st (fun _ k => XS.iload X2.here hx rfl (hb hby at_88) rfl k) ?_
      show OGo p e below s _ _ _ (T2.setTop (mkF m 90 #[.val (.long q0), .second, .val (.int p1), .val (.long (f1 q0 p1)), .second, .val (.long (v0_0 q0 p1)), .second, .val (.int (v0_1 q0 p1)), .val (.int (((f1 q0 p1) &&& (255 : Int64)).toInt32)), .val (.int (0 : Int32)), .val (.int (-1 : Int32)), .val (.int (f2 (f1 q0 p1)))] [(.int (f2 (f1 q0 p1)))]))
      refine OGo.st (fun _ k => XS.iload X2.here hx rfl (hb hby at_90) rfl k) ?_
      show OGo p e below s _ _ _ (T2.setTop (mkF m 92 #[.val (.long q0), .second, .val (.int p1), .val (.long (f1 q0 p1)), .second, .val (.long (v0_0 q0 p1)), .second, .val (.int (v0_1 q0 p1)), .val (.int (((f1 q0 p1) &&& (255 : Int64)).toInt32)), .val (.int (0 : Int32)), .val (.int (-1 : Int32)), .val (.int (f2 (f1 q0 p1)))] [(.int (-1 : Int32)), (.int (f2 (f1 q0 p1)))]))
      by_cases hc92 : (f2 (f1 q0 p1)) = (-1 : Int32)
      · refine OGo.st (fun _ k => XS.icmpYes X2.here hx rfl (pc0 := 92) (pc' := 97) rfl (hb hby at_92) rfl (teq hc92).1 (by decide) (by decide) k) ?_
        show OGo p e below s _ _ _ (T2.setTop (mkF m 97 #[.val (.long q0), .second, .val (.int p1), .val (.long (f1 q0 p1)), .second, .val (.long (v0_0 q0 p1)), .second, .val (.int (v0_1 q0 p1)), .val (.int (((f1 q0 p1) &&& (255 : Int64)).toInt32)), .val (.int (0 : Int32)), .val (.int (-1 : Int32)), .val (.int (f2 (f1 q0 p1)))] []))
        refine OGo.st (fun _ k => XS.iload X2.here hx rfl (hb hby at_97) rfl k) ?_
        show OGo p e below s _ _ _ (T2.setTop (mkF m 99 #[.val (.long q0), .second, .val (.int p1), .val (.long (f1 q0 p1)), .second, .val (.long (v0_0 q0 p1)), .second, .val (.int (v0_1 q0 p1)), .val (.int (((f1 q0 p1) &&& (255 : Int64)).toInt32)), .val (.int (0 : Int32)), .val (.int (-1 : Int32)), .val (.int (f2 (f1 q0 p1)))] [(.int (0 : Int32))]))
        refine OGo.st (fun _ k => XS.ifYes X2.here hx rfl (pc0 := 99) (pc' := 118) rfl (hb hby at_99) rfl ((if0 _ _).trans (teq (by decide : (0 : Int32) = (0 : Int32))).1) (by decide) (by decide) k) ?_
        show OGo p e below s _ _ _ (T2.setTop (mkF m 118 #[.val (.long q0), .second, .val (.int p1), .val (.long (f1 q0 p1)), .second, .val (.long (v0_0 q0 p1)), .second, .val (.int (v0_1 q0 p1)), .val (.int (((f1 q0 p1) &&& (255 : Int64)).toInt32)), .val (.int (0 : Int32)), .val (.int (-1 : Int32)), .val (.int (f2 (f1 q0 p1)))] []))
        refine OGo.st (fun _ k => XS.iconst X2.here hx rfl (hb hby at_118) k) ?_
        show OGo p e below s _ _ _ (T2.setTop (mkF m 119 #[.val (.long q0), .second, .val (.int p1), .val (.long (f1 q0 p1)), .second, .val (.long (v0_0 q0 p1)), .second, .val (.int (v0_1 q0 p1)), .val (.int (((f1 q0 p1) &&& (255 : Int64)).toInt32)), .val (.int (0 : Int32)), .val (.int (-1 : Int32)), .val (.int (f2 (f1 q0 p1)))] [(.int (1 : Int32))]))
        exact oretN X2 hx Bd.notSynchronized (t := .boolean) Bd.returns (by simp) (hb hby at_119) (z' := (1 : Int32)) (by decide) e2 ⟨(congrArg (fun z => some (Value.int z)) (show (1 : Int32) = f0 q0 p1 from Eq.symm (by unfold f0; exact (if_pos hc37).trans ((if_pos hc43).trans (if_pos hc92))))), N2⟩ (by decide) (by decide)
      · refine OGo.st (fun _ k => XS.icmpNo X2.here hx rfl (hb hby at_92) rfl (feq hc92).1 k) ?_
        show OGo p e below s _ _ _ (T2.setTop (mkF m 95 #[.val (.long q0), .second, .val (.int p1), .val (.long (f1 q0 p1)), .second, .val (.long (v0_0 q0 p1)), .second, .val (.int (v0_1 q0 p1)), .val (.int (((f1 q0 p1) &&& (255 : Int64)).toInt32)), .val (.int (0 : Int32)), .val (.int (-1 : Int32)), .val (.int (f2 (f1 q0 p1)))] []))
        refine OGo.st (fun _ k => XS.iconst X2.here hx rfl (hb hby at_95) k) ?_
        show OGo p e below s _ _ _ (T2.setTop (mkF m 96 #[.val (.long q0), .second, .val (.int p1), .val (.long (f1 q0 p1)), .second, .val (.long (v0_0 q0 p1)), .second, .val (.int (v0_1 q0 p1)), .val (.int (((f1 q0 p1) &&& (255 : Int64)).toInt32)), .val (.int (0 : Int32)), .val (.int (-1 : Int32)), .val (.int (f2 (f1 q0 p1)))] [(.int (0 : Int32))]))
        exact oretN X2 hx Bd.notSynchronized (t := .boolean) Bd.returns (by simp) (hb hby at_96) (z' := (0 : Int32)) (by decide) e2 ⟨(congrArg (fun z => some (Value.int z)) (show (0 : Int32) = f0 q0 p1 from Eq.symm (by unfold f0; exact (if_pos hc37).trans ((if_pos hc43).trans (if_neg hc92))))), N2⟩ (by decide) (by decide)
    · refine OGo.st (fun _ k => XS.icmpNo X1.here hx rfl (hb hby at_43) rfl (flt hc43).1 k) ?_
      show OGo p e below s _ _ _ (T1.setTop (mkF m 46 #[.val (.long q0), .second, .val (.int p1), .val (.long (f1 q0 p1)), .second, .val (.long (v0_0 q0 p1)), .second, .val (.int (v0_1 q0 p1)), .val (.int (((f1 q0 p1) &&& (255 : Int64)).toInt32)), .unset, .unset, .unset] []))
      refine OGo.st (fun _ k => XS.iload X1.here hx rfl (hb hby at_46) rfl k) ?_
      show OGo p e below s _ _ _ (T1.setTop (mkF m 48 #[.val (.long q0), .second, .val (.int p1), .val (.long (f1 q0 p1)), .second, .val (.long (v0_0 q0 p1)), .second, .val (.int (v0_1 q0 p1)), .val (.int (((f1 q0 p1) &&& (255 : Int64)).toInt32)), .unset, .unset, .unset] [(.int (((f1 q0 p1) &&& (255 : Int64)).toInt32))]))
      refine OGo.st (fun _ k => XS.iconst X1.here hx rfl (hb hby at_48) k) ?_
      show OGo p e below s _ _ _ (T1.setTop (mkF m 49 #[.val (.long q0), .second, .val (.int p1), .val (.long (f1 q0 p1)), .second, .val (.long (v0_0 q0 p1)), .second, .val (.int (v0_1 q0 p1)), .val (.int (((f1 q0 p1) &&& (255 : Int64)).toInt32)), .unset, .unset, .unset] [(.int (1 : Int32)), (.int (((f1 q0 p1) &&& (255 : Int64)).toInt32))]))
      by_cases hc49 : (((f1 q0 p1) &&& (255 : Int64)).toInt32) < (1 : Int32)
      · refine OGo.st (fun _ k => XS.icmpYes X1.here hx rfl (pc0 := 49) (pc' := 56) rfl (hb hby at_49) rfl (tlt hc49).1 (by decide) (by decide) k) ?_
        show OGo p e below s _ _ _ (T1.setTop (mkF m 56 #[.val (.long q0), .second, .val (.int p1), .val (.long (f1 q0 p1)), .second, .val (.long (v0_0 q0 p1)), .second, .val (.int (v0_1 q0 p1)), .val (.int (((f1 q0 p1) &&& (255 : Int64)).toInt32)), .unset, .unset, .unset] []))
        refine OGo.st (fun _ k => XS.iconst X1.here hx rfl (hb hby at_56) k) ?_
        show OGo p e below s _ _ _ (T1.setTop (mkF m 57 #[.val (.long q0), .second, .val (.int p1), .val (.long (f1 q0 p1)), .second, .val (.long (v0_0 q0 p1)), .second, .val (.int (v0_1 q0 p1)), .val (.int (((f1 q0 p1) &&& (255 : Int64)).toInt32)), .unset, .unset, .unset] [(.int (0 : Int32))]))
        refine OGo.st (fun _ k => XS.istore X1.here hx rfl (hb hby at_57) rfl (l' := #[.val (.long q0), .second, .val (.int p1), .val (.long (f1 q0 p1)), .second, .val (.long (v0_0 q0 p1)), .second, .val (.int (v0_1 q0 p1)), .val (.int (((f1 q0 p1) &&& (255 : Int64)).toInt32)), .val (.int (0 : Int32)), .unset, .unset]) rfl k) ?_
        show OGo p e below s _ _ _ (T1.setTop (mkF m 59 #[.val (.long q0), .second, .val (.int p1), .val (.long (f1 q0 p1)), .second, .val (.long (v0_0 q0 p1)), .second, .val (.int (v0_1 q0 p1)), .val (.int (((f1 q0 p1) &&& (255 : Int64)).toInt32)), .val (.int (0 : Int32)), .unset, .unset] []))
        refine OGo.st (fun _ k => XS.iconst X1.here hx rfl (hb hby at_59) k) ?_
        show OGo p e below s _ _ _ (T1.setTop (mkF m 60 #[.val (.long q0), .second, .val (.int p1), .val (.long (f1 q0 p1)), .second, .val (.long (v0_0 q0 p1)), .second, .val (.int (v0_1 q0 p1)), .val (.int (((f1 q0 p1) &&& (255 : Int64)).toInt32)), .val (.int (0 : Int32)), .unset, .unset] [(.int (-1 : Int32))]))
        refine OGo.st (fun _ k => XS.istore X1.here hx rfl (hb hby at_60) rfl (l' := #[.val (.long q0), .second, .val (.int p1), .val (.long (f1 q0 p1)), .second, .val (.long (v0_0 q0 p1)), .second, .val (.int (v0_1 q0 p1)), .val (.int (((f1 q0 p1) &&& (255 : Int64)).toInt32)), .val (.int (0 : Int32)), .val (.int (-1 : Int32)), .unset]) rfl k) ?_
        show OGo p e below s _ _ _ (T1.setTop (mkF m 62 #[.val (.long q0), .second, .val (.int p1), .val (.long (f1 q0 p1)), .second, .val (.long (v0_0 q0 p1)), .second, .val (.int (v0_1 q0 p1)), .val (.int (((f1 q0 p1) &&& (255 : Int64)).toInt32)), .val (.int (0 : Int32)), .val (.int (-1 : Int32)), .unset] []))
        refine OGo.st (fun _ k => XS.iload X1.here hx rfl (hb hby at_62) rfl k) ?_
        show OGo p e below s _ _ _ (T1.setTop (mkF m 64 #[.val (.long q0), .second, .val (.int p1), .val (.long (f1 q0 p1)), .second, .val (.long (v0_0 q0 p1)), .second, .val (.int (v0_1 q0 p1)), .val (.int (((f1 q0 p1) &&& (255 : Int64)).toInt32)), .val (.int (0 : Int32)), .val (.int (-1 : Int32)), .unset] [(.int (0 : Int32))]))
        refine OGo.st (fun _ k => XS.ifYes X1.here hx rfl (pc0 := 64) (pc' := 82) rfl (hb hby at_64) rfl ((if0 _ _).trans (teq (by decide : (0 : Int32) = (0 : Int32))).1) (by decide) (by decide) k) ?_
        show OGo p e below s _ _ _ (T1.setTop (mkF m 82 #[.val (.long q0), .second, .val (.int p1), .val (.long (f1 q0 p1)), .second, .val (.long (v0_0 q0 p1)), .second, .val (.int (v0_1 q0 p1)), .val (.int (((f1 q0 p1) &&& (255 : Int64)).toInt32)), .val (.int (0 : Int32)), .val (.int (-1 : Int32)), .unset] []))
        refine OGo.st (fun _ k => XS.lloadN X1.here hx rfl (hb hby at_82) rfl k) ?_
        show OGo p e below s _ _ _ (T1.setTop (mkF m 83 #[.val (.long q0), .second, .val (.int p1), .val (.long (f1 q0 p1)), .second, .val (.long (v0_0 q0 p1)), .second, .val (.int (v0_1 q0 p1)), .val (.int (((f1 q0 p1) &&& (255 : Int64)).toInt32)), .val (.int (0 : Int32)), .val (.int (-1 : Int32)), .unset] [(.long (f1 q0 p1))]))
        obtain ⟨_, _, ⟨T3, L3, k3, n3⟩, -, X3, ⟨Lc3, hQ3, l3, y3, z3⟩, st3⟩ := Jvm.LawKit.callS X1 hx (y := (⟨"com/example/sealwright/sealwright/cmw/ContentFormat", "of", "(J)I"⟩ : MethodName)) hown (mvT hZ (hw _ (List.mem_of_getElem? (i := 8) rfl))) (mvT hZ (hw _ (List.mem_of_getElem? (i := 9) rfl))) (mvT hZ (hw _ (List.mem_of_getElem? (i := 10) rfl))) (mvT hZ (hw _ (List.mem_of_getElem? (i := 11) rfl))) (by decide) (backOf (W := 0) (rm2 l Z a0 hw [] (f1 q0 p1) h0 n0 Z0) hZ (hw _ (List.mem_of_getElem? (i := 11) rfl)) (hw _ (List.mem_of_getElem? (i := 10) rfl)) (by decide) (by decide)) (g := (mkF m 83 #[.val (.long q0), .second, .val (.int p1), .val (.long (f1 q0 p1)), .second, .val (.long (v0_0 q0 p1)), .second, .val (.int (v0_1 q0 p1)), .val (.int (((f1 q0 p1) &&& (255 : Int64)).toInt32)), .val (.int (0 : Int32)), .val (.int (-1 : Int32)), .unset] [(.long (f1 q0 p1))])) rfl (by rw [hml]; rfl) (argsL := [(.long (f1 q0 p1))]) (rest := []) (lenOf pd_0_1 rfl) rfl (by show 2 * 0 + _ ≤ _; exact Nat.le_of_eq rfl) (hb hby at_83) (fun _ _ => ⟨rfl, e1, (by decide : 0 + 0 ≤ _), (by decide : 0 + 0 ≤ _)⟩)
        dsimp only [Pt.U, Pt.locs, Pt.cells, Pt.slots] at X3 l3 y3 z3 st3 hQ3
        subst l3 y3 z3
        obtain ⟨rfl, N3q, e3⟩ := hQ3
        have N3 := Fr.app N1 N3q
        refine OGo.st st3 ?_
        show OGo p e below s _ _ _ (T3.setTop (mkF m 86 #[.val (.long q0), .second, .val (.int p1), .val (.long (f1 q0 p1)), .second, .val (.long (v0_0 q0 p1)), .second, .val (.int (v0_1 q0 p1)), .val (.int (((f1 q0 p1) &&& (255 : Int64)).toInt32)), .val (.int (0 : Int32)), .val (.int (-1 : Int32)), .unset] [(.int (f2 (f1 q0 p1)))]))
        refine OGo.st (fun _ k => XS.istore X3.here hx rfl (hb hby at_86) rfl (l' := #[.val (.long q0), .second, .val (.int p1), .val (.long (f1 q0 p1)), .second, .val (.long (v0_0 q0 p1)), .second, .val (.int (v0_1 q0 p1)), .val (.int (((f1 q0 p1) &&& (255 : Int64)).toInt32)), .val (.int (0 : Int32)), .val (.int (-1 : Int32)), .val (.int (f2 (f1 q0 p1)))]) rfl k) ?_
        show OGo p e below s _ _ _ (T3.setTop (mkF m 88 #[.val (.long q0), .second, .val (.int p1), .val (.long (f1 q0 p1)), .second, .val (.long (v0_0 q0 p1)), .second, .val (.int (v0_1 q0 p1)), .val (.int (((f1 q0 p1) &&& (255 : Int64)).toInt32)), .val (.int (0 : Int32)), .val (.int (-1 : Int32)), .val (.int (f2 (f1 q0 p1)))] []))
        refine OGo.st (fun _ k => XS.iload X3.here hx rfl (hb hby at_88) rfl k) ?_
        show OGo p e below s _ _ _ (T3.setTop (mkF m 90 #[.val (.long q0), .second, .val (.int p1), .val (.long (f1 q0 p1)), .second, .val (.long (v0_0 q0 p1)), .second, .val (.int (v0_1 q0 p1)), .val (.int (((f1 q0 p1) &&& (255 : Int64)).toInt32)), .val (.int (0 : Int32)), .val (.int (-1 : Int32)), .val (.int (f2 (f1 q0 p1)))] [(.int (f2 (f1 q0 p1)))]))
        refine OGo.st (fun _ k => XS.iload X3.here hx rfl (hb hby at_90) rfl k) ?_
        show OGo p e below s _ _ _ (T3.setTop (mkF m 92 #[.val (.long q0), .second, .val (.int p1), .val (.long (f1 q0 p1)), .second, .val (.long (v0_0 q0 p1)), .second, .val (.int (v0_1 q0 p1)), .val (.int (((f1 q0 p1) &&& (255 : Int64)).toInt32)), .val (.int (0 : Int32)), .val (.int (-1 : Int32)), .val (.int (f2 (f1 q0 p1)))] [(.int (-1 : Int32)), (.int (f2 (f1 q0 p1)))]))
        by_cases hc92 : (f2 (f1 q0 p1)) = (-1 : Int32)
        · refine OGo.st (fun _ k => XS.icmpYes X3.here hx rfl (pc0 := 92) (pc' := 97) rfl (hb hby at_92) rfl (teq hc92).1 (by decide) (by decide) k) ?_
          show OGo p e below s _ _ _ (T3.setTop (mkF m 97 #[.val (.long q0), .second, .val (.int p1), .val (.long (f1 q0 p1)), .second, .val (.long (v0_0 q0 p1)), .second, .val (.int (v0_1 q0 p1)), .val (.int (((f1 q0 p1) &&& (255 : Int64)).toInt32)), .val (.int (0 : Int32)), .val (.int (-1 : Int32)), .val (.int (f2 (f1 q0 p1)))] []))
          refine OGo.st (fun _ k => XS.iload X3.here hx rfl (hb hby at_97) rfl k) ?_
          show OGo p e below s _ _ _ (T3.setTop (mkF m 99 #[.val (.long q0), .second, .val (.int p1), .val (.long (f1 q0 p1)), .second, .val (.long (v0_0 q0 p1)), .second, .val (.int (v0_1 q0 p1)), .val (.int (((f1 q0 p1) &&& (255 : Int64)).toInt32)), .val (.int (0 : Int32)), .val (.int (-1 : Int32)), .val (.int (f2 (f1 q0 p1)))] [(.int (0 : Int32))]))
          refine OGo.st (fun _ k => XS.ifYes X3.here hx rfl (pc0 := 99) (pc' := 118) rfl (hb hby at_99) rfl ((if0 _ _).trans (teq (by decide : (0 : Int32) = (0 : Int32))).1) (by decide) (by decide) k) ?_
          show OGo p e below s _ _ _ (T3.setTop (mkF m 118 #[.val (.long q0), .second, .val (.int p1), .val (.long (f1 q0 p1)), .second, .val (.long (v0_0 q0 p1)), .second, .val (.int (v0_1 q0 p1)), .val (.int (((f1 q0 p1) &&& (255 : Int64)).toInt32)), .val (.int (0 : Int32)), .val (.int (-1 : Int32)), .val (.int (f2 (f1 q0 p1)))] []))
          refine OGo.st (fun _ k => XS.iconst X3.here hx rfl (hb hby at_118) k) ?_
          show OGo p e below s _ _ _ (T3.setTop (mkF m 119 #[.val (.long q0), .second, .val (.int p1), .val (.long (f1 q0 p1)), .second, .val (.long (v0_0 q0 p1)), .second, .val (.int (v0_1 q0 p1)), .val (.int (((f1 q0 p1) &&& (255 : Int64)).toInt32)), .val (.int (0 : Int32)), .val (.int (-1 : Int32)), .val (.int (f2 (f1 q0 p1)))] [(.int (1 : Int32))]))
          exact oretN X3 hx Bd.notSynchronized (t := .boolean) Bd.returns (by simp) (hb hby at_119) (z' := (1 : Int32)) (by decide) e3 ⟨(congrArg (fun z => some (Value.int z)) (show (1 : Int32) = f0 q0 p1 from Eq.symm (by unfold f0; exact (if_pos hc37).trans ((if_neg hc43).trans ((if_pos hc49).trans (if_pos hc92)))))), N3⟩ (by decide) (by decide)
        · refine OGo.st (fun _ k => XS.icmpNo X3.here hx rfl (hb hby at_92) rfl (feq hc92).1 k) ?_
          show OGo p e below s _ _ _ (T3.setTop (mkF m 95 #[.val (.long q0), .second, .val (.int p1), .val (.long (f1 q0 p1)), .second, .val (.long (v0_0 q0 p1)), .second, .val (.int (v0_1 q0 p1)), .val (.int (((f1 q0 p1) &&& (255 : Int64)).toInt32)), .val (.int (0 : Int32)), .val (.int (-1 : Int32)), .val (.int (f2 (f1 q0 p1)))] []))
          refine OGo.st (fun _ k => XS.iconst X3.here hx rfl (hb hby at_95) k) ?_
          show OGo p e below s _ _ _ (T3.setTop (mkF m 96 #[.val (.long q0), .second, .val (.int p1), .val (.long (f1 q0 p1)), .second, .val (.long (v0_0 q0 p1)), .second, .val (.int (v0_1 q0 p1)), .val (.int (((f1 q0 p1) &&& (255 : Int64)).toInt32)), .val (.int (0 : Int32)), .val (.int (-1 : Int32)), .val (.int (f2 (f1 q0 p1)))] [(.int (0 : Int32))]))
          exact oretN X3 hx Bd.notSynchronized (t := .boolean) Bd.returns (by simp) (hb hby at_96) (z' := (0 : Int32)) (by decide) e3 ⟨(congrArg (fun z => some (Value.int z)) (show (0 : Int32) = f0 q0 p1 from Eq.symm (by unfold f0; exact (if_pos hc37).trans ((if_neg hc43).trans ((if_pos hc49).trans (if_neg hc92)))))), N3⟩ (by decide) (by decide)
      · refine OGo.st (fun _ k => XS.icmpNo X1.here hx rfl (hb hby at_49) rfl (flt hc49).1 k) ?_
        show OGo p e below s _ _ _ (T1.setTop (mkF m 52 #[.val (.long q0), .second, .val (.int p1), .val (.long (f1 q0 p1)), .second, .val (.long (v0_0 q0 p1)), .second, .val (.int (v0_1 q0 p1)), .val (.int (((f1 q0 p1) &&& (255 : Int64)).toInt32)), .unset, .unset, .unset] []))
        refine OGo.st (fun _ k => XS.iconst X1.here hx rfl (hb hby at_52) k) ?_
        show OGo p e below s _ _ _ (T1.setTop (mkF m 53 #[.val (.long q0), .second, .val (.int p1), .val (.long (f1 q0 p1)), .second, .val (.long (v0_0 q0 p1)), .second, .val (.int (v0_1 q0 p1)), .val (.int (((f1 q0 p1) &&& (255 : Int64)).toInt32)), .unset, .unset, .unset] [(.int (1 : Int32))]))
        refine OGo.st (fun _ k => XS.goto X1.here hx rfl (pc0 := 53) (pc' := 57) rfl (hb hby at_53) (by decide) (by decide) k) ?_
        show OGo p e below s _ _ _ (T1.setTop (mkF m 57 #[.val (.long q0), .second, .val (.int p1), .val (.long (f1 q0 p1)), .second, .val (.long (v0_0 q0 p1)), .second, .val (.int (v0_1 q0 p1)), .val (.int (((f1 q0 p1) &&& (255 : Int64)).toInt32)), .unset, .unset, .unset] [(.int (1 : Int32))]))
        refine OGo.st (fun _ k => XS.istore X1.here hx rfl (hb hby at_57) rfl (l' := #[.val (.long q0), .second, .val (.int p1), .val (.long (f1 q0 p1)), .second, .val (.long (v0_0 q0 p1)), .second, .val (.int (v0_1 q0 p1)), .val (.int (((f1 q0 p1) &&& (255 : Int64)).toInt32)), .val (.int (1 : Int32)), .unset, .unset]) rfl k) ?_
        show OGo p e below s _ _ _ (T1.setTop (mkF m 59 #[.val (.long q0), .second, .val (.int p1), .val (.long (f1 q0 p1)), .second, .val (.long (v0_0 q0 p1)), .second, .val (.int (v0_1 q0 p1)), .val (.int (((f1 q0 p1) &&& (255 : Int64)).toInt32)), .val (.int (1 : Int32)), .unset, .unset] []))
        refine OGo.st (fun _ k => XS.iconst X1.here hx rfl (hb hby at_59) k) ?_
        show OGo p e below s _ _ _ (T1.setTop (mkF m 60 #[.val (.long q0), .second, .val (.int p1), .val (.long (f1 q0 p1)), .second, .val (.long (v0_0 q0 p1)), .second, .val (.int (v0_1 q0 p1)), .val (.int (((f1 q0 p1) &&& (255 : Int64)).toInt32)), .val (.int (1 : Int32)), .unset, .unset] [(.int (-1 : Int32))]))
        refine OGo.st (fun _ k => XS.istore X1.here hx rfl (hb hby at_60) rfl (l' := #[.val (.long q0), .second, .val (.int p1), .val (.long (f1 q0 p1)), .second, .val (.long (v0_0 q0 p1)), .second, .val (.int (v0_1 q0 p1)), .val (.int (((f1 q0 p1) &&& (255 : Int64)).toInt32)), .val (.int (1 : Int32)), .val (.int (-1 : Int32)), .unset]) rfl k) ?_
        show OGo p e below s _ _ _ (T1.setTop (mkF m 62 #[.val (.long q0), .second, .val (.int p1), .val (.long (f1 q0 p1)), .second, .val (.long (v0_0 q0 p1)), .second, .val (.int (v0_1 q0 p1)), .val (.int (((f1 q0 p1) &&& (255 : Int64)).toInt32)), .val (.int (1 : Int32)), .val (.int (-1 : Int32)), .unset] []))
        refine OGo.st (fun _ k => XS.iload X1.here hx rfl (hb hby at_62) rfl k) ?_
        show OGo p e below s _ _ _ (T1.setTop (mkF m 64 #[.val (.long q0), .second, .val (.int p1), .val (.long (f1 q0 p1)), .second, .val (.long (v0_0 q0 p1)), .second, .val (.int (v0_1 q0 p1)), .val (.int (((f1 q0 p1) &&& (255 : Int64)).toInt32)), .val (.int (1 : Int32)), .val (.int (-1 : Int32)), .unset] [(.int (1 : Int32))]))
        refine OGo.st (fun _ k => XS.ifNo X1.here hx rfl (hb hby at_64) rfl ((if0 _ _).trans (feq (by decide : ¬ ((1 : Int32) = (0 : Int32)))).1) k) ?_
        show OGo p e below s _ _ _ (T1.setTop (mkF m 67 #[.val (.long q0), .second, .val (.int p1), .val (.long (f1 q0 p1)), .second, .val (.long (v0_0 q0 p1)), .second, .val (.int (v0_1 q0 p1)), .val (.int (((f1 q0 p1) &&& (255 : Int64)).toInt32)), .val (.int (1 : Int32)), .val (.int (-1 : Int32)), .unset] []))
        refine OGo.st (fun _ k => XS.iload X1.here hx rfl (hb hby at_67) rfl k) ?_
        show OGo p e below s _ _ _ (T1.setTop (mkF m 69 #[.val (.long q0), .second, .val (.int p1), .val (.long (f1 q0 p1)), .second, .val (.long (v0_0 q0 p1)), .second, .val (.int (v0_1 q0 p1)), .val (.int (((f1 q0 p1) &&& (255 : Int64)).toInt32)), .val (.int (1 : Int32)), .val (.int (-1 : Int32)), .unset] [(.int (v0_1 q0 p1))]))
        refine OGo.st (fun _ k => XS.iconst X1.here hx rfl (hb hby at_69) k) ?_
        show OGo p e below s _ _ _ (T1.setTop (mkF m 70 #[.val (.long q0), .second, .val (.int p1), .val (.long (f1 q0 p1)), .second, .val (.long (v0_0 q0 p1)), .second, .val (.int (v0_1 q0 p1)), .val (.int (((f1 q0 p1) &&& (255 : Int64)).toInt32)), .val (.int (1 : Int32)), .val (.int (-1 : Int32)), .unset] [(.int (1 : Int32)), (.int (v0_1 q0 p1))]))
        refine OGo.st (fun _ k => XS.isub X1.here hx rfl (hb hby at_70) rfl k) ?_
        show OGo p e below s _ _ _ (T1.setTop (mkF m 71 #[.val (.long q0), .second, .val (.int p1), .val (.long (f1 q0 p1)), .second, .val (.long (v0_0 q0 p1)), .second, .val (.int (v0_1 q0 p1)), .val (.int (((f1 q0 p1) &&& (255 : Int64)).toInt32)), .val (.int (1 : Int32)), .val (.int (-1 : Int32)), .unset] [(.int ((v0_1 q0 p1) - (1 : Int32)))]))
        refine OGo.st (fun _ k => XS.sipush X1.here hx rfl (hb hby at_71) k) ?_
        show OGo p e below s _ _ _ (T1.setTop (mkF m 74 #[.val (.long q0), .second, .val (.int p1), .val (.long (f1 q0 p1)), .second, .val (.long (v0_0 q0 p1)), .second, .val (.int (v0_1 q0 p1)), .val (.int (((f1 q0 p1) &&& (255 : Int64)).toInt32)), .val (.int (1 : Int32)), .val (.int (-1 : Int32)), .unset] [(.int (255 : Int32)), (.int ((v0_1 q0 p1) - (1 : Int32)))]))
        refine OGo.st (fun _ k => XS.imul X1.here hx rfl (hb hby at_74) rfl k) ?_
        show OGo p e below s _ _ _ (T1.setTop (mkF m 75 #[.val (.long q0), .second, .val (.int p1), .val (.long (f1 q0 p1)), .second, .val (.long (v0_0 q0 p1)), .second, .val (.int (v0_1 q0 p1)), .val (.int (((f1 q0 p1) &&& (255 : Int64)).toInt32)), .val (.int (1 : Int32)), .val (.int (-1 : Int32)), .unset] [(.int (((v0_1 q0 p1) - (1 : Int32)) * (255 : Int32)))]))
        refine OGo.st (fun _ k => XS.iload X1.here hx rfl (hb hby at_75) rfl k) ?_
        show OGo p e below s _ _ _ (T1.setTop (mkF m 77 #[.val (.long q0), .second, .val (.int p1), .val (.long (f1 q0 p1)), .second, .val (.long (v0_0 q0 p1)), .second, .val (.int (v0_1 q0 p1)), .val (.int (((f1 q0 p1) &&& (255 : Int64)).toInt32)), .val (.int (1 : Int32)), .val (.int (-1 : Int32)), .unset] [(.int (((f1 q0 p1) &&& (255 : Int64)).toInt32)), (.int (((v0_1 q0 p1) - (1 : Int32)) * (255 : Int32)))]))
        refine OGo.st (fun _ k => XS.iconst X1.here hx rfl (hb hby at_77) k) ?_
        show OGo p e below s _ _ _ (T1.setTop (mkF m 78 #[.val (.long q0), .second, .val (.int p1), .val (.long (f1 q0 p1)), .second, .val (.long (v0_0 q0 p1)), .second, .val (.int (v0_1 q0 p1)), .val (.int (((f1 q0 p1) &&& (255 : Int64)).toInt32)), .val (.int (1 : Int32)), .val (.int (-1 : Int32)), .unset] [(.int (1 : Int32)), (.int (((f1 q0 p1) &&& (255 : Int64)).toInt32)), (.int (((v0_1 q0 p1) - (1 : Int32)) * (255 : Int32)))]))
        refine OGo.st (fun _ k => XS.isub X1.here hx rfl (hb hby at_78) rfl k) ?_
        show OGo p e below s _ _ _ (T1.setTop (mkF m 79 #[.val (.long q0), .second, .val (.int p1), .val (.long (f1 q0 p1)), .second, .val (.long (v0_0 q0 p1)), .second, .val (.int (v0_1 q0 p1)), .val (.int (((f1 q0 p1) &&& (255 : Int64)).toInt32)), .val (.int (1 : Int32)), .val (.int (-1 : Int32)), .unset] [(.int ((((f1 q0 p1) &&& (255 : Int64)).toInt32) - (1 : Int32))), (.int (((v0_1 q0 p1) - (1 : Int32)) * (255 : Int32)))]))
        refine OGo.st (fun _ k => XS.iadd X1.here hx rfl (hb hby at_79) rfl k) ?_
        show OGo p e below s _ _ _ (T1.setTop (mkF m 80 #[.val (.long q0), .second, .val (.int p1), .val (.long (f1 q0 p1)), .second, .val (.long (v0_0 q0 p1)), .second, .val (.int (v0_1 q0 p1)), .val (.int (((f1 q0 p1) &&& (255 : Int64)).toInt32)), .val (.int (1 : Int32)), .val (.int (-1 : Int32)), .unset] [(.int ((((v0_1 q0 p1) - (1 : Int32)) * (255 : Int32)) + ((((f1 q0 p1) &&& (255 : Int64)).toInt32) - (1 : Int32))))]))
        refine OGo.st (fun _ k => XS.istore X1.here hx rfl (hb hby at_80) rfl (l' := #[.val (.long q0), .second, .val (.int p1), .val (.long (f1 q0 p1)), .second, .val (.long (v0_0 q0 p1)), .second, .val (.int (v0_1 q0 p1)), .val (.int (((f1 q0 p1) &&& (255 : Int64)).toInt32)), .val (.int (1 : Int32)), .val (.int (v0_2 q0 p1)), .unset]) rfl k) ?_
        show OGo p e below s _ _ _ (T1.setTop (mkF m 82 #[.val (.long q0), .second, .val (.int p1), .val (.long (f1 q0 p1)), .second, .val (.long (v0_0 q0 p1)), .second, .val (.int (v0_1 q0 p1)), .val (.int (((f1 q0 p1) &&& (255 : Int64)).toInt32)), .val (.int (1 : Int32)), .val (.int (v0_2 q0 p1)), .unset] []))
        refine OGo.st (fun _ k => XS.lloadN X1.here hx rfl (hb hby at_82) rfl k) ?_
        show OGo p e below s _ _ _ (T1.setTop (mkF m 83 #[.val (.long q0), .second, .val (.int p1), .val (.long (f1 q0 p1)), .second, .val (.long (v0_0 q0 p1)), .second, .val (.int (v0_1 q0 p1)), .val (.int (((f1 q0 p1) &&& (255 : Int64)).toInt32)), .val (.int (1 : Int32)), .val (.int (v0_2 q0 p1)), .unset] [(.long (f1 q0 p1))]))
        obtain ⟨_, _, ⟨T4, L4, k4, n4⟩, -, X4, ⟨Lc4, hQ4, l4, y4, z4⟩, st4⟩ := Jvm.LawKit.callS X1 hx (y := (⟨"com/example/sealwright/sealwright/cmw/ContentFormat", "of", "(J)I"⟩ : MethodName)) hown (mvT hZ (hw _ (List.mem_of_getElem? (i := 8) rfl))) (mvT hZ (hw _ (List.mem_of_getElem? (i := 9) rfl))) (mvT hZ (hw _ (List.mem_of_getElem? (i := 10) rfl))) (mvT hZ (hw _ (List.mem_of_getElem? (i := 11) rfl))) (by decide) (backOf (W := 0) (rm2 l Z a0 hw [] (f1 q0 p1) h0 n0 Z0) hZ (hw _ (List.mem_of_getElem? (i := 11) rfl)) (hw _ (List.mem_of_getElem? (i := 10) rfl)) (by decide) (by decide)) (g := (mkF m 83 #[.val (.long q0), .second, .val (.int p1), .val (.long (f1 q0 p1)), .second, .val (.long (v0_0 q0 p1)), .second, .val (.int (v0_1 q0 p1)), .val (.int (((f1 q0 p1) &&& (255 : Int64)).toInt32)), .val (.int (1 : Int32)), .val (.int (v0_2 q0 p1)), .unset] [(.long (f1 q0 p1))])) rfl (by rw [hml]; rfl) (argsL := [(.long (f1 q0 p1))]) (rest := []) (lenOf pd_0_1 rfl) rfl (by show 2 * 0 + _ ≤ _; exact Nat.le_of_eq rfl) (hb hby at_83) (fun _ _ => ⟨rfl, e1, (by decide : 0 + 0 ≤ _), (by decide : 0 + 0 ≤ _)⟩)
        dsimp only [Pt.U, Pt.locs, Pt.cells, Pt.slots] at X4 l4 y4 z4 st4 hQ4
        subst l4 y4 z4
        obtain ⟨rfl, N4q, e4⟩ := hQ4
        have N4 := Fr.app N1 N4q
        refine OGo.st st4 ?_
        show OGo p e below s _ _ _ (T4.setTop (mkF m 86 #[.val (.long q0), .second, .val (.int p1), .val (.long (f1 q0 p1)), .second, .val (.long (v0_0 q0 p1)), .second, .val (.int (v0_1 q0 p1)), .val (.int (((f1 q0 p1) &&& (255 : Int64)).toInt32)), .val (.int (1 : Int32)), .val (.int (v0_2 q0 p1)), .unset] [(.int (f2 (f1 q0 p1)))]))
        refine OGo.st (fun _ k => XS.istore X4.here hx rfl (hb hby at_86) rfl (l' := #[.val (.long q0), .second, .val (.int p1), .val (.long (f1 q0 p1)), .second, .val (.long (v0_0 q0 p1)), .second, .val (.int (v0_1 q0 p1)), .val (.int (((f1 q0 p1) &&& (255 : Int64)).toInt32)), .val (.int (1 : Int32)), .val (.int (v0_2 q0 p1)), .val (.int (f2 (f1 q0 p1)))]) rfl k) ?_
        show OGo p e below s _ _ _ (T4.setTop (mkF m 88 #[.val (.long q0), .second, .val (.int p1), .val (.long (f1 q0 p1)), .second, .val (.long (v0_0 q0 p1)), .second, .val (.int (v0_1 q0 p1)), .val (.int (((f1 q0 p1) &&& (255 : Int64)).toInt32)), .val (.int (1 : Int32)), .val (.int (v0_2 q0 p1)), .val (.int (f2 (f1 q0 p1)))] []))
        refine OGo.st (fun _ k => XS.iload X4.here hx rfl (hb hby at_88) rfl k) ?_
        show OGo p e below s _ _ _ (T4.setTop (mkF m 90 #[.val (.long q0), .second, .val (.int p1), .val (.long (f1 q0 p1)), .second, .val (.long (v0_0 q0 p1)), .second, .val (.int (v0_1 q0 p1)), .val (.int (((f1 q0 p1) &&& (255 : Int64)).toInt32)), .val (.int (1 : Int32)), .val (.int (v0_2 q0 p1)), .val (.int (f2 (f1 q0 p1)))] [(.int (f2 (f1 q0 p1)))]))
        refine OGo.st (fun _ k => XS.iload X4.here hx rfl (hb hby at_90) rfl k) ?_
        show OGo p e below s _ _ _ (T4.setTop (mkF m 92 #[.val (.long q0), .second, .val (.int p1), .val (.long (f1 q0 p1)), .second, .val (.long (v0_0 q0 p1)), .second, .val (.int (v0_1 q0 p1)), .val (.int (((f1 q0 p1) &&& (255 : Int64)).toInt32)), .val (.int (1 : Int32)), .val (.int (v0_2 q0 p1)), .val (.int (f2 (f1 q0 p1)))] [(.int (v0_2 q0 p1)), (.int (f2 (f1 q0 p1)))]))
        by_cases hc92 : (f2 (f1 q0 p1)) = (v0_2 q0 p1)
        · refine OGo.st (fun _ k => XS.icmpYes X4.here hx rfl (pc0 := 92) (pc' := 97) rfl (hb hby at_92) rfl (teq hc92).1 (by decide) (by decide) k) ?_
          show OGo p e below s _ _ _ (T4.setTop (mkF m 97 #[.val (.long q0), .second, .val (.int p1), .val (.long (f1 q0 p1)), .second, .val (.long (v0_0 q0 p1)), .second, .val (.int (v0_1 q0 p1)), .val (.int (((f1 q0 p1) &&& (255 : Int64)).toInt32)), .val (.int (1 : Int32)), .val (.int (v0_2 q0 p1)), .val (.int (f2 (f1 q0 p1)))] []))
          refine OGo.st (fun _ k => XS.iload X4.here hx rfl (hb hby at_97) rfl k) ?_
          show OGo p e below s _ _ _ (T4.setTop (mkF m 99 #[.val (.long q0), .second, .val (.int p1), .val (.long (f1 q0 p1)), .second, .val (.long (v0_0 q0 p1)), .second, .val (.int (v0_1 q0 p1)), .val (.int (((f1 q0 p1) &&& (255 : Int64)).toInt32)), .val (.int (1 : Int32)), .val (.int (v0_2 q0 p1)), .val (.int (f2 (f1 q0 p1)))] [(.int (1 : Int32))]))
          refine OGo.st (fun _ k => XS.ifNo X4.here hx rfl (hb hby at_99) rfl ((if0 _ _).trans (feq (by decide : ¬ ((1 : Int32) = (0 : Int32)))).1) k) ?_
          show OGo p e below s _ _ _ (T4.setTop (mkF m 102 #[.val (.long q0), .second, .val (.int p1), .val (.long (f1 q0 p1)), .second, .val (.long (v0_0 q0 p1)), .second, .val (.int (v0_1 q0 p1)), .val (.int (((f1 q0 p1) &&& (255 : Int64)).toInt32)), .val (.int (1 : Int32)), .val (.int (v0_2 q0 p1)), .val (.int (f2 (f1 q0 p1)))] []))
          refine OGo.st (fun _ k => XS.iload X4.here hx rfl (hb hby at_102) rfl k) ?_
          show OGo p e below s _ _ _ (T4.setTop (mkF m 104 #[.val (.long q0), .second, .val (.int p1), .val (.long (f1 q0 p1)), .second, .val (.long (v0_0 q0 p1)), .second, .val (.int (v0_1 q0 p1)), .val (.int (((f1 q0 p1) &&& (255 : Int64)).toInt32)), .val (.int (1 : Int32)), .val (.int (v0_2 q0 p1)), .val (.int (f2 (f1 q0 p1)))] [(.int (f2 (f1 q0 p1)))]))
          obtain ⟨_, _, ⟨T5, L5, k5, n5⟩, -, X5, ⟨Lc5, hQ5, l5, y5, z5⟩, st5⟩ := Jvm.LawKit.callS X4 hx (y := (⟨"com/example/sealwright/sealwright/cmw/ContentFormat", "tagNumber", "(I)J"⟩ : MethodName)) hown (mvT hZ (hw _ (List.mem_of_getElem? (i := 18) rfl))) (mvT hZ (hw _ (List.mem_of_getElem? (i := 19) rfl))) (mvT hZ (hw _ (List.mem_of_getElem? (i := 10) rfl))) (mvT hZ (hw _ (List.mem_of_getElem? (i := 20) rfl))) (by decide) (backOf (W := 0) (rm3 l Z a0 hw [] (f2 (f1 q0 p1)) h0 n0 Z0 (own_lo hc43 hc49 hc92) (own_hi hc43 hc49 hc92)) hZ (hw _ (List.mem_of_getElem? (i := 20) rfl)) (hw _ (List.mem_of_getElem? (i := 10) rfl)) (by decide) (by decide)) (g := (mkF m 104 #[.val (.long q0), .second, .val (.int p1), .val (.long (f1 q0 p1)), .second, .val (.long (v0_0 q0 p1)), .second, .val (.int (v0_1 q0 p1)), .val (.int (((f1 q0 p1) &&& (255 : Int64)).toInt32)), .val (.int (1 : Int32)), .val (.int (v0_2 q0 p1)), .val (.int (f2 (f1 q0 p1)))] [(.int (f2 (f1 q0 p1)))])) rfl (by rw [hml]; rfl) (argsL := [(.int (f2 (f1 q0 p1)))]) (rest := []) (lenOf pd_0_2 rfl) rfl (by show 2 * 0 + _ ≤ _; exact Nat.le_of_eq rfl) (hb hby at_104) (fun _ _ => ⟨rfl, e4, (by decide : 0 + 0 ≤ _), (by decide : 0 + 0 ≤ _)⟩)
          dsimp only [Pt.U, Pt.locs, Pt.cells, Pt.slots] at X5 l5 y5 z5 st5 hQ5
          subst l5 y5 z5
          obtain ⟨rfl, N5q, e5⟩ := hQ5
          have N5 := Fr.app N4 N5q
          refine OGo.st st5 ?_
          show OGo p e below s _ _ _ (T5.setTop (mkF m 107 #[.val (.long q0), .second, .val (.int p1), .val (.long (f1 q0 p1)), .second, .val (.long (v0_0 q0 p1)), .second, .val (.int (v0_1 q0 p1)), .val (.int (((f1 q0 p1) &&& (255 : Int64)).toInt32)), .val (.int (1 : Int32)), .val (.int (v0_2 q0 p1)), .val (.int (f2 (f1 q0 p1)))] [(.long (f3 (f2 (f1 q0 p1))))]))
          refine OGo.st (fun _ k => XS.lloadN X5.here hx rfl (hb hby at_107) rfl k) ?_
          show OGo p e below s _ _ _ (T5.setTop (mkF m 108 #[.val (.long q0), .second, .val (.int p1), .val (.long (f1 q0 p1)), .second, .val (.long (v0_0 q0 p1)), .second, .val (.int (v0_1 q0 p1)), .val (.int (((f1 q0 p1) &&& (255 : Int64)).toInt32)), .val (.int (1 : Int32)), .val (.int (v0_2 q0 p1)), .val (.int (f2 (f1 q0 p1)))] [(.long (f1 q0 p1)), (.long (f3 (f2 (f1 q0 p1))))]))
          refine OGo.st (fun _ k => XS.lcmp X5.here hx rfl (hb hby at_108) rfl k) ?_
          show OGo p e below s _ _ _ (T5.setTop (mkF m 109 #[.val (.long q0), .second, .val (.int p1), .val (.long (f1 q0 p1)), .second, .val (.long (v0_0 q0 p1)), .second, .val (.int (v0_1 q0 p1)), .val (.int (((f1 q0 p1) &&& (255 : Int64)).toInt32)), .val (.int (1 : Int32)), .val (.int (v0_2 q0 p1)), .val (.int (f2 (f1 q0 p1)))] [(.int (lcmpW (f3 (f2 (f1 q0 p1))) (f1 q0 p1)))]))
          by_cases hc109 : (f3 (f2 (f1 q0 p1))) = (f1 q0 p1)
          · refine OGo.st (fun _ k => XS.ifNo X5.here hx rfl (hb hby at_109) rfl ((if0 _ _).trans (teq ((olc_eq _ _).mpr hc109)).2) k) ?_
            show OGo p e below s _ _ _ (T5.setTop (mkF m 112 #[.val (.long q0), .second, .val (.int p1), .val (.long (f1 q0 p1)), .second, .val (.long (v0_0 q0 p1)), .second, .val (.int (v0_1 q0 p1)), .val (.int (((f1 q0 p1) &&& (255 : Int64)).toInt32)), .val (.int (1 : Int32)), .val (.int (v0_2 q0 p1)), .val (.int (f2 (f1 q0 p1)))] []))
            refine OGo.st (fun _ k => XS.iconst X5.here hx rfl (hb hby at_112) k) ?_
            show OGo p e below s _ _ _ (T5.setTop (mkF m 113 #[.val (.long q0), .second, .val (.int p1), .val (.long (f1 q0 p1)), .second, .val (.long (v0_0 q0 p1)), .second, .val (.int (v0_1 q0 p1)), .val (.int (((f1 q0 p1) &&& (255 : Int64)).toInt32)), .val (.int (1 : Int32)), .val (.int (v0_2 q0 p1)), .val (.int (f2 (f1 q0 p1)))] [(.int (1 : Int32))]))
            refine OGo.st (fun _ k => XS.goto X5.here hx rfl (pc0 := 113) (pc' := 117) rfl (hb hby at_113) (by decide) (by decide) k) ?_
            show OGo p e below s _ _ _ (T5.setTop (mkF m 117 #[.val (.long q0), .second, .val (.int p1), .val (.long (f1 q0 p1)), .second, .val (.long (v0_0 q0 p1)), .second, .val (.int (v0_1 q0 p1)), .val (.int (((f1 q0 p1) &&& (255 : Int64)).toInt32)), .val (.int (1 : Int32)), .val (.int (v0_2 q0 p1)), .val (.int (f2 (f1 q0 p1)))] [(.int (1 : Int32))]))
            exact oretN X5 hx Bd.notSynchronized (t := .boolean) Bd.returns (by simp) (hb hby at_117) (z' := (1 : Int32)) (by decide) e5 ⟨(congrArg (fun z => some (Value.int z)) (show (1 : Int32) = f0 q0 p1 from Eq.symm (by unfold f0; exact (if_pos hc37).trans ((if_neg hc43).trans ((if_neg hc49).trans ((if_pos hc92).trans (if_pos hc109))))))), N5⟩ (by decide) (by decide)
          · refine OGo.st (fun _ k => XS.ifYes X5.here hx rfl (pc0 := 109) (pc' := 116) rfl (hb hby at_109) rfl ((if0 _ _).trans (feq (fun z => hc109 ((olc_eq _ _).mp z))).2) (by decide) (by decide) k) ?_
            show OGo p e below s _ _ _ (T5.setTop (mkF m 116 #[.val (.long q0), .second, .val (.int p1), .val (.long (f1 q0 p1)), .second, .val (.long (v0_0 q0 p1)), .second, .val (.int (v0_1 q0 p1)), .val (.int (((f1 q0 p1) &&& (255 : Int64)).toInt32)), .val (.int (1 : Int32)), .val (.int (v0_2 q0 p1)), .val (.int (f2 (f1 q0 p1)))] []))
            refine OGo.st (fun _ k => XS.iconst X5.here hx rfl (hb hby at_116) k) ?_
            show OGo p e below s _ _ _ (T5.setTop (mkF m 117 #[.val (.long q0), .second, .val (.int p1), .val (.long (f1 q0 p1)), .second, .val (.long (v0_0 q0 p1)), .second, .val (.int (v0_1 q0 p1)), .val (.int (((f1 q0 p1) &&& (255 : Int64)).toInt32)), .val (.int (1 : Int32)), .val (.int (v0_2 q0 p1)), .val (.int (f2 (f1 q0 p1)))] [(.int (0 : Int32))]))
            exact oretN X5 hx Bd.notSynchronized (t := .boolean) Bd.returns (by simp) (hb hby at_117) (z' := (0 : Int32)) (by decide) e5 ⟨(congrArg (fun z => some (Value.int z)) (show (0 : Int32) = f0 q0 p1 from Eq.symm (by unfold f0; exact (if_pos hc37).trans ((if_neg hc43).trans ((if_neg hc49).trans ((if_pos hc92).trans (if_neg hc109))))))), N5⟩ (by decide) (by decide)
        · refine OGo.st (fun _ k => XS.icmpNo X4.here hx rfl (hb hby at_92) rfl (feq hc92).1 k) ?_
          show OGo p e below s _ _ _ (T4.setTop (mkF m 95 #[.val (.long q0), .second, .val (.int p1), .val (.long (f1 q0 p1)), .second, .val (.long (v0_0 q0 p1)), .second, .val (.int (v0_1 q0 p1)), .val (.int (((f1 q0 p1) &&& (255 : Int64)).toInt32)), .val (.int (1 : Int32)), .val (.int (v0_2 q0 p1)), .val (.int (f2 (f1 q0 p1)))] []))
          refine OGo.st (fun _ k => XS.iconst X4.here hx rfl (hb hby at_95) k) ?_
          show OGo p e below s _ _ _ (T4.setTop (mkF m 96 #[.val (.long q0), .second, .val (.int p1), .val (.long (f1 q0 p1)), .second, .val (.long (v0_0 q0 p1)), .second, .val (.int (v0_1 q0 p1)), .val (.int (((f1 q0 p1) &&& (255 : Int64)).toInt32)), .val (.int (1 : Int32)), .val (.int (v0_2 q0 p1)), .val (.int (f2 (f1 q0 p1)))] [(.int (0 : Int32))]))
          exact oretN X4 hx Bd.notSynchronized (t := .boolean) Bd.returns (by simp) (hb hby at_96) (z' := (0 : Int32)) (by decide) e4 ⟨(congrArg (fun z => some (Value.int z)) (show (0 : Int32) = f0 q0 p1 from Eq.symm (by unfold f0; exact (if_pos hc37).trans ((if_neg hc43).trans ((if_neg hc49).trans (if_neg hc92)))))), N4⟩ (by decide) (by decide)
  · refine OGo.st (fun _ k => XS.ifYes X1.here hx rfl (pc0 := 37) (pc' := 56) rfl (hb hby at_37) rfl ((if0 _ _).trans (feq (fun z => hc37 ((olc_eq _ _).mp z))).2) (by decide) (by decide) k) ?_
    show OGo p e below s _ _ _ (T1.setTop (mkF m 56 #[.val (.long q0), .second, .val (.int p1), .val (.long (f1 q0 p1)), .second, .val (.long (v0_0 q0 p1)), .second, .val (.int (v0_1 q0 p1)), .val (.int (((f1 q0 p1) &&& (255 : Int64)).toInt32)), .unset, .unset, .unset] []))
    refine OGo.st (fun _ k => XS.iconst X1.here hx rfl (hb hby at_56) k) ?_
    show OGo p e below s _ _ _ (T1.setTop (mkF m 57 #[.val (.long q0), .second, .val (.int p1), .val (.long (f1 q0 p1)), .second, .val (.long (v0_0 q0 p1)), .second, .val (.int (v0_1 q0 p1)), .val (.int (((f1 q0 p1) &&& (255 : Int64)).toInt32)), .unset, .unset, .unset] [(.int (0 : Int32))]))
    refine OGo.st (fun _ k => XS.istore X1.here hx rfl (hb hby at_57) rfl (l' := #[.val (.long q0), .second, .val (.int p1), .val (.long (f1 q0 p1)), .second, .val (.long (v0_0 q0 p1)), .second, .val (.int (v0_1 q0 p1)), .val (.int (((f1 q0 p1) &&& (255 : Int64)).toInt32)), .val (.int (0 : Int32)), .unset, .unset]) rfl k) ?_
    show OGo p e below s _ _ _ (T1.setTop (mkF m 59 #[.val (.long q0), .second, .val (.int p1), .val (.long (f1 q0 p1)), .second, .val (.long (v0_0 q0 p1)), .second, .val (.int (v0_1 q0 p1)), .val (.int (((f1 q0 p1) &&& (255 : Int64)).toInt32)), .val (.int (0 : Int32)), .unset, .unset] []))
    refine OGo.st (fun _ k => XS.iconst X1.here hx rfl (hb hby at_59) k) ?_
    show OGo p e below s _ _ _ (T1.setTop (mkF m 60 #[.val (.long q0), .second, .val (.int p1), .val (.long (f1 q0 p1)), .second, .val (.long (v0_0 q0 p1)), .second, .val (.int (v0_1 q0 p1)), .val (.int (((f1 q0 p1) &&& (255 : Int64)).toInt32)), .val (.int (0 : Int32)), .unset, .unset] [(.int (-1 : Int32))]))
    refine OGo.st (fun _ k => XS.istore X1.here hx rfl (hb hby at_60) rfl (l' := #[.val (.long q0), .second, .val (.int p1), .val (.long (f1 q0 p1)), .second, .val (.long (v0_0 q0 p1)), .second, .val (.int (v0_1 q0 p1)), .val (.int (((f1 q0 p1) &&& (255 : Int64)).toInt32)), .val (.int (0 : Int32)), .val (.int (-1 : Int32)), .unset]) rfl k) ?_
    show OGo p e below s _ _ _ (T1.setTop (mkF m 62 #[.val (.long q0), .second, .val (.int p1), .val (.long (f1 q0 p1)), .second, .val (.long (v0_0 q0 p1)), .second, .val (.int (v0_1 q0 p1)), .val (.int (((f1 q0 p1) &&& (255 : Int64)).toInt32)), .val (.int (0 : Int32)), .val (.int (-1 : Int32)), .unset] []))
    refine OGo.st (fun _ k => XS.iload X1.here hx rfl (hb hby at_62) rfl k) ?_
    show OGo p e below s _ _ _ (T1.setTop (mkF m 64 #[.val (.long q0), .second, .val (.int p1), .val (.long (f1 q0 p1)), .second, .val (.long (v0_0 q0 p1)), .second, .val (.int (v0_1 q0 p1)), .val (.int (((f1 q0 p1) &&& (255 : Int64)).toInt32)), .val (.int (0 : Int32)), .val (.int (-1 : Int32)), .unset] [(.int (0 : Int32))]))
    refine OGo.st (fun _ k => XS.ifYes X1.here hx rfl (pc0 := 64) (pc' := 82) rfl (hb hby at_64) rfl ((if0 _ _).trans (teq (by decide : (0 : Int32) = (0 : Int32))).1) (by decide) (by decide) k) ?_
    show OGo p e below s _ _ _ (T1.setTop (mkF m 82 #[.val (.long q0), .second, .val (.int p1), .val (.long (f1 q0 p1)), .second, .val (.long (v0_0 q0 p1)), .second, .val (.int (v0_1 q0 p1)), .val (.int (((f1 q0 p1) &&& (255 : Int64)).toInt32)), .val (.int (0 : Int32)), .val (.int (-1 : Int32)), .unset] []))
    refine OGo.st (fun _ k => XS.lloadN X1.here hx rfl (hb hby at_82) rfl k) ?_
    show OGo p e below s _ _ _ (T1.setTop (mkF m 83 #[.val (.long q0), .second, .val (.int p1), .val (.long (f1 q0 p1)), .second, .val (.long (v0_0 q0 p1)), .second, .val (.int (v0_1 q0 p1)), .val (.int (((f1 q0 p1) &&& (255 : Int64)).toInt32)), .val (.int (0 : Int32)), .val (.int (-1 : Int32)), .unset] [(.long (f1 q0 p1))]))
    obtain ⟨_, _, ⟨T6, L6, k6, n6⟩, -, X6, ⟨Lc6, hQ6, l6, y6, z6⟩, st6⟩ := Jvm.LawKit.callS X1 hx (y := (⟨"com/example/sealwright/sealwright/cmw/ContentFormat", "of", "(J)I"⟩ : MethodName)) hown (mvT hZ (hw _ (List.mem_of_getElem? (i := 8) rfl))) (mvT hZ (hw _ (List.mem_of_getElem? (i := 9) rfl))) (mvT hZ (hw _ (List.mem_of_getElem? (i := 10) rfl))) (mvT hZ (hw _ (List.mem_of_getElem? (i := 11) rfl))) (by decide) (backOf (W := 0) (rm2 l Z a0 hw [] (f1 q0 p1) h0 n0 Z0) hZ (hw _ (List.mem_of_getElem? (i := 11) rfl)) (hw _ (List.mem_of_getElem? (i := 10) rfl)) (by decide) (by decide)) (g := (mkF m 83 #[.val (.long q0), .second, .val (.int p1), .val (.long (f1 q0 p1)), .second, .val (.long (v0_0 q0 p1)), .second, .val (.int (v0_1 q0 p1)), .val (.int (((f1 q0 p1) &&& (255 : Int64)).toInt32)), .val (.int (0 : Int32)), .val (.int (-1 : Int32)), .unset] [(.long (f1 q0 p1))])) rfl (by rw [hml]; rfl) (argsL := [(.long (f1 q0 p1))]) (rest := []) (lenOf pd_0_1 rfl) rfl (by show 2 * 0 + _ ≤ _; exact Nat.le_of_eq rfl) (hb hby at_83) (fun _ _ => ⟨rfl, e1, (by decide : 0 + 0 ≤ _), (by decide : 0 + 0 ≤ _)⟩)
    dsimp only [Pt.U, Pt.locs, Pt.cells, Pt.slots] at X6 l6 y6 z6 st6 hQ6
    subst l6 y6 z6
    obtain ⟨rfl, N6q, e6⟩ := hQ6
    have N6 := Fr.app N1 N6q
    refine OGo.st st6 ?_
    show OGo p e below s _ _ _ (T6.setTop (mkF m 86 #[.val (.long q0), .second, .val (.int p1), .val (.long (f1 q0 p1)), .second, .val (.long (v0_0 q0 p1)), .second, .val (.int (v0_1 q0 p1)), .val (.int (((f1 q0 p1) &&& (255 : Int64)).toInt32)), .val (.int (0 : Int32)), .val (.int (-1 : Int32)), .unset] [(.int (f2 (f1 q0 p1)))]))
    refine OGo.st (fun _ k => XS.istore X6.here hx rfl (hb hby at_86) rfl (l' := #[.val (.long q0), .second, .val (.int p1), .val (.long (f1 q0 p1)), .second, .val (.long (v0_0 q0 p1)), .second, .val (.int (v0_1 q0 p1)), .val (.int (((f1 q0 p1) &&& (255 : Int64)).toInt32)), .val (.int (0 : Int32)), .val (.int (-1 : Int32)), .val (.int (f2 (f1 q0 p1)))]) rfl k) ?_
    show OGo p e below s _ _ _ (T6.setTop (mkF m 88 #[.val (.long q0), .second, .val (.int p1), .val (.long (f1 q0 p1)), .second, .val (.long (v0_0 q0 p1)), .second, .val (.int (v0_1 q0 p1)), .val (.int (((f1 q0 p1) &&& (255 : Int64)).toInt32)), .val (.int (0 : Int32)), .val (.int (-1 : Int32)), .val (.int (f2 (f1 q0 p1)))] []))
    refine OGo.st (fun _ k => XS.iload X6.here hx rfl (hb hby at_88) rfl k) ?_
    show OGo p e below s _ _ _ (T6.setTop (mkF m 90 #[.val (.long q0), .second, .val (.int p1), .val (.long (f1 q0 p1)), .second, .val (.long (v0_0 q0 p1)), .second, .val (.int (v0_1 q0 p1)), .val (.int (((f1 q0 p1) &&& (255 : Int64)).toInt32)), .val (.int (0 : Int32)), .val (.int (-1 : Int32)), .val (.int (f2 (f1 q0 p1)))] [(.int (f2 (f1 q0 p1)))]))
    refine OGo.st (fun _ k => XS.iload X6.here hx rfl (hb hby at_90) rfl k) ?_
    show OGo p e below s _ _ _ (T6.setTop (mkF m 92 #[.val (.long q0), .second, .val (.int p1), .val (.long (f1 q0 p1)), .second, .val (.long (v0_0 q0 p1)), .second, .val (.int (v0_1 q0 p1)), .val (.int (((f1 q0 p1) &&& (255 : Int64)).toInt32)), .val (.int (0 : Int32)), .val (.int (-1 : Int32)), .val (.int (f2 (f1 q0 p1)))] [(.int (-1 : Int32)), (.int (f2 (f1 q0 p1)))]))
    by_cases hc92 : (f2 (f1 q0 p1)) = (-1 : Int32)
    · refine OGo.st (fun _ k => XS.icmpYes X6.here hx rfl (pc0 := 92) (pc' := 97) rfl (hb hby at_92) rfl (teq hc92).1 (by decide) (by decide) k) ?_
      show OGo p e below s _ _ _ (T6.setTop (mkF m 97 #[.val (.long q0), .second, .val (.int p1), .val (.long (f1 q0 p1)), .second, .val (.long (v0_0 q0 p1)), .second, .val (.int (v0_1 q0 p1)), .val (.int (((f1 q0 p1) &&& (255 : Int64)).toInt32)), .val (.int (0 : Int32)), .val (.int (-1 : Int32)), .val (.int (f2 (f1 q0 p1)))] []))
      refine OGo.st (fun _ k => XS.iload X6.here hx rfl (hb hby at_97) rfl k) ?_
      show OGo p e below s _ _ _ (T6.setTop (mkF m 99 #[.val (.long q0), .second, .val (.int p1), .val (.long (f1 q0 p1)), .second, .val (.long (v0_0 q0 p1)), .second, .val (.int (v0_1 q0 p1)), .val (.int (((f1 q0 p1) &&& (255 : Int64)).toInt32)), .val (.int (0 : Int32)), .val (.int (-1 : Int32)), .val (.int (f2 (f1 q0 p1)))] [(.int (0 : Int32))]))
      refine OGo.st (fun _ k => XS.ifYes X6.here hx rfl (pc0 := 99) (pc' := 118) rfl (hb hby at_99) rfl ((if0 _ _).trans (teq (by decide : (0 : Int32) = (0 : Int32))).1) (by decide) (by decide) k) ?_
      show OGo p e below s _ _ _ (T6.setTop (mkF m 118 #[.val (.long q0), .second, .val (.int p1), .val (.long (f1 q0 p1)), .second, .val (.long (v0_0 q0 p1)), .second, .val (.int (v0_1 q0 p1)), .val (.int (((f1 q0 p1) &&& (255 : Int64)).toInt32)), .val (.int (0 : Int32)), .val (.int (-1 : Int32)), .val (.int (f2 (f1 q0 p1)))] []))
      refine OGo.st (fun _ k => XS.iconst X6.here hx rfl (hb hby at_118) k) ?_
      show OGo p e below s _ _ _ (T6.setTop (mkF m 119 #[.val (.long q0), .second, .val (.int p1), .val (.long (f1 q0 p1)), .second, .val (.long (v0_0 q0 p1)), .second, .val (.int (v0_1 q0 p1)), .val (.int (((f1 q0 p1) &&& (255 : Int64)).toInt32)), .val (.int (0 : Int32)), .val (.int (-1 : Int32)), .val (.int (f2 (f1 q0 p1)))] [(.int (1 : Int32))]))
      exact oretN X6 hx Bd.notSynchronized (t := .boolean) Bd.returns (by simp) (hb hby at_119) (z' := (1 : Int32)) (by decide) e6 ⟨(congrArg (fun z => some (Value.int z)) (show (1 : Int32) = f0 q0 p1 from Eq.symm (by unfold f0; exact (if_neg hc37).trans (if_pos hc92)))), N6⟩ (by decide) (by decide)
    · refine OGo.st (fun _ k => XS.icmpNo X6.here hx rfl (hb hby at_92) rfl (feq hc92).1 k) ?_
      show OGo p e below s _ _ _ (T6.setTop (mkF m 95 #[.val (.long q0), .second, .val (.int p1), .val (.long (f1 q0 p1)), .second, .val (.long (v0_0 q0 p1)), .second, .val (.int (v0_1 q0 p1)), .val (.int (((f1 q0 p1) &&& (255 : Int64)).toInt32)), .val (.int (0 : Int32)), .val (.int (-1 : Int32)), .val (.int (f2 (f1 q0 p1)))] []))
      refine OGo.st (fun _ k => XS.iconst X6.here hx rfl (hb hby at_95) k) ?_
      show OGo p e below s _ _ _ (T6.setTop (mkF m 96 #[.val (.long q0), .second, .val (.int p1), .val (.long (f1 q0 p1)), .second, .val (.long (v0_0 q0 p1)), .second, .val (.int (v0_1 q0 p1)), .val (.int (((f1 q0 p1) &&& (255 : Int64)).toInt32)), .val (.int (0 : Int32)), .val (.int (-1 : Int32)), .val (.int (f2 (f1 q0 p1)))] [(.int (0 : Int32))]))
      exact oretN X6 hx Bd.notSynchronized (t := .boolean) Bd.returns (by simp) (hb hby at_96) (z' := (0 : Int32)) (by decide) e6 ⟨(congrArg (fun z => some (Value.int z)) (show (0 : Int32) = f0 q0 p1 from Eq.symm (by unfold f0; exact (if_neg hc37).trans (if_neg hc92)))), N6⟩ (by decide) (by decide)
theorem own_sh (x : Int64) (k : Nat) (n : UInt64) (h : n.toNat % 64 = k) : ((x.toUInt64 >>> n).toInt64).toBitVec = x.toBitVec >>> k := by
  subst h
  show (x.toUInt64 >>> n).toBitVec = _
  rw [UInt64.toBitVec_shiftRight]
  apply BitVec.eq_of_toNat_eq
  simp
theorem own_u16 (t : Int64) : (((t.toUInt64 >>> ((16 : Int32) &&& 0x3f).toInt64.toUInt64).toInt64) = (25460 : Int64)) ↔ (1668546560 ≤ t.toInt ∧ t.toInt < 1668612096) := by
  rw [← Int64.toBitVec_inj, own_sh _ 16 _ (by decide), BitVec.toNat_eq, BitVec.toNat_ushiftRight, Nat.shiftRight_eq_div_pow]
  have k : (25460 : Int64).toBitVec.toNat = 25460 := by decide
  have c : t.toInt = if 2 * t.toBitVec.toNat < 2 ^ 64 then (t.toBitVec.toNat : Int) else (t.toBitVec.toNat : Int) - (2 ^ 64 : Nat) := BitVec.toInt_eq_toNat_cond _
  have l := t.toBitVec.isLt
  rw [k, c]
  split <;> omega
theorem own_d {x y : Int64} (k : Int64) (K : Int) (hk : k.toInt = K) (h1 : -2 ^ 63 ≤ x.toInt - K) (h2 : x.toInt - K < 2 ^ 63) (h : y = x - k) : y.toInt = x.toInt - K := by
  subst h; rw [Jvm.Kit.i64_sub (by rw [hk]; exact h1) (by rw [hk]; exact h2), hk]
theorem own_of (t : Int64) (h1 : 1668546817 ≤ t.toInt) (h2 : t.toInt ≤ 1668612095) : ((t - (1668546817 : Int64)) % (256 : Int64)).toInt = (t.toInt - 1668546817) % 256 ∧ (v2_0 t).toInt = (t.toInt - 1668546817) / 256 * 255 + (t.toInt - 1668546817) % 256 := by
  have kF : (1668546817 : Int64).toInt = 1668546817 := by decide
  have k256 : (256 : Int64).toInt = 256 := by decide
  have k255 : (255 : Int64).toInt = 255 := by decide
  have e1 : (t - (1668546817 : Int64)).toInt = t.toInt - 1668546817 := by rw [Jvm.Kit.i64_sub (by rw [kF]; omega) (by rw [kF]; omega), kF]
  have e2 : ((t - (1668546817 : Int64)) % (256 : Int64)).toInt = (t.toInt - 1668546817) % 256 := by rw [Int64.toInt_mod, k256, e1, Int.tmod_eq_emod_of_nonneg (by omega)]
  have e3 : ((t - (1668546817 : Int64)) / (256 : Int64)).toInt = (t.toInt - 1668546817) / 256 := by rw [Jvm.Kit.i64_div (by rw [k256]; omega), k256, e1, Int.tdiv_eq_ediv_of_nonneg (by omega)]
  have e4 : (((t - (1668546817 : Int64)) / (256 : Int64)) * (255 : Int64)).toInt = (t.toInt - 1668546817) / 256 * 255 := by rw [Jvm.Kit.i64_mul (by rw [k255, e3]; omega) (by rw [k255, e3]; omega), k255, e3]
  have e5 : ((((t - (1668546817 : Int64)) / (256 : Int64)) * (255 : Int64)) + ((t - (1668546817 : Int64)) % (256 : Int64))).toInt = (t.toInt - 1668546817) / 256 * 255 + (t.toInt - 1668546817) % 256 := by rw [Jvm.Kit.i64_add (by rw [e4, e2]; omega) (by rw [e4, e2]; omega), e4, e2]
  refine ⟨e2, ?_⟩
  unfold v2_0
  rw [Jvm.Kit.i32_of_i64 (by rw [e5]; omega) (by rw [e5]; omega), e5]
theorem own_f2 (t : Int64) : (f2 t).toInt = if t.toInt < 1668546817 then -1 else if 1668612095 < t.toInt then -1 else if (t.toInt - 1668546817) % 256 < 255 then (t.toInt - 1668546817) / 256 * 255 + (t.toInt - 1668546817) % 256 else -1 := by
  have kF : (1668546817 : Int64).toInt = 1668546817 := by decide
  have kL : (1668612095 : Int64).toInt = 1668612095 := by decide
  have k255 : (255 : Int64).toInt = 255 := by decide
  have km : (-1 : Int32).toInt = -1 := by decide
  unfold f2
  simp only [Int64.lt_iff_toInt_lt, kF, kL, k255]
  by_cases a : t.toInt < 1668546817
  · rw [if_pos a, if_pos a, km]
  · by_cases b : 1668612095 < t.toInt
    · rw [if_neg a, if_pos b, if_neg a, if_pos b, km]
    · obtain ⟨e2, e5⟩ := own_of t (by omega) (by omega)
      rw [if_neg a, if_neg b, if_neg a, if_neg b, e2]
      by_cases c : (t.toInt - 1668546817) % 256 < 255
      · rw [if_pos c, if_pos c, e5]
      · rw [if_neg c, if_neg c, km]
theorem own_f3 (g : Int32) (h1 : 0 ≤ g.toInt) (h2 : g.toInt ≤ 65024) : (f3 g).toInt = 1668546817 + g.toInt / 255 * 256 + g.toInt % 255 := by
  have k0 : (0 : Int32).toInt = 0 := by decide
  have kM : (65024 : Int32).toInt = 65024 := by decide
  have kF : (1668546817 : Int64).toInt = 1668546817 := by decide
  have k256 : (256 : Int64).toInt = 256 := by decide
  have e1 : (g / (255 : Int32)).toInt64.toInt = g.toInt / 255 := by rw [Int32.toInt_toInt64, Jvm.Kit.i32_div (by rw [own_c255]; omega), own_c255, Int.tdiv_eq_ediv_of_nonneg h1]
  have e2 : (g % (255 : Int32)).toInt64.toInt = g.toInt % 255 := by rw [Int32.toInt_toInt64, Jvm.Kit.i32_rem_nonneg h1, own_c255]
  have e3 : ((g / (255 : Int32)).toInt64 * (256 : Int64)).toInt = g.toInt / 255 * 256 := by rw [Jvm.Kit.i64_mul (by rw [e1, k256]; omega) (by rw [e1, k256]; omega), e1, k256]
  have e4 : ((1668546817 : Int64) + ((g / (255 : Int32)).toInt64 * (256 : Int64))).toInt = 1668546817 + g.toInt / 255 * 256 := by rw [Jvm.Kit.i64_add (by rw [e3, kF]; omega) (by rw [e3, kF]; omega), e3, kF]
  unfold f3
  simp only [Int32.lt_iff_toInt_lt, k0, kM]
  rw [if_neg (by omega), if_neg (by omega), Jvm.Kit.i64_add (by rw [e4, e2]; omega) (by rw [e4, e2]; omega), e4, e2]
theorem own_plain (q0 : Int64) (p1 : Int32) : f0 q0 p1 = 1 := by
  have hA : (v0_0 q0 p1 = (25460 : Int64)) ↔ (1668546560 ≤ (f1 q0 p1).toInt ∧ (f1 q0 p1).toInt < 1668612096) := own_u16 (f1 q0 p1)
  have hl : (((f1 q0 p1) &&& (255 : Int64)).toInt32).toInt = (f1 q0 p1).toInt % 256 := own_byte (f1 q0 p1)
  have hh : 0 ≤ (f1 q0 p1).toInt → (v0_1 q0 p1).toInt = (f1 q0 p1).toInt / 256 % 256 := fun h => by
    unfold v0_1
    rw [own_byte, Jvm.Kit.i64_lushr (k := 8) (by rw [Int64.le_iff_toInt_le, Int64.toInt_zero]; exact h) (by decide) (by decide)]
    rfl
  have hn : v0_2 q0 p1 = ((((v0_1 q0 p1) - (1 : Int32)) * (255 : Int32)) + ((((f1 q0 p1) &&& (255 : Int64)).toInt32) - (1 : Int32))) := rfl
  have e2 := own_f2 (f1 q0 p1)
  have km : (-1 : Int32).toInt = -1 := by decide
  have em : (f2 (f1 q0 p1)).toInt = -1 → f2 (f1 q0 p1) = (-1 : Int32) := fun h => Int32.toInt_inj.mp (h.trans km.symm)
  have b1 : (v0_1 q0 p1 < (1 : Int32)) ↔ (v0_1 q0 p1).toInt < 1 := by rw [Int32.lt_iff_toInt_lt, own_c1]
  have b2 : ((((f1 q0 p1) &&& (255 : Int64)).toInt32) < (1 : Int32)) ↔ (f1 q0 p1).toInt % 256 < 1 := by rw [Int32.lt_iff_toInt_lt, own_c1, hl]
  unfold f0
  by_cases a : 1668546560 ≤ (f1 q0 p1).toInt ∧ (f1 q0 p1).toInt < 1668612096
  · rw [if_pos (hA.mpr a)]
    rw [hh (by omega)] at b1
    by_cases b : (f1 q0 p1).toInt / 256 % 256 < 1
    · rw [if_pos (b1.mpr b), if_pos (em (by rw [e2, if_pos (by omega)]))]
    · rw [if_neg (fun z => b (b1.mp z))]
      by_cases c : (f1 q0 p1).toInt % 256 < 1
      · rw [if_pos (b2.mpr c), if_pos (em ?_)]
        rw [e2]
        by_cases d : (f1 q0 p1).toInt < 1668546817
        · rw [if_pos d]
        · rw [if_neg d, if_neg (by omega), if_neg (by omega)]
      · have en : (v0_2 q0 p1).toInt = ((f1 q0 p1).toInt / 256 % 256 - 1) * 255 + ((f1 q0 p1).toInt % 256 - 1) := by
          rw [hn, own_num (by rw [hh (by omega)]; omega) (by rw [hl]; omega), hh (by omega), hl]
        have eg : (f2 (f1 q0 p1)).toInt = ((f1 q0 p1).toInt / 256 % 256 - 1) * 255 + ((f1 q0 p1).toInt % 256 - 1) := by
          rw [e2, if_neg (by omega), if_neg (by omega), if_pos (by omega)]; omega
        have et : f3 (f2 (f1 q0 p1)) = f1 q0 p1 := Int64.toInt_inj.mp (by
          rw [own_f3 _ (by rw [eg]; omega) (by rw [eg]; omega), eg]
          omega)
        rw [if_neg (fun z => c (b2.mp z)), if_pos (Int32.toInt_inj.mp (eg.trans en.symm)), if_pos et]
  · rw [if_neg (fun z => a (hA.mp z)), if_pos (em ?_)]
    rw [e2]
    by_cases d : (f1 q0 p1).toInt < 1668546817
    · rw [if_pos d]
    · rw [if_neg d, if_pos (by omega)]
set_option maxRecDepth 65536 in
set_option maxHeartbeats 40000000 in
theorem comes_1 {Post : Tables → Env → Array Value → State → Outcome → State → Prop} (hpost : ∀ tb e args s v u, (limb_1_1.after args s (.returned v) u = true ∧ limb_1_2.after args s (.returned v) u = true ∧ True) → FrameEnd s (.returned v) u (Jvm.fieldLocs frame_1_writes args s ++ Jvm.arrayLocs frame_1_arrays args s ++ Jvm.staticLocs frame_1_statics s) 0 0 → Post tb e args s (.returned v) u) :
    ArmFor flags0 classFile x code maxLocals ret World_1 tables_1 room_1 Calls_1 rest_1 Pre_1 Post := by
  intro l hfl _ _ p e ha hc hk s m args below hf hA hF happ hP
  obtain ⟨hcalls, hrest, hpre⟩ := hP
  obtain ⟨-, -, -, hnamed, -, -, -, hat⟩ := (Spec.applies_iff hf).mp happ
  obtain ⟨hg, hn⟩ := and_e (Cond.before_iff.mp (show (Jvm.Cond.and given_1 narrow_1).before args s = true from hpre))
  obtain ⟨gv1, gv2⟩ := and_e hg
  obtain ⟨gv3, gv4⟩ := and_e gv2
  obtain ⟨w0, w1, rfl⟩ : ∃ w0 w1 : Value, args = #[w0, w1] := by
    have hs : args.size = 2 := by simpa [Cond.value, given_1] using gv1
    obtain ⟨L⟩ := args
    match L, hs with
    | [w0, w1], _ => exact ⟨w0, w1, rfl⟩
  have hw := fun d (hd : d ∈ tables_1) => atoms_spec (ws := Jvm.Cond.code x code maxLocals ret :: tables_1) hat d (List.mem_cons_of_mem _ hd)
  have hfit : Fit s := fun {y c} hc i hi => by
    obtain ⟨ha, rfl⟩ := Array.getElem?_eq_some_iff.mp hc
    have q := List.all_eq_true.mp ((Array.all_eq_true_iff_forall_mem.mp hF) _ (Array.getElem_mem ha)) i (List.mem_range.mpr hi)
    simpa [Array.getElem?_eq_getElem hi] using q
  obtain ⟨i0, ei0⟩ := isL_v gv3
  obtain rfl : w0 = (.long i0) := Option.some.inj ei0
  obtain ⟨i1, ei1⟩ := is_v gv4
  obtain rfl : w1 = (.int i1) := Option.some.inj ei1
  have hpl := own_plain i0 i1
  obtain ⟨n, o, h1, h2, h3, _, L, rfl, ⟨rfl, N⟩, hq⟩ := rm0 l s _ hw tables_1 i0 i1 s.heap s.heap.size (Nat.le_refl _) p e ha hc hk s m _ below hf ((Spec.applies_iff_loose hf).mp happ).1 ⟨rfl, State.Warmed39.refl s, rfl⟩ trivial
  refine ⟨n, _, h1, h2, h3, hpost _ _ _ _ _ _ ⟨Cond.after_iff.mpr rfl, Cond.after_iff.mpr (eq_i res_at (Term.int_eval (1)) (congrArg Value.int hpl)), trivial⟩ ⟨hq.1, hq.2.1, (hq.2.2.sift fun y hy => Or.inr (N y hy)).mono (by decide) (by decide)⟩⟩
theorem main_1_1 : Claimed_1_1 := comes_1 fun _ _ _ _ _ _ h hF => ⟨h.1, hF⟩
theorem main_1_2 : Claimed_1_2 := comes_1 fun _ _ _ _ _ _ h hF => ⟨h.2.1, hF⟩
end Jvm.Pilot.@@N@@
namespace Jvm.Pilot.@@N@@
open Jvm Jvm.ClassFile Sem Op Lib Jvm.Free Jvm.Stand Jvm.Pilot.@@N@@.Jvm.D
/-! MADE BY PROGRAM (witnessworld.py) out of the Statement's table words and the real class files: 9 classes; the members and pool entries that the words name. The judged class is class 1, her method 2. -/
namespace start1
open Jvm.ClassFile
def u (s : String) : CpInfo := .utf8 (stringToUtf16 s)
/-- a pool by its gaps: so many unusable entries, then the entry; so many at the end -/
def gap : Nat → List CpInfo → List CpInfo
  | 0, r => r
  | n + 1, r => .unusable :: gap n r
def poolList (es : List (Nat × CpInfo)) (last : Nat) : List CpInfo := es.foldr (fun e r => gap e.1 (e.2 :: r)) (gap last [])
def pool (es : List (Nat × CpInfo)) (last : Nat) : Array CpInfo := ⟨poolList es last⟩
def fileOf (pool : Array CpInfo) (this : Nat) (attrs : Array Attribute := #[]) (ms : Array MethodInfo := #[]) (fl : Nat := 33) (sup : Nat := 0) (ifs : Array Nat := #[]) (fds : Array FieldInfo := #[]) : ClassFile where
  minorVersion := 0
  majorVersion := 65
  constantPool := pool
  accessFlags := fl
  thisClass := this
  superClass := sup
  interfaces := ifs
  fields := fds
  methods := ms
  attributes := attrs
def plain (name : String) (sup : Option ClassId) : Class where
  name := name
  kind := .ordinary
  loader := none
  accessFlags := 33
  super := sup
  interfaces := #[]
  cf := none
  fields := #[]
  methods := #[]
  instanceTypes := #[]
  staticTypes := #[]
  resolved := #[]
  callSites := []
  init := .initialized
  statics := none
  mirror := none

def pool0 : Array CpInfo := pool [(5, u "<init>"), (0, u "()V"), (1, .class_ 10), (1, u "java/lang/Object")] 113

def k0m0 : Method := { name := "<init>", desc := "()V", sig := { parameters := [], returnType := none }, accessFlags := 1, code := none }
/-- java/lang/Object -/
def k0 : Class := { plain "java/lang/Object" none with
  accessFlags := 33
  interfaces := #[]
  cf := some (fileOf pool0 8 #[] #[{ accessFlags := 1, nameIndex := 5, descriptorIndex := 6, attributes := #[] }] 33 0 #[] #[])
  fields := #[]
  methods := #[k0m0]
  instanceTypes := #[]
  staticTypes := #[]
  resolved := Array.replicate 124 none
  statics := none }

def pool1 : Array CpInfo := pool [(2, .class_ 4), (1, u "java/lang/Object"), (0, u "<init>"), (0, u "()V"), (0, .long 1668546560), (1, .long 65535), (1, .long 196608), (1, .long 512), (1, .methodref 16 17), (0, .class_ 18), (0, .nameAndType 19 20), (0, u "com/example/sealwright/sealwright/cmw/ContentFormatOfPinLaw"), (0, u "pick"), (0, u "(JI)J"), (0, .long 255), (1, .long 25460), (1, .methodref 26 27), (0, .class_ 28), (0, .nameAndType 29 30), (0, u "com/example/sealwright/sealwright/cmw/ContentFormat"), (0, u "of"), (0, u "(J)I"), (0, .methodref 26 32), (0, .nameAndType 33 34), (0, u "tagNumber"), (0, u "(I)J"), (3, u "law"), (0, u "(JI)Z")] 2

def k1m0 : Method := { name := "<init>", desc := "()V", sig := { parameters := [], returnType := none }, accessFlags := 2, code := none }
def k1c1 : Code := { maxStack := 6, maxLocals := 4, code := method_2_code, exceptionTable := #[], attributes := #[] }
def k1m1 : Method := { name := "pick", desc := "(JI)J", sig := { parameters := [.long, .int], returnType := some .long }, accessFlags := 10, code := some k1c1 }
def k1c2 : Code := { maxStack := 4, maxLocals := 12, code := code, exceptionTable := #[], attributes := #[] }
def k1m2 : Method := { name := "law", desc := "(JI)Z", sig := { parameters := [.long, .int], returnType := some .boolean }, accessFlags := 9, code := some k1c2 }
/-- com/example/sealwright/sealwright/cmw/ContentFormatOfPinLaw -/
def k1 : Class := { plain "com/example/sealwright/sealwright/cmw/ContentFormatOfPinLaw" (some 0) with
  accessFlags := 49
  interfaces := #[]
  cf := some (fileOf pool1 16 #[] #[{ accessFlags := 2, nameIndex := 5, descriptorIndex := 6, attributes := #[] }, { accessFlags := 10, nameIndex := 19, descriptorIndex := 20, attributes := #[] }, { accessFlags := 9, nameIndex := 38, descriptorIndex := 39, attributes := #[] }] 49 2 #[] #[])
  fields := #[]
  methods := #[k1m0, k1m1, k1m2]
  instanceTypes := #[]
  staticTypes := #[]
  resolved := Array.replicate 42 none
  statics := none }

def pool2 : Array CpInfo := pool [(2, .class_ 4), (1, u "java/lang/Object"), (0, u "<init>"), (0, u "()V"), (0, .class_ 8), (0, u "com/example/sealwright/sealwright/cmw/ContentFormat"), (0, .integer 65024), (9, .long 1668546817), (1, .long 256), (1, .long 1668612095), (1, .long 255), (1, u "HIGHEST"), (0, u "I"), (2, u "HIGHEST_TAGGED"), (0, u "FIRST_TAG"), (0, u "J"), (0, u "LAST_TAG"), (0, u "PER_BLOCK"), (3, u "tagNumber"), (0, u "(I)J"), (1, u "of"), (0, u "(J)I")] 17

def k2m0 : Method := { name := "<init>", desc := "()V", sig := { parameters := [], returnType := none }, accessFlags := 2, code := none }
def k2c1 : Code := { maxStack := 6, maxLocals := 1, code := prog_8_method_2_code, exceptionTable := #[], attributes := #[] }
def k2m1 : Method := { name := "tagNumber", desc := "(I)J", sig := { parameters := [.int], returnType := some .long }, accessFlags := 9, code := some k2c1 }
def k2c2 : Code := { maxStack := 4, maxLocals := 7, code := prog_8_method_3_code, exceptionTable := #[], attributes := #[] }
def k2m2 : Method := { name := "of", desc := "(J)I", sig := { parameters := [.long], returnType := some .int }, accessFlags := 9, code := some k2c2 }
/-- com/example/sealwright/sealwright/cmw/ContentFormat -/
def k2 : Class := { plain "com/example/sealwright/sealwright/cmw/ContentFormat" (some 0) with
  accessFlags := 49
  interfaces := #[]
  cf := some (fileOf pool2 7 #[] #[{ accessFlags := 2, nameIndex := 5, descriptorIndex := 6, attributes := #[] }, { accessFlags := 9, nameIndex := 39, descriptorIndex := 40, attributes := #[] }, { accessFlags := 9, nameIndex := 42, descriptorIndex := 43, attributes := #[] }] 49 2 #[] #[{ accessFlags := 25, nameIndex := 27, descriptorIndex := 28, attributes := #[] }, { accessFlags := 25, nameIndex := 31, descriptorIndex := 28, attributes := #[] }, { accessFlags := 26, nameIndex := 32, descriptorIndex := 33, attributes := #[] }, { accessFlags := 26, nameIndex := 34, descriptorIndex := 33, attributes := #[] }, { accessFlags := 26, nameIndex := 35, descriptorIndex := 28, attributes := #[] }])
  fields := #[{ name := "HIGHEST", type := .int, accessFlags := 25, slot := 0, constantValue := 0 }, { name := "HIGHEST_TAGGED", type := .int, accessFlags := 25, slot := 1, constantValue := 0 }, { name := "FIRST_TAG", type := .long, accessFlags := 26, slot := 2, constantValue := 0 }, { name := "LAST_TAG", type := .long, accessFlags := 26, slot := 3, constantValue := 0 }, { name := "PER_BLOCK", type := .int, accessFlags := 26, slot := 4, constantValue := 0 }]
  methods := #[k2m0, k2m1, k2m2]
  instanceTypes := #[]
  staticTypes := #[.int, .int, .long, .long, .int]
  resolved := Array.replicate 61 none
  statics := none }

def pool3 : Array CpInfo := pool [(1, u "java/lang/Cloneable"), (0, .class_ 1), (0, u "java/lang/Object"), (0, .class_ 3)] 3

/-- java/lang/Cloneable -/
def k3 : Class := { plain "java/lang/Cloneable" (some 0) with
  accessFlags := 1537
  interfaces := #[]
  cf := some (fileOf pool3 2 #[] #[] 1537 4 #[] #[])
  fields := #[]
  methods := #[]
  instanceTypes := #[]
  staticTypes := #[]
  resolved := Array.replicate 8 none
  statics := none }

def pool4 : Array CpInfo := pool [(1, u "java/io/Serializable"), (0, .class_ 1), (0, u "java/lang/Object"), (0, .class_ 3)] 3

/-- java/io/Serializable -/
def k4 : Class := { plain "java/io/Serializable" (some 0) with
  accessFlags := 1537
  interfaces := #[]
  cf := some (fileOf pool4 2 #[] #[] 1537 4 #[] #[])
  fields := #[]
  methods := #[]
  instanceTypes := #[]
  staticTypes := #[]
  resolved := Array.replicate 8 none
  statics := none }

/-- the primitive byte -/
def k5 : Class := { plain "byte" none with kind := .primitive 'B', accessFlags := 0x411 }
/-- [B -/
def k6 : Class := { plain "[B" (some 0) with kind := .array 5 .byte, interfaces := #[3, 4], accessFlags := 1041 }

/-- the primitive int -/
def k7 : Class := { plain "int" none with kind := .primitive 'I', accessFlags := 0x411 }
/-- [I -/
def k8 : Class := { plain "[I" (some 0) with kind := .array 7 .int, interfaces := #[3, 4], accessFlags := 1041 }

def heap : Heap := #[]
def classes : Array Class := #[k0, k1, k2, k3, k4, k5, k6, k7, k8]
def interned : List (Array UInt16 × Addr) := []
def slotsUsed : Nat := 0
def theMethod : MethodId := ⟨1, 2⟩
def args0 : Array Value := #[.long 5, .int 7]
def aboutOver (below : List Frame) : State where
  vm := { classes := classes, interned := interned.toArray }
  heap := heap
  slotsUsed := slotsUsed
  threads := #[{ frames := .invoking theMethod args0 :: below }]
def below0 : List Frame := [.native { method := ⟨0, 0⟩, args := #[] }]
def about1 : State := aboutOver below0
def p0 : Program := .bare "" "" ""
def e0 : Env := launch0.env 0 0 0
theorem w_frames : about1.frames = Frame.invoking theMethod args0 :: below0 := rfl
set_option maxRecDepth 65536 in
theorem w_args : argsFit about1.vm theMethod args0 = true := by decide +kernel
set_option maxRecDepth 65536 in
theorem w_heap : heapFits about1 = true := by decide +kernel
set_option maxRecDepth 65536 in
theorem w_runnable : about1.curStatus? = some .runnable := by decide +kernel
set_option maxRecDepth 65536 in
theorem w_alone : about1.alone = true := by decide +kernel
set_option maxRecDepth 65536 in
theorem w_named : about1.methodNamed? x = some theMethod := by decide +kernel
set_option maxRecDepth 65536 in
theorem w_hears : about1.hears theMethod below0 = true := by decide +kernel
set_option maxRecDepth 65536 in
theorem w_ripe : about1.ripe theMethod args0 below0 = true := by decide +kernel
theorem w_running : about1.status = .running := rfl
set_option maxRecDepth 65536 in
theorem w_room : about1.hasRoom e0.platform room_1 = true :=
  launch0.hasRoom_least _ room_1 (by decide +kernel) (by decide +kernel) (by decide +kernel) (by decide +kernel) (by decide +kernel) (by decide +kernel)
theorem allAtoms_all (ts : List Jvm.Cond) (a : Array Jvm.Value) (st : Jvm.State) : (allAtoms ts).before a st = ts.all (fun c => c.before a st) := by
  induction ts with
  | nil => rfl
  | cons c t ih =>
    show (Jvm.Cond.and c (allAtoms t)).before a st = _
    rw [Jvm.Cond.before_and, ih, List.all_cons]
def words1 : List Jvm.Cond := Jvm.Cond.code x code maxLocals ret :: tables_1
/-- a 'code' word, met by the world's own term for the bytes: nothing is compared byte by byte -/
theorem code_word {y : MethodName} {bytes : ByteArray} {mx : Nat} {rt : Option FieldType} {a : Array Value} {s : State} {m : MethodId} {meth : Method} {c : Code} (h1 : s.methodNamed? y = some m) (h2 : s.vm.method? m = some meth) (h3 : meth.code = some c) (h4 : c.code = bytes)
    (h5 : (c.maxLocals == mx && c.exceptionTable.isEmpty && decide (c.maxStack ≤ mostOperands) && decide (meth.sig.returnType = rt) && !meth.locks && decide (parseMethodDescriptor y.desc = some meth.sig)) = true) : (Jvm.Cond.code y bytes mx rt).before a s = true := by
  simp only [Bool.and_eq_true, beq_iff_eq, Bool.not_eq_true', decide_eq_true_eq] at h5
  obtain ⟨⟨⟨⟨⟨g1, g2⟩, g3⟩, g4⟩, g5⟩, g6⟩ := h5
  simp [Cond.before, Cond.holds, Cond.value, h1, h2, h3, h4, g1, g2, g3, g4, g5, g6]
def isCode : Jvm.Cond → Bool
  | .code _ _ _ _ => true
  | _ => false
theorem all_split {L : List Jvm.Cond} {P : Jvm.Cond → Bool} (h1 : L.all (fun c => isCode c || P c) = true) (h2 : ∀ c ∈ L.filter isCode, P c = true) : L.all P = true := by
  refine List.all_eq_true.mpr fun c hc => ?_
  have h := List.all_eq_true.mp h1 c hc
  rcases Bool.eq_false_or_eq_true (isCode c) with hi | hi
  · exact h2 c (List.mem_filter.mpr ⟨hc, hi⟩)
  · simpa [hi] using h
set_option maxRecDepth 65536 in
theorem w_c0 : (Jvm.Cond.code x code maxLocals ret).before args0 about1 = true := code_word (m := ⟨1, 2⟩) (meth := k1m2) (c := k1c2) (by decide +kernel) rfl rfl rfl (by decide +kernel)
set_option maxRecDepth 65536 in
theorem w_c1 : (Jvm.Cond.code ({ cls := "com/example/sealwright/sealwright/cmw/ContentFormatOfPinLaw", name := "pick", desc := "(JI)J" } : Jvm.MethodName) method_2_code (4 : Nat) (Option.some Jvm.ClassFile.FieldType.long)).before args0 about1 = true := code_word (m := ⟨1, 1⟩) (meth := k1m1) (c := k1c1) (by decide +kernel) rfl rfl rfl (by decide +kernel)
set_option maxRecDepth 65536 in
theorem w_c2 : (Jvm.Cond.code ({ cls := "com/example/sealwright/sealwright/cmw/ContentFormat", name := "of", desc := "(J)I" } : Jvm.MethodName) prog_8_method_3_code (7 : Nat) (Option.some Jvm.ClassFile.FieldType.int)).before args0 about1 = true := code_word (m := ⟨2, 2⟩) (meth := k2m2) (c := k2c2) (by decide +kernel) rfl rfl rfl (by decide +kernel)
set_option maxRecDepth 65536 in
theorem w_c3 : (Jvm.Cond.code ({ cls := "com/example/sealwright/sealwright/cmw/ContentFormat", name := "tagNumber", desc := "(I)J" } : Jvm.MethodName) prog_8_method_2_code (1 : Nat) (Option.some Jvm.ClassFile.FieldType.long)).before args0 about1 = true := code_word (m := ⟨2, 1⟩) (meth := k2m1) (c := k2c1) (by decide +kernel) rfl rfl rfl (by decide +kernel)
def codes1 : List Jvm.Cond := [Jvm.Cond.code x code maxLocals ret, Jvm.Cond.code ({ cls := "com/example/sealwright/sealwright/cmw/ContentFormatOfPinLaw", name := "pick", desc := "(JI)J" } : Jvm.MethodName) method_2_code (4 : Nat) (Option.some Jvm.ClassFile.FieldType.long), Jvm.Cond.code ({ cls := "com/example/sealwright/sealwright/cmw/ContentFormat", name := "of", desc := "(J)I" } : Jvm.MethodName) prog_8_method_3_code (7 : Nat) (Option.some Jvm.ClassFile.FieldType.int), Jvm.Cond.code ({ cls := "com/example/sealwright/sealwright/cmw/ContentFormat", name := "tagNumber", desc := "(I)J" } : Jvm.MethodName) prog_8_method_2_code (1 : Nat) (Option.some Jvm.ClassFile.FieldType.long)]
set_option maxRecDepth 65536 in
theorem codes_eq : words1.filter isCode = codes1 := rfl
theorem w_codes : ∀ c ∈ words1.filter isCode, c.before args0 about1 = true := by
  rw [codes_eq]
  intro c hc
  simp only [codes1, List.mem_cons, List.not_mem_nil, or_false] at hc
  rcases hc with rfl | rfl | rfl | rfl
  · exact w_c0
  · exact w_c1
  · exact w_c2
  · exact w_c3
set_option maxRecDepth 65536 in
theorem w_t1 : words1.all (fun c => isCode c || c.before args0 about1) = true := by decide +kernel
theorem w_tables : (allAtoms (Jvm.Cond.code x code maxLocals ret :: tables_1)).before args0 about1 = true := by
  rw [allAtoms_all]
  show words1.all (fun c => c.before args0 about1) = true
  refine all_split ?_ w_codes
  rw [w_t1]
set_option maxRecDepth 65536 in
theorem w_case : (Jvm.Cond.and given_1 narrow_1).before args0 about1 = true := by decide +kernel
theorem w_applies : (headSpec (Jvm.Cond.code x code maxLocals ret :: tables_1) room_1).applies x e0.platform about1 = true :=
  (Spec.applies_iff w_frames).mpr ⟨w_running, w_runnable, w_alone, w_named, w_hears, w_ripe, w_room, w_tables⟩
theorem atStart : AtStart classFile x code maxLocals ret World_1 tables_1 room_1 Calls_1 rest_1 Pre_1 launch0 p0 e0 about1 theMethod args0 below0 :=
  ⟨lists_1, trivial, launch0.admits_env _ _ _, launch0.least_env, fairChoices_fair.cas, fairChoices_fair.clock, w_frames, w_args, w_heap, w_applies, trivial, trivial, w_case⟩
end start1
theorem witness_1 : WitnessClaimed_1 := ⟨start1.p0, start1.e0, start1.about1, start1.theMethod, start1.args0, start1.below0, start1.atStart⟩
end Jvm.Pilot.@@N@@
